import Derived.Test.YtopfghmpaobnnaaDoorQWxDef
/-
  THE WRITING CODE's CHECKER: what it stands for.
-/
namespace Go.Proofs.YtopfghmpaobnnaaDoor.Rd
set_option linter.constructorNameAsVariable false
set_option linter.unusedVariables false
set_option linter.unusedSimpArgs false
open Go Go.Proofs.YtopfghmpaobnnaaDoor.Ax Go.Proofs.YtopfghmpaobnnaaDoor.Wire
set_option linter.unusedVariables false
set_option maxRecDepth 100000

def slen : AV → Option Nat
  | .s0 | .se => some 0
  | .sl _ 0 n => some n
  | _ => none
def isS0 : AV → Bool
  | .s0 => true
  | _ => false
/-- How many tags. -/
def tagN (H : Heap) : AV → Option Nat
  | .m0 => some 0
  | _ => none
/-- A level: the struct's block, its first cell, its width, its cells; in a list: where the list lies in the level below, the place in it, its length. -/
structure WL where
  b : Nat
  w : Nat
  sz : Nat
  cs : List AV
  o : Nat
  j : Nat
  n : Nat
structure WSta where
  fr : List AV
  H : Heap
  lv : List WL
  out : AV
  bs : B
  vs : List (List V)

def denW (H0 : Heap) (cur : Nat) (out : AV) (lv : List WL) : WV → AV → Prop
  | .u, _ => True
  | .b x, a => a = .b x
  | .i k n, a => a = .i k n
  | .z c, a => a = c.av
  | .ptr l o, a => ∃ e, lv[l]? = some e ∧ e.j < e.n ∧ a = .p e.b (e.w + o)
  | .cel l o, a => ∃ e, lv[l]? = some e ∧ e.cs[o]? = some a
  | .cels l o w, a => ∃ e, lv[l]? = some e ∧ o + w ≤ e.cs.length ∧ a = .g ((e.cs.drop o).take w)
  | .out k, a => k = cur → a = out
  | .cnt l o, a => ∃ e x n, lv[l]? = some e ∧ e.cs[o]? = some x ∧ slen x = some n ∧ a = .i .i64 (n : Nat)
  | .isn l o, a => ∃ e x n, lv[l]? = some e ∧ e.cs[o]? = some x ∧ slen x = some n ∧ a = .b (isS0 x)
  | .tl w l o, a => ∃ e x n, lv[l]? = some e ∧ e.cs[o]? = some x ∧ tagN H0 x = some n ∧ n < 4294967296 ∧ a = .i (if w then .u32 else .i64) (n : Nat)
  | .idx l, a => ∃ e, lv[l]? = some e ∧ a = .i .i64 (e.j : Nat) ∧ e.j < e.n ∧ e.n < 4611686018427387904
  | .nxt l, a => ∃ e, lv[l]? = some e ∧ a = .i .i64 ((e.j + 1 : Nat) : Int)
  | .fin l, a => ∃ e, lv[l]? = some e ∧ a = .i .i64 (e.n : Nat)

/-- What was written so far. -/
def OutAt (L0 : Nat) (H : Heap) (out : AV) (bs : B) : Prop := (out = .s0 ∧ bs = []) ∨ ∃ i, L0 ≤ i ∧ out = .sl i 0 bs.length ∧ H[i]? = some (.cells tU .row (u8s bs)) ∧ 0 < bs.length
/-- A writing goes on: what lay there before stays. -/
structure WKeep (L0 : Nat) (H H' : Heap) : Prop where
  at_ : ∀ i, i < L0 → H'[i]? = H[i]?
  len : H.length ≤ H'.length
theorem WKeep.refl (L0 : Nat) (H : Heap) : WKeep L0 H H := ⟨fun _ _ => rfl, Nat.le_refl _⟩
theorem WKeep.trans {L0 : Nat} {H H' H'' : Heap} (h : WKeep L0 H H') (k : WKeep L0 H' H'') : WKeep L0 H H'' := ⟨fun i hi => (k.at_ i hi).trans (h.at_ i hi), Nat.le_trans h.len k.len⟩

structure ApK (f : FuncId) (flex : Bool) (k : K) (null : Bool) : Prop where
  run : ∀ (L0 : Nat) (H : Heap) (out : AV) (bs : B) (av : AV) (v : V), L0 ≤ H.length → OutAt L0 H out bs → RepK (fun i => i < L0) H k null av v → okK flex k null v → bs.length + (encK flex k v).length ≤ 1099511627776 →
    ∃ out' H', CA P NS f [out, av] H (out', H') ∧ OutAt L0 H' out' (bs ++ encK flex k v) ∧ WKeep L0 H H'
structure ApL (f : FuncId) (flex : Bool) (null : Bool) : Prop where
  run : ∀ (L0 : Nat) (H : Heap) (out : AV) (bs : B) (n : Nat) (z : Bool), L0 ≤ H.length → OutAt L0 H out bs → n < 2147483648 → bs.length + 8 ≤ 1099511627776 →
    ∃ out' H', CA P NS f (out :: .i .i64 (n : Nat) :: (if null then [.b z] else [])) H (out', H') ∧ OutAt L0 H' out' (bs ++ (if null && z then cnt0 flex 4 else cnt flex 4 n)) ∧ WKeep L0 H H'
structure ApU (f : FuncId) : Prop where
  run : ∀ (L0 : Nat) (H : Heap) (out : AV) (bs : B) (n : Nat), L0 ≤ H.length → OutAt L0 H out bs → n < 4294967296 → bs.length + 8 ≤ 1099511627776 →
    ∃ out' H', CA P NS f [out, .i .u32 (n : Nat)] H (out', H') ∧ OutAt L0 H' out' (bs ++ uv n) ∧ WKeep L0 H H'
structure ApN (f : FuncId) : Prop where
  run : ∀ (H : Heap) (b o : Nat) (ty : TypeId) (kn : Kn) (cs : List AV) (x : AV) (n : Nat), H[b]? = some (.cells ty kn cs) → cs[o]? = some x → tagN H x = some n → CA P NS f [.p b o] H (.i .i64 (n : Nat), H)
structure ApE (f : FuncId) : Prop where
  run : ∀ (L0 : Nat) (H : Heap) (out : AV) (bs : B) (b o : Nat) (ty : TypeId) (kn : Kn) (cs : List AV) (x : AV) (ts : List (Nat × B)), L0 ≤ H.length → OutAt L0 H out bs → H[b]? = some (.cells ty kn cs) → cs[o]? = some x → b < L0 → TagRep H (.t ts) (.g [x]) →
    bs.length + (encT ts).length ≤ 1099511627776 → ∃ out' H', CA P NS f [.p b o, out] H (out', H') ∧ OutAt L0 H' out' (bs ++ encT ts) ∧ WKeep L0 H H'
def WPrimOK (C : Cfg) (f : FuncId) : WPrim → Prop
  | .leaf k n fx => fxOk C.flex fx = true → ApK f C.flex k n
  | .len null fx => fx = C.flex → ApL f C.flex null
  | .uv => ApU f
  | .tlen => ApN f
  | .each => ApE f
def WPrims (C : Cfg) (prim : List (FuncId × WPrim)) : Prop := ∀ f p, prim.lookup f = some p → WPrimOK C f p

/-- What may be written of a part. -/
def okE (flex : Bool) : Ev → V → Prop
  | .leaf k n, v => okK flex k n v
  | .list _ n e, .l vs => vs.length < 2 ^ 31 ∧ ∀ x ∈ vs, ok flex e x
  | .list _ n _, .nul => n = true
  | .list _ _ _, _ => False
  | .tags, .t ts => okT 0 ts ∧ ts.length < 2 ^ 32
  | .tags, _ => False
/-- What the parts are, in the struct's cells. -/
def Said (flex : Bool) (A : Nat → Prop) (H : Heap) (cs : List AV) (pl : List (Ev × Nat)) (vs : List V) : Prop :=
  ∀ (i : Nat) (e : Ev) (o : Nat), pl[i]? = some (e, o) → ∃ v, vs[i]? = some v ∧ At cs o e.wide (RepE A H e v) ∧ okE flex e v
/-- What is written of them. -/
def encs (flex : Bool) : List (Ev × Nat) → List V → B
  | [], _ => []
  | (e, _) :: r, v :: vs => e.enc flex v ++ encs flex r vs
  | _ :: _, [] => []
theorem encs_snoc (flex : Bool) : ∀ (l : List (Ev × Nat)) (vs : List V) (e : Ev) (o : Nat) (v : V), vs[l.length]? = some v → encs flex (l ++ [(e, o)]) vs = encs flex l vs ++ e.enc flex v
  | [], vs, e, o, v, h => by
    cases vs with
    | nil => simp at h
    | cons a r => simp at h; subst h; simp [encs]
  | (e', o') :: l, vs, e, o, v, h => by
    cases vs with
    | nil => simp at h
    | cons a r =>
      simp only [List.cons_append, encs, List.append_assoc]
      rw [encs_snoc flex l r e o v (by simpa using h)]
theorem encs_len (flex : Bool) : ∀ (a b : List (Ev × Nat)) (vs : List V), (encs flex a vs).length ≤ (encs flex (a ++ b) vs).length
  | [], b, vs => by simp [encs]
  | (e', o') :: a, b, vs => by
    cases vs with
    | nil => simp [encs]
    | cons v r =>
      simp only [List.cons_append, encs, List.length_append]
      have := encs_len flex a b r
      omega
/-- What was counted, and not yet written. -/
def pendB (flex : Bool) (H : Heap) (cs : List AV) : Option (Nat × Option Bool) → Option B
  | none => some []
  | some (o, none) => (cs[o]?).bind fun x => (tagN H x).map uv
  | some (o, some null) => (cs[o]?).bind fun x => (slen x).map fun n => if null && isS0 x then cnt0 flex 4 else cnt flex 4 n

structure WOK (C : Cfg) (H0 : Heap) (L0 : Nat) (o0 : B) (s : WS) (σ : WSta) : Prop where
  fr : s.fr.length = σ.fr.length ∧ ∀ (t : Nat) (v : WV) (a : AV), s.fr[t]? = some v → σ.fr[t]? = some a → denW H0 s.cur σ.out σ.lv v a
  lvl : s.lv.length = σ.lv.length
  exl : s.exp.length = σ.lv.length
  vsl : σ.vs.length = σ.lv.length
  pos : 0 < σ.lv.length
  lv : ∀ (l : Nat) (e : WL), σ.lv[l]? = some e → s.lv[l]? = some (e.o, e.sz) ∧ (e.j < e.n → e.cs.length = e.sz ∧ e.b < L0 ∧ ∃ ty kn bl, H0[e.b]? = some (.cells ty kn bl) ∧ e.w + e.sz ≤ bl.length ∧ (bl.drop e.w).take e.sz = e.cs)
  up : ∀ (l : Nat) (p e : WL), σ.lv[l]? = some p → σ.lv[l + 1]? = some e → ∃ x, p.cs[e.o]? = some x ∧ slen x = some e.n ∧ (e.j < e.n → x = .sl e.b 0 e.n ∧ e.w = e.j * e.sz)
  said : ∀ (l : Nat) (e : WL) (pl : List (Ev × Nat)) (vs : List V), σ.lv[l]? = some e → s.exp[l]? = some pl → σ.vs[l]? = some vs → Said C.flex (fun i => i < L0) H0 e.cs pl vs
  ver : ∀ n, s.ver = some n → ∃ e, σ.lv[0]? = some e ∧ e.cs[0]? = some (.i .i16 n)
  keep : WKeep L0 H0 σ.H
  l0 : L0 ≤ H0.length
  out : OutAt L0 σ.H σ.out σ.bs
  bytes : ∀ (e : WL) (pl : List (Ev × Nat)) (vs : List V), σ.lv[s.top]? = some e → s.exp[s.top]? = some pl → σ.vs[s.top]? = some vs → ∃ p, pendB C.flex H0 e.cs s.pend = some p ∧ σ.bs = o0 ++ encs C.flex (pl.take s.k) vs ++ p
  bound : ∀ (pl : List (Ev × Nat)) (vs : List V), s.exp[s.top]? = some pl → σ.vs[s.top]? = some vs → o0.length + (encs C.flex pl vs).length + 8 ≤ 1099511627776
end Go.Proofs.YtopfghmpaobnnaaDoor.Rd

