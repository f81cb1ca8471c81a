import Derived.Test.YtopfghmpaobnnaaDoorQSxDef
/-
  THE CHECKER: what it stands for.
-/
namespace Go.Proofs.YtopfghmpaobnnaaDoor.Rd
set_option linter.constructorNameAsVariable false
set_option linter.unusedVariables false
set_option linter.unusedSimpArgs false
open Go Go.Proofs.YtopfghmpaobnnaaDoor.Ax Go.Proofs.YtopfghmpaobnnaaDoor.Wire
set_option linter.unusedVariables false
set_option maxRecDepth 100000

/-- Where a level's struct lies: the block, the first cell, its number in a list. -/
structure Lv where
  b : Nat
  w : Nat
  j : Nat
structure Env where
  rb : Nat
  lv : List Lv
  ln : List Nat
  av : List AV
  lq : Int

def den (η : Env) : SV → AV → Prop
  | .u, _ => True
  | .b x, a => a = .b x
  | .i k n, a => a = .i k n
  | .z c, a => a = c.av
  | .rd, a => a = .p η.rb 0
  | .ptr l o, a => ∃ e, η.lv[l]? = some e ∧ a = .p e.b (e.w + o)
  | .pt n, a => η.av[n]? = some a
  | .cel n j, a => ∃ v, η.av[n]? = some v ∧ v.cells[j]? = some a
  | .row l, a => ∃ e n, η.lv[l]? = some e ∧ η.ln[l]? = some n ∧ a = .sl e.b 0 n
  | .len l, a => ∃ n, η.ln[l]? = some n ∧ a = .i .i32 (n : Nat) ∧ 0 < n ∧ n < 2147483648
  | .idx l, a => ∃ e n, η.lv[l]? = some e ∧ η.ln[l]? = some n ∧ a = .i .i32 (e.j : Nat) ∧ e.j < n ∧ n < 2147483648
  | .nxt l, a => ∃ e, η.lv[l]? = some e ∧ a = .i .i32 ((e.j + 1 : Nat) : Int)
  | .fin l, a => ∃ n, η.ln[l]? = some n ∧ a = .i .i32 (n : Nat)
  | .lq, a => a = .i .i32 η.lq
  | .neg, a => ∃ x, a = .i .i32 x ∧ x < 0

/-- All blocks but the reader's and the levels'. -/
def AO (η : Env) (i : Nat) : Prop := i ∉ η.rb :: η.lv.map Lv.b
def FR (η : Env) (sf : SF) (fr : List AV) : Prop := sf.length = fr.length ∧ ∀ (t : Nat) (v : SV) (a : AV), sf[t]? = some v → fr[t]? = some a → den η v a
/-- A level's cells. -/
def WC (η : Env) (e : Lv) (w : SF) (H : Heap) : Prop := ∃ ty kn cs, H[e.b]? = some (.cells ty kn cs) ∧ kn.own = true ∧ e.w + w.length ≤ cs.length ∧ ∀ (o : Nat) (v : SV), w[o]? = some v → ∃ a, cs[e.w + o]? = some a ∧ a.one = true ∧ den η v a
def WR (η : Env) (win : List SF) (H : Heap) : Prop := win.length = η.lv.length ∧ ∀ (l : Nat) (e : Lv) (w : SF), η.lv[l]? = some e → win[l]? = some w → e.w = e.j * w.length ∧ WC η e w H

/-- What lies in blocks of one kind lies, the same, in blocks of the other. -/
def KT (A : Nat → Prop) (H : Heap) (A' : Nat → Prop) (H' : Heap) : Prop := H.length ≤ H'.length ∧ ∀ (i : Nat) (b : Blk), A i → H[i]? = some b → A' i ∧ H'[i]? = some b
theorem KT.refl (A : Nat → Prop) (H : Heap) : KT A H A H := ⟨Nat.le_refl _, fun _ _ a h => ⟨a, h⟩⟩
theorem KT.trans {A B C : Nat → Prop} {H I J : Heap} (h : KT A H B I) (k : KT B I C J) : KT A H C J := ⟨Nat.le_trans h.1 k.1, fun i b a x => k.2 i b (h.2 i b a x).1 (h.2 i b a x).2⟩
theorem Keep.kt {A : Nat → Prop} {H H' : Heap} (h : Keep A H H') : KT A H A H' := ⟨h.1, fun i b a x => ⟨a, h.2 i b a x⟩⟩
theorem KT.keep {A : Nat → Prop} {H H' : Heap} (h : KT A H A H') : Keep A H H' := ⟨h.1, fun i b a x => (h.2 i b a x).2⟩
theorem KT.sub {A A' : Nat → Prop} (h : ∀ i, A i → A' i) (H : Heap) : KT A H A' H := ⟨Nat.le_refl _, fun i _ a x => ⟨h i a, x⟩⟩

/-- What is known of a list's value. -/
def ListRep (A : Nat → Prop) (H : Heap) (sz : Nat) (null : Bool) (R : V → List AV → Prop) (v : V) (av : AV) : Prop :=
  match v with
  | .l vs => (vs = [] ∧ av = (if null then .se else .s0)) ∨
    ∃ i ty bl, 0 < vs.length ∧ A i ∧ av = .sl i 0 vs.length ∧ H[i]? = some (.cells ty .row bl) ∧ bl.length = vs.length * sz ∧ ∀ (j : Nat) (x : V), vs[j]? = some x → R x ((bl.drop (j * sz)).take sz)
  | .nul => null = true ∧ av = .s0
  | _ => False
/-- What is known of the value of tags. -/
def TagRep (H : Heap) (v : V) (av : AV) : Prop := ∃ ts, v = .t ts ∧ okT 0 ts ∧ (ts = [] ∧ av = .g [.m0] ∨ False)
/-- The value's cells stand at a place. -/
def At (cs : List AV) (o w : Nat) (R : AV → Prop) : Prop := ∃ av, R av ∧ av.cells.length = w ∧ o + w ≤ cs.length ∧ (cs.drop o).take w = av.cells
def Rep (A : Nat → Prop) (H : Heap) : F → V → List AV → Prop
  | .nil, v, _ => v = .u
  | .leaf o k n r, v, cs => ∃ x y, v = .c x y ∧ At cs o k.wide (fun av => RepK A H k n av x) ∧ Rep A H r y cs
  | .list o sz n e r, v, cs => ∃ x y, v = .c x y ∧ At cs o 1 (fun av => ListRep A H sz n (Rep A H e) x av) ∧ Rep A H r y cs
  | .tags o r, v, cs => ∃ x y, v = .c x y ∧ At cs o 1 (fun av => TagRep H x av) ∧ Rep A H r y cs
def RepE (A : Nat → Prop) (H : Heap) : Ev → V → AV → Prop
  | .leaf k n, v, av => RepK A H k n av v
  | .list sz n e, v, av => ListRep A H sz n (Rep A H e) v av
  | .tags, v, av => TagRep H v av
theorem Rep.node {A : Nat → Prop} {H : Heap} (e : Ev) (o : Nat) (r : F) (v : V) (cs : List AV) : Rep A H (e.node o r) v cs ↔ ∃ x y, v = .c x y ∧ At cs o e.wide (RepE A H e x) ∧ Rep A H r y cs := by
  cases e <;> rfl

theorem BytesAt.kt {A A' : Nat → Prop} {H H' : Heap} {av : AV} {bs : B} (h : BytesAt A H av bs) (k : KT A H A' H') : BytesAt A' H' av bs := by
  cases h with
  | z => exact .z
  | e => exact .e
  | s hA h h0 h1 => exact .s (k.2 _ _ hA h).1 (k.2 _ _ hA h).2 h0 h1
theorem RepK.kt {A A' : Nat → Prop} {H H' : Heap} {kd : K} {n : Bool} {av : AV} {v : V} (h : RepK A H kd n av v) (k : KT A H A' H') : RepK A' H' kd n av v := by
  cases kd <;> cases v <;> simp only [RepK] at h ⊢ <;> first | exact h | skip
  · split at h
    · rename_i hn
      rw [if_pos hn]
      obtain ⟨i, ty, ha, hp, hh⟩ := h
      exact ⟨i, ty, (k.2 _ _ ha hh).1, hp, (k.2 _ _ ha hh).2⟩
    · rename_i hn
      rw [if_neg hn]; exact h
  · exact ⟨BytesAt.kt h.1 k, h.2⟩
theorem Rep.kt {A A' : Nat → Prop} {H H' : Heap} (k : KT A H A' H') : ∀ {f : F} {v : V} {cs : List AV}, Rep A H f v cs → Rep A' H' f v cs
  | .nil, v, cs, h => h
  | .leaf o kd n r, v, cs, h => by
    obtain ⟨x, y, rfl, ⟨av, h1, h2⟩, h3⟩ := h
    exact ⟨x, y, rfl, ⟨av, RepK.kt h1 k, h2⟩, Rep.kt k h3⟩
  | .list o sz n e r, v, cs, h => by
    obtain ⟨x, y, rfl, ⟨av, h1, h2⟩, h3⟩ := h
    refine ⟨x, y, rfl, ⟨av, ?_, h2⟩, Rep.kt k h3⟩
    cases x with
    | l vs =>
      rcases h1 with h1 | ⟨i, ty, bl, p0, pA, p1, p2, p3, p4⟩
      · exact .inl h1
      · exact .inr ⟨i, ty, bl, p0, (k.2 _ _ pA p2).1, p1, (k.2 _ _ pA p2).2, p3, fun j x hj => Rep.kt k (p4 j x hj)⟩
    | nul => exact h1
    | _ => exact h1
  | .tags o r, v, cs, h => by
    obtain ⟨x, y, rfl, ⟨av, h1, h2⟩, h3⟩ := h
    exact ⟨x, y, rfl, ⟨av, h1, h2⟩, Rep.kt k h3⟩
theorem ListRep.kt {A A' : Nat → Prop} {H H' : Heap} (k : KT A H A' H') {sz : Nat} {n : Bool} {f : F} {v : V} {av : AV} (h : ListRep A H sz n (Rep A H f) v av) : ListRep A' H' sz n (Rep A' H' f) v av := by
  cases v with
  | l vs =>
    rcases h with h1 | ⟨i, ty, bl, p0, pA, p1, p2, p3, p4⟩
    · exact .inl h1
    · exact .inr ⟨i, ty, bl, p0, (k.2 _ _ pA p2).1, p1, (k.2 _ _ pA p2).2, p3, fun j x hj => Rep.kt k (p4 j x hj)⟩
  | nul => exact h
  | _ => exact h
theorem RepE.kt {A A' : Nat → Prop} {H H' : Heap} (k : KT A H A' H') {e : Ev} {v : V} {av : AV} (h : RepE A H e v av) : RepE A' H' e v av := by
  cases e with
  | leaf kd n => exact RepK.kt h k
  | list sz n f => exact ListRep.kt k h
  | tags => exact h

/-- A function that reads a leaf. -/
structure RdV (f : FuncId) (flex : Bool) (k : K) (null : Bool) : Prop where
  good : ∀ (A : Nat → Prop) (H : Heap) (rb : Nat) (nn : Bool) (bs : B) (v : V) (r : B), Room A H rb → RdAt A tR H rb nn (some bs) → decK flex k null bs = some (v, r) →
    ∃ av H', CA P NS f [.p rb 0] H (av, H') ∧ RepK A H' k null av v ∧ av.cells.length = k.wide ∧ av.cells.all AV.one = true ∧ RdAt A tR H' rb true (some r) ∧ Keep A H H'
  bad : ∀ (A : Nat → Prop) (H : Heap) (rb : Nat) (nn : Bool) (st : Option B), Room A H rb → RdAt A tR H rb nn st → st.bind (decK flex k null) = none →
    ∃ av H', CA P NS f [.p rb 0] H (av, H') ∧ av.cells.length = k.wide ∧ av.cells.all AV.one = true ∧ RdAt A tR H' rb true none ∧ Keep A H H'
/-- A function that reads tags. -/
structure RdT (f : FuncId) : Prop where
  good : ∀ (A : Nat → Prop) (H : Heap) (rb : Nat) (nn : Bool) (bs : B) (v : V) (r : B), Room A H rb → RdAt A tR H rb nn (some bs) → Ev.tags.dec true bs = some (v, r) →
    ∃ av H', CA P NS f [.p rb 0] H (av, H') ∧ TagRep H' v av ∧ av.cells.length = 1 ∧ av.cells.all AV.one = true ∧ RdAt A tR H' rb true (some r) ∧ Keep A H H'
  bad : ∀ (A : Nat → Prop) (H : Heap) (rb : Nat) (nn : Bool) (st : Option B), Room A H rb → RdAt A tR H rb nn st → st.bind (Ev.tags.dec true) = none →
    ∃ av H', CA P NS f [.p rb 0] H (av, H') ∧ av.cells.length = 1 ∧ av.cells.all AV.one = true ∧ RdAt A tR H' rb true none ∧ Keep A H H'
structure RdOk (f : FuncId) : Prop where
  run : ∀ (A : Nat → Prop) (H : Heap) (rb : Nat) (nn : Bool) (st : Option B), RdAt A tR H rb nn st → CA P NS f [.p rb 0] H (.b st.isSome, H)
structure RdDone (f : FuncId) : Prop where
  run : ∀ (A : Nat → Prop) (H : Heap) (rb : Nat) (nn : Bool) (st : Option B), Room A H rb → RdAt A tR H rb nn st → CA P NS f [.p rb 0] H (if st.isSome then .n else .e, H)

theorem Room.kt {A A' : Nat → Prop} {H H' : Heap} {rb rb' : Nat} (h : Room A H rb) (k : KT A H A' H') (no : ¬ A' rb') (new : ∀ i, H'.length ≤ i → A' i) : Room A' H' rb' where
  no := no
  new := new
  be := h.be.2.elim fun ty x => ⟨(k.2 _ _ h.be.1 x).1, ty, (k.2 _ _ h.be.1 x).2⟩
  err := h.err.2.elim fun ty x => ⟨(k.2 _ _ h.err.1 x).1, ty, (k.2 _ _ h.err.1 x).2⟩
theorem CA.det {P : Program} {S : CallA} {f : FuncId} {args : List AV} {H : Heap} {r r' : AV × Heap} (h : CA P S f args H r) (k : CA P S f args H r') : r = r' := by
  obtain ⟨n, h⟩ := h
  obtain ⟨m, k⟩ := k
  have a := h (max n m) (by omega)
  have b := k (max n m) (by omega)
  rw [a] at b
  exact Option.some.inj b
end Go.Proofs.YtopfghmpaobnnaaDoor.Rd

