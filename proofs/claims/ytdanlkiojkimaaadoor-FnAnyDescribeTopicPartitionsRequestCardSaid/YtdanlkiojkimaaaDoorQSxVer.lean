/-
  THE CHECKER, where the version stands ahead of all: it is read first, and known to be from lo to hi.
-/
import Derived.Test.YtdanlkiojkimaaaDoorQSxTops
import Derived.Test.YtdanlkiojkimaaaDoorQWireS
set_option linter.constructorNameAsVariable false
set_option linter.unusedVariables false
set_option linter.unusedSimpArgs false
namespace Go.Proofs.YtdanlkiojkimaaaDoor.Rd
open Go Go.Proofs.YtdanlkiojkimaaaDoor.Ax Go.Proofs.YtdanlkiojkimaaaDoor.Wire
set_option maxRecDepth 100000
def takesI (C : Cfg) (k : K) : Oper → Option (Nat × FuncId × Operand)
  | ⟨some d, .call { callee := .value (.func f), args, .. }, _, _, _, none⟩ => match C.prim.lookup f, args.toList with
    | some (.leaf k' false none), [x] => if k' = k then some (d, f, x) else none
    | _, _ => none
  | _ => none
def splitI (C : Cfg) (k : K) : List Oper → Option (List Oper × Nat × FuncId × Operand × List Oper)
  | [] => none
  | o :: r => match takesI C k o with
    | some (d, f, x) => some ([], d, f, x, r)
    | none => (splitI C k r).map fun (a, b) => (o :: a, b)
noncomputable def verS (C : Cfg) (inl : Inl) (ops : List Oper) (s : SS) : Option SS :=
  match splitI C .i16 ops with
  | some (pre, d, f, x, post) => match opsS C none inl ops pre s with
    | some s1 => if evS s1.fr x = some .rd ∧ s1.rdy = true ∧ s1.evs = [] ∧ s1.base = 1 then opsS C none inl ops post ({ s1 with evs := s1.evs ++ [Ev.leaf .i16 false] }.put (some d) (.pt 1)) else none
    | none => none
  | none => none
def specV (lo hi : Int) (v : SV) : SV := if v = .cel 1 0 ∨ v = .pt 1 then .vr 1 lo hi else v
noncomputable def goV (C : Cfg) (lo hi : Int) : List Code → SS → Option SS
  | .region _ ops false :: .region _ ops2 false :: rest, s => match verS C (inlS C 6) ops.toList s with
    | some sA => match opsS C none (inlS C 6) ops2.toList ops2.toList sA with
      | some sB => chk C 400 rest { sB with fr := sB.fr.map (specV lo hi) }
      | none => none
    | none => none
  | _, _ => none
noncomputable def chkTopV (C : Cfg) (lo hi : Int) (fn : Func) (w0 : SF) : Option (List (Ev × Nat) × SF) := chkTopB C (goV C lo hi) fn w0
theorem takesI_spec {C : Cfg} {k : K} {o : Oper} {d : Nat} {f : FuncId} {x : Operand} (h : takesI C k o = some (d, f, x)) :
    ∃ args ats ty pos af, o = ⟨some d, .call { callee := .value (.func f), args := args, argTypes := ats }, ty, pos, af, none⟩ ∧ C.prim.lookup f = some (.leaf k false none) ∧ args.toList = [x] := by
  unfold takesI at h
  split at h
  · split at h
    · rename_i hl ha
      split at h
      · rename_i hk
        subst hk
        simp only [Option.some.injEq, Prod.mk.injEq] at h
        obtain ⟨rfl, rfl, rfl⟩ := h
        exact ⟨_, _, _, _, _, rfl, hl, ha⟩
      · cases h
    · cases h
  · cases h
theorem splitI_spec {C : Cfg} {k : K} : ∀ {l pre post : List Oper} {d : Nat} {f : FuncId} {x : Operand}, splitI C k l = some (pre, d, f, x, post) →
    ∃ args ats ty pos af, l = pre ++ ⟨some d, .call { callee := .value (.func f), args := args, argTypes := ats }, ty, pos, af, none⟩ :: post ∧ C.prim.lookup f = some (.leaf k false none) ∧ args.toList = [x]
  | [], _, _, _, _, _, h => by cases h
  | o :: r, pre, post, d, f, x, h => by
    unfold splitI at h
    split at h
    · rename_i d' f' x' ht
      simp only [Option.some.injEq, Prod.mk.injEq] at h
      obtain ⟨rfl, rfl, rfl, rfl, rfl⟩ := h
      obtain ⟨args, ats, ty, pos, af, rfl, e2, e3⟩ := takesI_spec ht
      exact ⟨args, ats, ty, pos, af, rfl, e2, e3⟩
    · simp only [Option.map_eq_some_iff] at h
      obtain ⟨⟨a, b⟩, h1, h2⟩ := h
      simp only [Prod.mk.injEq] at h2
      obtain ⟨rfl, rfl⟩ := h2
      obtain ⟨args, ats, ty, pos, af, e1, e2, e3⟩ := splitI_spec h1
      exact ⟨args, ats, ty, pos, af, by rw [e1]; rfl, e2, e3⟩
theorem big_slot : ∀ l : List Oper, ∃ q : Nat, ∀ q', q ≤ q' → ∀ o ∈ l, o.dst ≠ some q'
  | [] => ⟨0, fun q' _ o h => by cases h⟩
  | o :: l => by
    obtain ⟨q, hq⟩ := big_slot l
    refine ⟨max q (o.dst.getD 0 + 1), fun q' h o' ho => ?_⟩
    rcases List.mem_cons.1 ho with rfl | ho
    · intro hd
      rw [hd] at h
      simp at h
      omega
    · exact hq q' (by omega) o' ho
theorem verS_sound {C : Cfg} (hC : Prims C) (hN : ∀ f, C.prim.lookup f = some (.leaf .i16 false none) → RdN f .i16 (rdI 2)) {ops : Array Oper} {i : Nat} {s s' : SS} (hs : verS C (inlS C 6) ops.toList s = some s') {bs : B} {σ : Sta} (h : OK C (some bs) s σ) :
    ∃ σ', RU P NS (.region i ops false) σ.fr σ.H (.normal, σ'.fr, σ'.H) ∧ OK C (some bs) s' σ' ∧ Step s s' σ σ' ∧ σ'.η.av[1]? = some (.i .i16 (verOf bs)) := by
  have hI := inlS_ok hC 6
  unfold verS at hs
  split at hs
  rotate_left
  · cases hs
  rename_i pre d f x post hsp
  split at hs
  rotate_left
  · cases hs
  rename_i s1 hpre
  split at hs
  rotate_left
  · cases hs
  rename_i hc
  obtain ⟨hx, hry, hev, hbase⟩ := hc
  obtain ⟨args, ats, ty, pos, af, hl, hlk, ha⟩ := splitI_spec hsp
  obtain ⟨q, hq⟩ := big_slot pre
  obtain ⟨σ1, w1, w2, w3, _⟩ := opsS_walk hC hI (ops := ops) (q := q) pre hpre (hq q (Nat.le_refl _)) h
  obtain ⟨xa, e1, rfl⟩ := evS_sound w2.fr hx
  obtain ⟨n, H1, st1, c, r, hl1, hk, hres⟩ := num_both (hN f hlk) w2.room (w2.rd hry)
  have hst : σ1.st = some bs := w2.st_nil hev
  have hn : n = verOf bs := by
    unfold verOf
    rw [hst] at hres
    simp only [Option.bind_some] at hres
    split at hres
    · rename_i hd; rw [hd]; exact hres.2
    · rename_i v r' hd; rw [hd]; exact hres.2
  subst hn
  have hd16 : ∀ r0, (Ev.leaf .i16 false).dec C.flex r0 = (rdI 2 r0).map fun (n, r) => (V.i n, r) := fun _ => rfl
  obtain ⟨p1, p2⟩ := w2.read hry (e := .leaf .i16 false) (y := .i .i16 (verOf bs)) (H1 := H1) (nn1 := true) (st1 := st1) (vs1 := match σ1.st.bind (rdI 2) with | none => [] | some (v, _) => σ1.vs ++ [V.i v]) rfl rfl r hl1 hk (by
    rw [hst] at hres ⊢
    simp only [Option.bind_some, hd16] at hres ⊢
    cases hd : rdI 2 bs with
    | none => rw [hd] at hres; exact hres.1
    | some z =>
      obtain ⟨v, r'⟩ := z
      rw [hd] at hres
      refine ⟨hres.1, rfl, ?_⟩
      rw [hres.2]; rfl)
  have hav : (σ1.η.av ++ [AV.i .i16 (verOf bs)])[1]? = some (.i .i16 (verOf bs)) := by
    have := w2.avl
    rw [hbase, hev] at this
    have : σ1.η.av.length = 1 := this
    rw [List.getElem?_append_right (by omega), this]; rfl
  have g1 := p1.put (v := .pt 1) (a := .i .i16 (verOf bs)) hav (some d)
  have g2 := p2.put (some d) (.pt 1) (.i .i16 (verOf bs))
  obtain ⟨σ2, o1, o2, o3, _⟩ := opsS_sound hC hI (ops := ops) post hs g1 (fun m hm => by cases hm)
  refine ⟨σ2, ?_, o2, (w3.trans g2).trans o3, o3.av.at_ _ _ hav⟩
  refine RU.region ?_
  rw [hl]
  refine w1 _ _ ?_
  exact One.os rfl (.call rfl (evl1 ha e1) c) o1
theorem FR.spec {η : Env} {sf : SF} {fr : List AV} (h : FR η sf fr) {k lo hi : Int} (hk : η.av[1]? = some (.i .i16 k)) (h1 : lo ≤ k) (h2 : k ≤ hi) : FR η (sf.map (specV lo hi)) fr := by
  refine ⟨by simp [h.1], fun t x a hx ha => ?_⟩
  simp only [List.getElem?_map, Option.map_eq_some_iff] at hx
  obtain ⟨y, hy, rfl⟩ := hx
  have d := h.2 t y a hy ha
  unfold specV
  split
  · rename_i e
    refine ⟨k, hk, ?_, h1, h2⟩
    rcases e with rfl | rfl
    · obtain ⟨v, v1, v2⟩ := d
      rw [hk] at v1; cases v1
      simp [AV.cells] at v2
      exact v2.symm
    · have d : η.av[1]? = some a := d
      rw [hk] at d; cases d; rfl
  · exact d
theorem goV_sound {C : Cfg} (hC : Prims C) (hN : ∀ f, C.prim.lookup f = some (.leaf .i16 false none) → RdN f .i16 (rdI 2)) {lo hi : Int} {bs : B} (h1 : lo ≤ verOf bs) (h2 : verOf bs ≤ hi) : ∀ cs s s', goV C lo hi cs s = some s' → ∀ σ, OK C (some bs) s σ → σ.η.ln.length = σ.η.lv.length → Outcome C cs (some bs) s s' σ := by
  intro cs s s' h σ ok hl
  unfold goV at h
  split at h
  rotate_left
  · cases h
  rename_i i1 ops i2 ops2 rest
  split at h
  rotate_left
  · cases h
  rename_i sA hA
  split at h
  rotate_left
  · cases h
  rename_i sB hB
  obtain ⟨σ1, a1, a2, a3, a4⟩ := verS_sound hC hN (i := i1) hA ok
  obtain ⟨σ2, b1, b2, b3, _⟩ := opsS_sound hC (inlS_ok hC 6) (ops := ops2) ops2.toList hB a2 (fun m hm => by cases hm)
  have hk := b3.av.at_ _ _ a4
  have c2 := b2.fr_to (b2.fr.spec hk h1 h2)
  have c3 : Step sB { sB with fr := sB.fr.map (specV lo hi) } σ2 σ2 := ⟨rfl, .refl _, rfl, rfl, .refl _, .refl _ _, .refl _ _ _, rfl, fun l w h => ⟨w, h, rfl⟩, ⟨[], by simp⟩, by simp, rfl, rfl, fun _ => rfl⟩
  have l1 := a3.lnl a2 hl
  have l2 := b3.lnl b2 l1
  exact Outcome.cons a1 a3 (Outcome.cons (RU.region b1) (b3.trans c3) (chk_sound hC 400 _ _ _ h (some bs) σ2 c2 l2))
theorem chkTopV_sound {C : Cfg} (hC : Prims C) (hN : ∀ f, C.prim.lookup f = some (.leaf .i16 false none) → RdN f .i16 (rdI 2)) {lo hi : Int} {fn : Func} {f : FuncId} {w0 : SF} {pl : List (Ev × Nat)} {wF : SF} (h : chkTopV C lo hi fn w0 = some (pl, wF)) (hf : P.funcs[f]? = some fn) {H : Heap} {mb rb0 : Nat} {ty : TypeId} {cs : List AV} {src : AV} {bs : B}
    (hm : H[mb]? = some (.cells ty .vr cs)) (hcs : cs.length = w0.length) (hw : ∀ (o : Nat) (v : SV), w0[o]? = some v → ∃ a c, cs[o]? = some a ∧ a.one = true ∧ v.con = some c ∧ a = c)
    (hrm : rb0 ≠ mb) (hrl : rb0 < H.length) (R : Room (fun i => i ∉ [rb0, mb]) H rb0) (hb : BytesAt (fun i => i ∉ [rb0, mb]) H src bs) (hnt : 3 ≤ fn.ntmps) (hns : noNS f = true) (hlo : lo ≤ verOf bs) (hhi : verOf bs ≤ hi) :
    (dec C.flex (nodes pl) bs = none → ∃ H', CA P NS f [.p mb 0, src, .b false] H (.e, H')) ∧
    (∀ v r, dec C.flex (nodes pl) bs = some (v, r) → ∃ H' cs' rb, CA P NS f [.p mb 0, src, .b false] H (.n, H') ∧ H.length ≤ H'.length ∧ (∀ i b, i ≠ mb → H[i]? = some b → H'[i]? = some b) ∧
      H'[mb]? = some (.cells ty .vr cs') ∧ cs'.length = cs.length ∧ H.length ≤ rb ∧ Rep (fun i => i ∉ [rb, mb]) H' (nodes pl) v cs' ∧ ∀ (o : Nat) (v : SV) (c : AV), wF[o]? = some v → v.con = some c → cs'[o]? = some c) :=
  chkTopB_sound hC h hf hm hcs hw hrm hrl R hb hnt hns fun cs s s' hg _ _ _ σ ok hl => goV_sound hC hN hlo hhi cs s s' hg σ ok hl
end Go.Proofs.YtdanlkiojkimaaaDoor.Rd

