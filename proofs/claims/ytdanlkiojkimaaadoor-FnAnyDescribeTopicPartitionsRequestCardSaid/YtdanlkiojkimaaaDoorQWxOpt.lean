/-
  THE WRITING CODE's CHECKER, where a part may be missing: a pointer to it lies in the message.
-/
import Derived.Test.YtdanlkiojkimaaaDoorQWxBox
import Derived.Test.YtdanlkiojkimaaaDoorQApLeaf
import Derived.Test.YtdanlkiojkimaaaDoorQApKit
set_option linter.constructorNameAsVariable false
set_option linter.unusedVariables false
set_option linter.unusedSimpArgs false
namespace Go.Proofs.YtdanlkiojkimaaaDoor.Rd
open Go Go.Proofs.YtdanlkiojkimaaaDoor.Ax Go.Proofs.YtdanlkiojkimaaaDoor.Wire
set_option maxRecDepth 100000
def askQ : Oper → Option (Nat × TypeId × Operand × Operand)
  | ⟨some d, .binOp .eql t x y _, _, _, _, none⟩ => some (d, t, x, y)
  | _ => none
def splitQ : List Oper → Option (List Oper × (Nat × TypeId × Operand × Operand) × List Oper)
  | [] => none
  | o :: r => match askQ o with
    | some q => some ([], q, r)
    | none => (splitQ r).map fun (a, b) => (o :: a, b)
theorem askQ_spec {o : Oper} {d : Nat} {t : TypeId} {x y : Operand} (h : askQ o = some (d, t, x, y)) : ∃ s ty pos af, o = ⟨some d, .binOp .eql t x y s, ty, pos, af, none⟩ := by
  unfold askQ at h
  split at h
  · simp only [Option.some.injEq, Prod.mk.injEq] at h
    obtain ⟨rfl, rfl, rfl, rfl⟩ := h
    exact ⟨_, _, _, _, rfl⟩
  · cases h
theorem splitQ_spec : ∀ {l pre post : List Oper} {d : Nat} {t : TypeId} {x y : Operand}, splitQ l = some (pre, (d, t, x, y), post) → ∃ s ty pos af, l = pre ++ ⟨some d, .binOp .eql t x y s, ty, pos, af, none⟩ :: post
  | [], _, _, _, _, _, _, h => by cases h
  | o :: r, pre, post, d, t, x, y, h => by
    unfold splitQ at h
    split at h
    · rename_i q hq
      simp only [Option.some.injEq, Prod.mk.injEq] at h
      obtain ⟨rfl, rfl, rfl⟩ := h
      obtain ⟨s, ty, pos, af, rfl⟩ := askQ_spec hq
      exact ⟨s, ty, pos, af, rfl⟩
    · simp only [Option.map_eq_some_iff] at h
      obtain ⟨⟨a, q, b⟩, h1, h2⟩ := h
      simp only [Prod.mk.injEq] at h2
      obtain ⟨rfl, rfl, rfl⟩ := h2
      obtain ⟨s, ty, pos, af, e⟩ := splitQ_spec h1
      exact ⟨s, ty, pos, af, by rw [e]; rfl⟩
noncomputable def isPtrT (t : TypeId) : Bool := match P.underlying t with
  | some (.pointer _) => true
  | _ => false
noncomputable def nilW (C : Cfg) (prim : List (FuncId × WPrim)) (off : Nat) (there : Bool) (ops : List Oper) (s : WS) : Option WS :=
  match splitQ ops with
  | some (pre, (d, t, x, y), post) => match opsW C prim ops pre s with
    | some s1 => if evW s1.fr x = some (.cel 0 off) ∧ evW s1.fr y = some (.z .p0) ∧ isPtrT t = true then opsW C prim ops post (s1.put (some d) (.b (!there))) else none
    | none => none
  | none => none
def byteAt (o1 o2 : Oper) : Option (Nat × Int × Nat × Operand) :=
  match o1 with
  | ⟨some d1, .buildSlice t n parts, _, _, _, none⟩ => match o2 with
    | ⟨some d2, .call { callee := .builtin .append, args := args, argTypes := ats }, _, _, _, none⟩ => match parts.toList, args.toList, ats.toList with
      | [(k, .const (.int .u8 m))], [x, .tmp q], [t1, t2] => if t = 22 ∧ n = 1 ∧ k = 0 ∧ q = d1 ∧ t1 = 22 ∧ t2 = 22 ∧ 0 ≤ m ∧ m < 256 then some (d1, m, d2, x) else none
      | _, _, _ => none
    | _ => none
  | _ => none
theorem byteAt_spec {o1 o2 : Oper} {d1 d2 : Nat} {m : Int} {x : Operand} (h : byteAt o1 o2 = some (d1, m, d2, x)) :
    ∃ parts ty pos af args ats ty2 pos2 af2, o1 = ⟨some d1, .buildSlice 22 1 parts, ty, pos, af, none⟩ ∧ parts.toList = [(0, .const (.int .u8 m))] ∧ o2 = ⟨some d2, .call { callee := .builtin .append, args := args, argTypes := ats }, ty2, pos2, af2, none⟩ ∧ args.toList = [x, .tmp d1] ∧ ats.toList = [22, 22] ∧ 0 ≤ m ∧ m < 256 := by
  unfold byteAt at h
  split at h
  · split at h
    · split at h
      · rename_i hp ha ht
        split at h
        · rename_i hc
          obtain ⟨rfl, rfl, rfl, rfl, rfl, rfl, h0, h1⟩ := hc
          simp only [Option.some.injEq, Prod.mk.injEq] at h
          obtain ⟨rfl, rfl, rfl, rfl⟩ := h
          exact ⟨_, _, _, _, _, _, _, _, _, rfl, hp, rfl, ha, ht, h0, h1⟩
        · cases h
      · cases h
    · cases h
  · cases h
def splitY : List Oper → Option (List Oper × (Nat × Int × Nat × Operand) × List Oper)
  | [] => none
  | o1 :: r => match r with
    | [] => none
    | o2 :: r2 => match byteAt o1 o2 with
      | some q => some ([], q, r2)
      | none => (splitY r).map fun (a, b) => (o1 :: a, b)
theorem splitY_spec : ∀ {l pre post : List Oper} {d1 d2 : Nat} {m : Int} {x : Operand}, splitY l = some (pre, (d1, m, d2, x), post) → ∃ o1 o2, l = pre ++ o1 :: o2 :: post ∧ byteAt o1 o2 = some (d1, m, d2, x)
  | [], _, _, _, _, _, _, h => by cases h
  | o1 :: r, pre, post, d1, d2, m, x, h => by
    unfold splitY at h
    split at h
    · cases h
    · rename_i o2 r2
      split at h
      · rename_i q hq
        simp only [Option.some.injEq, Prod.mk.injEq] at h
        obtain ⟨rfl, rfl, rfl⟩ := h
        exact ⟨o1, o2, rfl, hq⟩
      · simp only [Option.map_eq_some_iff] at h
        obtain ⟨⟨a, q, b⟩, h1, h2⟩ := h
        simp only [Prod.mk.injEq] at h2
        obtain ⟨rfl, rfl, rfl⟩ := h2
        obtain ⟨p1, p2, e, e2⟩ := splitY_spec h1
        exact ⟨p1, p2, by rw [e]; rfl, e2⟩
noncomputable def byteW (C : Cfg) (prim : List (FuncId × WPrim)) (ops : List Oper) (s : WS) : Option (Int × WS) :=
  match splitY ops with
  | some (pre, (d1, m, d2, x), post) => match opsW C prim ops pre s with
    | some s1 =>
      let s2 := s1.put (some d1) .u
      if evW s2.fr x = some (.out s2.cur) ∧ s2.pend = none ∧ s2.fresh = true ∧ s2.k = 0 ∧ d1 < s1.fr.length then (opsW C prim ops post ({ s2 with cur := s2.cur + 1 }.put (some d2) (.out (s2.cur + 1)))).map fun s3 => (m, s3) else none
    | none => none
  | none => none
section
variable {C : Cfg} {H0 : Heap} {L0 : Nat} {o0 : B} {s : WS} {σ : WSta}
theorem nilW_sound {prim : List (FuncId × WPrim)} (hP : WPrims C prim) {off : Nat} {there : Bool} {ops : Array Oper} {i : Nat} {s' : WS} (hs : nilW C prim off there ops.toList s = some s') (h : WOK C H0 L0 o0 s σ) {e0 : WL} (he : σ.lv[0]? = some e0) (hc : (there = true ∧ ∃ b o, e0.cs[off]? = some (.p b o)) ∨ (there = false ∧ e0.cs[off]? = some .p0)) :
    ∃ σ', RU P NS (.region i ops false) σ.fr σ.H (.normal, σ'.fr, σ'.H) ∧ WOK C H0 L0 o0 s' σ' ∧ WStep L0 s s' σ σ' := by
  unfold nilW at hs
  split at hs
  rotate_left
  · cases hs
  rename_i pre d t x y post hsp
  split at hs
  rotate_left
  · cases hs
  rename_i s1 h1
  split at hs
  rotate_left
  · cases hs
  rename_i hc1
  obtain ⟨hx, hy, ht⟩ := hc1
  obtain ⟨sty, ty, pos, af, hops⟩ := splitQ_spec hsp
  obtain ⟨σ1, w1, w2, w3⟩ := opsW_walk hP (ops := ops) pre h1 h
  obtain ⟨a, ha, e1, t1, t2⟩ := evW_sound w2.fr hx
  obtain ⟨b, hb, rfl⟩ := evW_sound w2.fr hy
  rw [w3.lv, he] at t1
  cases t1
  have hbin : ∀ c, binA P .eql t c a (CK.av .p0) = some (.b (!there)) := by
    intro c
    unfold isPtrT at ht
    split at ht
    · rename_i e hu
      rcases hc with ⟨rfl, b0, o0', hcell⟩ | ⟨rfl, hcell⟩
      · rw [hcell] at t2; cases t2
        simp [binA, eqA, CK.av, hu]
      · rw [hcell] at t2; cases t2
        simp [binA, eqA, CK.av, hu]
    · cases ht
  obtain ⟨σ2, q1, q2, q3⟩ := opsW_sound hP (ops := ops) post hs (w2.put (v := .b (!there)) (a := .b (!there)) rfl (some d))
  refine ⟨σ2, ?_, q2, (w3.trans ((WStep.refl L0 s1 σ1).put (some d) (.b (!there)) (.b (!there)))).trans q3⟩
  refine RU.region ?_
  rw [hops]
  refine w1 _ _ ?_
  exact One.os (v := .b (!there)) (H1 := σ1.H) rfl (.pure rfl (op_bin ha hb rfl (hbin _))) q1
theorem WOK.rebase (h : WOK C H0 L0 o0 s σ) {e : WL} (hlv : σ.lv = [e]) {plN : List (Ev × Nat)} {vsN : List V} (hsaid : Said C.flex (fun i => i < L0) H0 e.cs plN vsN) (hbd : σ.bs.length + (encs C.flex plN vsN).length + 8 ≤ 1099511627776) (hp : s.pend = none) :
    WOK C H0 L0 σ.bs { s with exp := [plN], k := 0 } { σ with vs := [vsN] } := by
  have htop : s.top = 0 := by unfold WS.top; rw [h.lvl, hlv]; rfl
  refine ⟨h.fr, h.lvl, by simp [hlv], by simp [hlv], h.pos, h.lv, h.up, fun l e' pl vs he hpl hvs => ?_, h.ver, h.keep, h.l0, h.out, fun e' pl vs he hpl hvs => ?_, fun pl vs hpl hvs => ?_⟩
  · have he : σ.lv[l]? = some e' := he
    rw [hlv] at he
    cases l with
    | zero =>
      simp at he hpl hvs
      subst he hpl hvs
      exact hsaid
    | succ l => simp at he
  · have hpl : ([plN] : List (List (Ev × Nat)))[s.top]? = some pl := hpl
    have hvs : ([vsN] : List (List V))[s.top]? = some vs := hvs
    refine ⟨[], by show pendB C.flex H0 e'.cs s.pend = _; rw [hp]; rfl, ?_⟩
    show σ.bs = σ.bs ++ encs C.flex (pl.take 0) vs ++ []
    simp [encs]
  · have hpl : ([plN] : List (List (Ev × Nat)))[s.top]? = some pl := hpl
    have hvs : ([vsN] : List (List V))[s.top]? = some vs := hvs
    rw [htop] at hpl hvs
    simp at hpl hvs
    subst hpl hvs
    exact hbd
theorem WOK.pop (h : WOK C H0 L0 o0 s σ) {e E : WL} (hlv : σ.lv = [e, E]) {x0 x1 : Nat × Nat} (hsl : s.lv = [x0, x1]) {plN : List (Ev × Nat)} {vsN : List V} (hsaid : Said C.flex (fun i => i < L0) H0 e.cs plN vsN) (hbd : σ.bs.length + (encs C.flex plN vsN).length + 8 ≤ 1099511627776) (hp : s.pend = none) :
    WOK C H0 L0 σ.bs { s with fr := s.fr.map (lowW 1), lv := [x0], exp := [plN], k := 0 } { σ with lv := [e], vs := [vsN] } := by
  refine ⟨⟨by simp [h.fr.1], fun t v a hv ha => ?_⟩, rfl, rfl, rfl, Nat.zero_lt_one, fun l e' he => ?_, fun l p e' hp' he => ?_, fun l e' pl vs he hpl hvs => ?_, fun n hn => ?_, h.keep, h.l0, h.out, fun e' pl vs he hpl hvs => ?_, fun pl vs hpl hvs => ?_⟩
  · simp only [List.getElem?_map, Option.map_eq_some_iff] at hv
    obtain ⟨v', hv', rfl⟩ := hv
    unfold lowW
    split
    · rename_i hcm
      have d := h.fr.2 t v' a hv' ha
      rw [hlv] at d
      refine denW_lv (l := 1) (fun k hk => ?_) hcm d
      obtain rfl : k = 0 := by omega
      rfl
    · trivial
  · cases l with
    | zero =>
      have := h.lv 0 e (by rw [hlv]; rfl)
      rw [hsl] at this
      simp at he
      subst he
      exact this
    | succ l => simp at he
  · simp at he
  · cases l with
    | zero =>
      simp at he hpl hvs
      subst he hpl hvs
      exact hsaid
    | succ l => simp at he
  · obtain ⟨e', k, h1, h2⟩ := h.ver n hn
    rw [hlv] at h1
    exact ⟨e', k, h1, h2⟩
  · refine ⟨[], by show pendB C.flex H0 e'.cs s.pend = _; rw [hp]; rfl, ?_⟩
    show σ.bs = σ.bs ++ encs C.flex (pl.take 0) vs ++ []
    simp [encs]
  · simp [WS.top] at hpl hvs
    subst hpl hvs
    exact hbd
theorem WOK.app0 (h : WOK C H0 L0 o0 s σ) (hf : s.fresh = true) (hk0 : s.k = 0) (hp : s.pend = none) {out' : AV} {H' : Heap} {b : UInt8} (ho : OutAt L0 H' out' (σ.bs ++ [b])) (hk : WKeep L0 σ.H H')
    (hbd : ∀ (pl : List (Ev × Nat)) (vs : List V), s.exp[s.top]? = some pl → σ.vs[s.top]? = some vs → o0.length + 1 + (encs C.flex pl vs).length + 8 ≤ 1099511627776) (dst : Option Tmp) :
    WOK C H0 L0 (o0 ++ [b]) ({ s with cur := s.cur + 1 }.put dst (.out (s.cur + 1))) { σ with out := out', H := H', bs := σ.bs ++ [b], fr := putA σ.fr dst out' } ∧
    WStep L0 s ({ s with cur := s.cur + 1 }.put dst (.out (s.cur + 1))) σ { σ with out := out', H := H', bs := σ.bs ++ [b], fr := putA σ.fr dst out' } := by
  have h1 : WOK C H0 L0 (o0 ++ [b]) { s with cur := s.cur + 1 } { σ with out := out', H := H', bs := σ.bs ++ [b] } := by
    refine ⟨⟨h.fr.1, fun t v a hv ha => ?_⟩, h.lvl, h.exl, h.vsl, h.pos, h.lv, h.up, h.said, h.ver, h.keep.trans hk, h.l0, ho, fun e pl vs he hpl hvs => ?_, fun pl vs hpl hvs => ?_⟩
    · have hd := h.fr.2 t v a hv ha
      unfold WS.fresh at hf
      rw [List.all_eq_true] at hf
      have hne := hf v (List.mem_of_getElem? hv)
      cases v with
      | out c =>
        intro hc
        subst hc
        simp at hne
      | _ => exact hd
    · obtain ⟨p, p1, p2⟩ := h.bytes e pl vs he hpl hvs
      refine ⟨p, p1, ?_⟩
      rw [hp] at p1
      simp [pendB] at p1
      subst p1
      show σ.bs ++ [b] = o0 ++ [b] ++ encs C.flex (pl.take s.k) vs ++ []
      rw [p2, hk0]
      simp [encs]
    · have := hbd pl vs hpl hvs
      simp only [List.length_append, List.length_singleton]
      exact this
  refine ⟨h1.put (v := .out (s.cur + 1)) (a := out') (fun _ => rfl) dst, ?_⟩
  obtain ⟨p1, p2, p3, p4, p5, p6, p7⟩ := putW_fields { s with cur := s.cur + 1 } dst (.out (s.cur + 1))
  exact ⟨rfl, rfl, p1, p5, p2, p7, hk⟩
theorem byteW_sound {prim : List (FuncId × WPrim)} (hP : WPrims C prim) {ops : Array Oper} {i : Nat} {s' : WS} {m : Int} (hs : byteW C prim ops.toList s = some (m, s')) (h : WOK C H0 L0 o0 s σ) (hk0 : s.k = 0) (hp0 : s.pend = none)
    (hbd : ∀ (pl : List (Ev × Nat)) (vs : List V), s.exp[s.top]? = some pl → σ.vs[s.top]? = some vs → o0.length + 1 + (encs C.flex pl vs).length + 8 ≤ 1099511627776) :
    ∃ σ', RU P NS (.region i ops false) σ.fr σ.H (.normal, σ'.fr, σ'.H) ∧ WOK C H0 L0 (o0 ++ [UInt8.ofNat m.toNat]) s' σ' ∧ σ'.lv = σ.lv ∧ σ'.vs = σ.vs := by
  unfold byteW at hs
  split at hs
  rotate_left
  · cases hs
  rename_i pre d1 m' d2 x post hsp
  split at hs
  rotate_left
  · cases hs
  rename_i s1 h1
  simp only at hs
  split at hs
  rotate_left
  · cases hs
  rename_i hc
  obtain ⟨hx, hp, hf, hk, hd1⟩ := hc
  simp only [Option.map_eq_some_iff, Prod.mk.injEq] at hs
  obtain ⟨s3, hs, rfl, rfl⟩ := hs
  obtain ⟨o1, o2, hops, hb⟩ := splitY_spec hsp
  obtain ⟨parts, ty, pos, af, args, ats, ty2, pos2, af2, rfl, hparts, rfl, hargs, hats, hm0, hm1⟩ := byteAt_spec hb
  obtain ⟨σ1, w1, w2, w3⟩ := opsW_walk hP (ops := ops) pre h1 h
  have hU : AV.i .u8 m' = U8 (UInt8.ofNat m'.toNat) := by
    obtain ⟨n, rfl⟩ : ∃ n : Nat, m' = n := ⟨m'.toNat, by omega⟩
    have hn : n < 256 := by omega
    simp [U8, Nat.mod_eq_of_lt hn]
  generalize hbe : UInt8.ofNat m'.toNat = b at hU ⊢
  obtain ⟨g1, g2⟩ := w2.grow [.cells 5 .row (u8s [b])]
  have g3 := g1.put (v := .u) (a := .sl σ1.H.length 0 1) trivial (some d1)
  obtain ⟨a, ha, hda⟩ := evW_sound g3.fr hx
  have ha0 : a = σ1.out := hda rfl
  subst ha0
  have hlvs : σ1.lv = σ.lv := w3.lv
  have hvss : σ1.vs = σ.vs := w3.vs
  have hexp : s1.exp = s.exp := w3.exp
  have hslv : s1.lv = s.lv := w3.slv
  have htop : s1.top = s.top := by unfold WS.top; rw [hslv]
  obtain ⟨f1, f2, f3, f4, f5, f6, f7⟩ := putW_fields s1 (some d1) .u
  have hL0 : L0 ≤ σ1.H.length := Nat.le_trans w2.l0 w2.keep.len
  have hob : σ1.bs = o0 := by
    obtain ⟨e, pl, vs, u1, u2, u3, u4⟩ := w2.top3
    obtain ⟨p, p1, p2⟩ := w2.bytes e pl vs u1 u2 u3
    have hp' : s1.pend = none := by rw [← f4]; exact hp
    have hk' : s1.k = 0 := by rw [← f6]; exact hk
    rw [hp'] at p1
    simp [pendB] at p1
    subst p1
    rw [p2, hk']
    simp [encs]
  have hlen0 : o0.length + 9 ≤ 1099511627776 := by
    obtain ⟨e, pl, vs, u1, u2, u3, u4⟩ := h.top3
    have := hbd pl vs u2 u3
    omega
  have hfi := first_new σ1.H 5 [b] (by simp)
  obtain ⟨out', H', hap, ho, hkp⟩ := ap_bytes (str := false) (L0 := L0) (H := σ1.H ++ [.cells 5 .row (u8s [b])]) (out := σ1.out) (bs := σ1.bs) (x := .sl σ1.H.length 0 1) (new := [b]) (by simp; omega) (g1.out) hfi (by rw [hob]; simp; omega)
  obtain ⟨g5, g6⟩ := g3.app0 hf hk hp (out' := out') (H' := H') (b := b) ho hkp (fun pl vs hpl hvs => by
    refine hbd pl vs ?_ ?_
    · rw [← hexp, ← htop]
      have : (s1.put (some d1) .u).exp[(s1.put (some d1) .u).top]? = some pl := hpl
      unfold WS.top at this ⊢
      rw [f5, f1] at this
      exact this
    · rw [← hvss, ← htop]
      have : σ1.vs[(s1.put (some d1) .u).top]? = some vs := hvs
      unfold WS.top at this ⊢
      rw [f1] at this
      exact this) (some d2)
  obtain ⟨σ4, q1, q2, q3⟩ := opsW_sound hP (ops := ops) post hs g5
  refine ⟨σ4, ?_, q2, q3.lv.trans hlvs, q3.vs.trans hvss⟩
  refine RU.region ?_
  rw [hops]
  refine w1 _ _ ?_
  refine One.os (v := .sl σ1.H.length 0 1) (H1 := σ1.H ++ [.cells 5 .row (u8s [b])]) rfl (.pure rfl (op_buildSlice (ps := [(0, U8 b)]) ?_ (build_1 σ1.H b))) ?_
  · rw [hparts]
    show some [(0, AV.i .u8 m')] = _
    rw [hU]
  · refine One.os (v := out') (H1 := H') rfl (.pure rfl ?_) q1
    have hd1' : d1 < σ1.fr.length := by rw [← w2.fr.1]; exact hd1
    obtain ⟨args⟩ := args
    obtain ⟨ats⟩ := ats
    simp only at hargs hats
    subst hargs hats
    refine op_append (a := σ1.out) (b := .sl σ1.H.length 0 1) ha ?_ rfl elemBs rfl hap
    show (σ1.fr.set d1 _)[d1]? = _
    rw [List.getElem?_set_self hd1']
end
def isY (a : Code) : Bool := match flat a with
  | .region _ o2 false :: _ => (splitY o2.toList).isSome
  | _ => false
def hereO (x : Code) (r : List Code) : Option (Nat × Array Oper × Operand × Code × Code × List Code) := match x with
  | .region i ops false => match r with
    | .cond c a b :: rest => if (splitQ ops.toList).isSome && isY a then some (i, ops, c, a, b, rest) else none
    | _ => none
  | _ => none
def findO : List Code → Option (List Code × (Nat × Array Oper × Operand × Code × Code × List Code))
  | [] => none
  | x :: r => match hereO x r with
    | some y => some ([], y)
    | none => (findO r).map fun (a, y) => (x :: a, y)
theorem hereO_spec {x : Code} {r rest : List Code} {i : Nat} {ops : Array Oper} {c : Operand} {a b : Code} (h : hereO x r = some (i, ops, c, a, b, rest)) : x = .region i ops false ∧ r = .cond c a b :: rest := by
  unfold hereO at h
  split at h
  · split at h
    · split at h
      · simp only [Option.some.injEq, Prod.mk.injEq] at h
        obtain ⟨rfl, rfl, rfl, rfl, rfl, rfl⟩ := h
        exact ⟨rfl, rfl⟩
      · cases h
    · cases h
  · cases h
theorem findO_spec : ∀ {l pre rest : List Code} {i : Nat} {ops : Array Oper} {c : Operand} {a b : Code}, findO l = some (pre, (i, ops, c, a, b, rest)) → l = pre ++ .region i ops false :: .cond c a b :: rest
  | [], _, _, _, _, _, _, _, h => by cases h
  | x :: r, pre, rest, i, ops, c, a, b, h => by
    unfold findO at h
    split at h
    · rename_i y hy
      simp only [Option.some.injEq, Prod.mk.injEq] at h
      obtain ⟨rfl, rfl⟩ := h
      obtain ⟨rfl, rfl⟩ := hereO_spec hy
      rfl
    · simp only [Option.map_eq_some_iff] at h
      obtain ⟨⟨a', y⟩, h1, h2⟩ := h
      simp only [Prod.mk.injEq] at h2
      obtain ⟨rfl, rfl⟩ := h2
      rw [findO_spec h1]
      rfl
def wsStart (fn : Func) (sz : Nat) (ver : Option WVer) (pl1 : List (Ev × Nat)) : WS := { fr := [.ptr 0 0, .out 0] ++ List.replicate (fn.ntmps - 2) .u, lv := [(0, sz)], ver := ver, cur := 0, pend := none, exp := [pl1], k := 0 }
noncomputable def startW (C : Cfg) (prim : List (FuncId × WPrim)) (fn : Func) (sz : Nat) (ver : Option WVer) (pl1 : List (Ev × Nat)) : Option (WS × (Nat × Array Oper × Operand × Code × Code × List Code)) :=
  match fn.body with
  | some code => match (flat code).getLast?, findO (flat code).dropLast with
    | some .ret, some (pre, y) => match chkW C prim 400 pre (wsStart fn sz ver pl1) with
      | some s => if s.pend = none ∧ s.exp = [pl1] ∧ s.lv = [(0, sz)] ∧ s.k = pl1.length ∧ oneRes fn.results.toList = some C.res ∧ 2 ≤ fn.ntmps then some (s, y) else none
      | none => none
    | _, _ => none
  | none => none
noncomputable def endW (C : Cfg) (prim : List (FuncId × WPrim)) (sz : Nat) (plT : List (Ev × Nat)) (rest : List Code) (s : WS) : Bool :=
  match chkW C prim 400 rest s with
  | some s => decide (s.fr[C.res]? = some (.out s.cur) ∧ s.pend = none ∧ s.exp = [plT] ∧ s.lv = [(0, sz)] ∧ s.k = plT.length)
  | none => false
noncomputable def chkWA (C : Cfg) (prim : List (FuncId × WPrim)) (fn : Func) (sz : Nat) (ver : Option WVer) (off : Nat) (pl1 plT : List (Ev × Nat)) : Bool :=
  match startW C prim fn sz ver pl1 with
  | some (s, (i, ops, c, a, b, rest)) => match nilW C prim off false ops.toList { s with exp := [plT], k := 0 } with
    | some s1 => match evW s1.fr c, flat a with
      | some (.b true), .region _ o2 false :: cs2 => match byteW C prim o2.toList s1 with
        | some (m, s2) => decide (m = 255 ∧ s1.k = 0 ∧ s1.pend = none ∧ cs2 = []) && endW C prim sz plT rest s2
        | none => false
      | _, _ => false
    | none => false
  | none => false
def spP (off : Nat) (v : WV) : WV := if v = .cel 0 off then .ptr 1 0 else v
noncomputable def chkWP (C : Cfg) (prim : List (FuncId × WPrim)) (fn : Func) (sz : Nat) (ver : Option WVer) (off sz1 : Nat) (pl1 plC plT : List (Ev × Nat)) : Bool :=
  match startW C prim fn sz ver pl1 with
  | some (s, (i, ops, c, a, b, rest)) => match nilW C prim off true ops.toList { s with exp := [plT], k := 0 } with
    | some s1 => match evW s1.fr c, flat b with
      | some (.b false), .region _ o2 false :: cs2 => match byteW C prim o2.toList s1 with
        | some (m, s2) => match chkW C prim 400 cs2 { s2 with fr := s2.fr.map (spP off), lv := s2.lv ++ [(off, sz1)], pend := none, exp := s2.exp ++ [plC], k := 0 } with
          | some s3 => decide (m = 1 ∧ s1.k = 0 ∧ s1.pend = none ∧ s1.lv = [(0, sz)] ∧ s1.exp = [plT] ∧ s2.lv = [(0, sz)] ∧ s2.exp = [plT] ∧ s2.k = 0 ∧ s2.pend = none ∧ s3.pend = none ∧ s3.lv = [(0, sz), (off, sz1)] ∧ s3.exp = [plT, plC] ∧ s3.k = plC.length) && endW C prim sz plT rest { s3 with fr := s3.fr.map (lowW 1), lv := [(0, sz)], exp := [plT], k := 0 }
          | none => false
        | none => false
      | _, _ => false
    | none => false
  | none => false
theorem startW_sound {C : Cfg} {prim : List (FuncId × WPrim)} (hP : WPrims C prim) {fn : Func} {sz : Nat} {ver : Option WVer} {pl1 : List (Ev × Nat)} {s : WS} {i : Nat} {ops : Array Oper} {c : Operand} {a b : Code} {rest : List Code} (h : startW C prim fn sz ver pl1 = some (s, (i, ops, c, a, b, rest))) {H : Heap} {mb : Nat} {ty : TypeId} {kn : Kn} {cs : List AV} {vs1 : List V}
    (hm : H[mb]? = some (.cells ty kn cs)) (hsz : cs.length = sz) (hver : ∀ n, ver = some n → ∃ k, cs[0]? = some (.i .i16 k) ∧ n.has k) (hsaid : Said C.flex (fun i => i < H.length) H cs pl1 vs1) (hbd : (encs C.flex pl1 vs1).length + 8 ≤ 1099511627776) :
    ∃ code pre σ, fn.body = some code ∧ flat code = (pre ++ .region i ops false :: .cond c a b :: rest) ++ [.ret] ∧ RUs pre ([.p mb 0, .s0] ++ List.replicate (fn.ntmps - 2) (.t [])) H (.normal, σ.fr, σ.H) ∧ WOK C H H.length [] s σ ∧ σ.lv = [⟨mb, 0, sz, cs, 0, 0, 1⟩] ∧ σ.bs = encs C.flex pl1 vs1 ∧ s.pend = none ∧ fn.results.toList = [.tmp C.res] := by
  unfold startW at h
  split at h
  rotate_left
  · cases h
  rename_i code hcode
  split at h
  rotate_left
  · cases h
  rename_i pre y hlast hfind
  split at h
  rotate_left
  · cases h
  rename_i s' hchk
  split at h
  rotate_left
  · cases h
  rename_i hc
  obtain ⟨c2, c3, c4, c5, c6, c7⟩ := hc
  simp only [Option.some.injEq, Prod.mk.injEq] at h
  obtain ⟨rfl, rfl⟩ := h
  have hmb := (List.getElem?_eq_some_iff.1 hm).1
  have ok : WOK C H H.length [] (wsStart fn sz ver pl1) { fr := [.p mb 0, .s0] ++ List.replicate (fn.ntmps - 2) (.t []), H := H, lv := [⟨mb, 0, sz, cs, 0, 0, 1⟩], out := .s0, bs := [], vs := [vs1] } := by
    refine ⟨⟨by simp [wsStart], fun t v a hv ha => ?_⟩, rfl, rfl, rfl, by simp, fun l e he => ?_, fun l p e hp he => ?_, fun l e pl' vs' he hpl hvs => ?_, fun n hn => (hver n hn).elim fun k hk => ⟨_, k, rfl, hk⟩, .refl _ _, Nat.le_refl _, .inl ⟨rfl, rfl⟩, fun e pl' vs' he hpl hvs => ?_, fun pl' vs' hpl hvs => ?_⟩
    · match t, hv, ha with
      | 0, hv, ha => simp [wsStart] at hv ha; subst hv; subst ha; exact ⟨_, rfl, Nat.zero_lt_one, rfl⟩
      | 1, hv, ha => simp [wsStart] at hv ha; subst hv; subst ha; exact fun _ => rfl
      | t + 2, hv, ha =>
        simp [wsStart, List.getElem?_replicate] at hv
        rw [← hv.2]; trivial
    · cases l with
      | zero =>
        simp at he
        subst he
        exact ⟨rfl, fun _ => ⟨hsz, hmb, ty, kn, cs, hm, by simp [hsz], by simp [← hsz]⟩⟩
      | succ l => simp at he
    · simp at he
    · cases l with
      | zero =>
        simp [wsStart] at he hpl hvs
        subst he hpl hvs
        exact hsaid
      | succ l => simp at he
    · simp [WS.top, wsStart] at he hpl hvs
      subst he hpl hvs
      exact ⟨[], rfl, by simp [encs, wsStart]⟩
    · simp [WS.top, wsStart] at hpl hvs
      subst hpl hvs
      simpa using hbd
  obtain ⟨σ', q1, q2, q3⟩ := chkW_sound hP 400 _ _ _ hchk [] _ ok
  have hlv : σ'.lv = [⟨mb, 0, sz, cs, 0, 0, 1⟩] := q3.lv
  have hvs : σ'.vs = [vs1] := q3.vs
  obtain ⟨p, p1, p2⟩ := q2.bytes ⟨mb, 0, sz, cs, 0, 0, 1⟩ pl1 vs1 (by unfold WS.top; rw [c4, hlv]; rfl) (by unfold WS.top; rw [c4, c3]; rfl) (by unfold WS.top; rw [c4, hvs]; rfl)
  rw [c2] at p1
  simp [pendB] at p1
  subst p1
  rw [c5, List.take_length] at p2
  simp only [List.nil_append, List.append_nil] at p2
  have hres : fn.results.toList = [.tmp C.res] := by
    unfold oneRes at c6
    split at c6
    · rename_i t ht; cases c6; exact ht
    · cases c6
  have hcodes : flat code = (flat code).dropLast ++ [.ret] := by
    have hne : flat code ≠ [] := by intro he; rw [he] at hlast; cases hlast
    have := List.dropLast_concat_getLast hne
    rw [List.getLast?_eq_some_getLast hne] at hlast
    simp at hlast
    rw [hlast] at this
    exact this.symm
  rw [findO_spec hfind] at hcodes
  exact ⟨code, pre, σ', hcode, hcodes, q1, q2, hlv, p2, c2, hres⟩
theorem endW_sound {C : Cfg} {prim : List (FuncId × WPrim)} (hP : WPrims C prim) {sz : Nat} {plT : List (Ev × Nat)} {rest : List Code} {H0 : Heap} {L0 : Nat} {o0 : B} {s : WS} {σ : WSta} (h : endW C prim sz plT rest s = true) (ok : WOK C H0 L0 o0 s σ) {e : WL} (hlv : σ.lv = [e]) {vsT : List V} (hvs : σ.vs = [vsT]) :
    ∃ fr' out H', RUs rest σ.fr σ.H (.normal, fr', H') ∧ fr'[C.res]? = some out ∧ OutAt L0 H' out (o0 ++ encs C.flex plT vsT) ∧ WKeep L0 H0 H' := by
  unfold endW at h
  split at h
  rotate_left
  · cases h
  rename_i s' hchk
  simp only [decide_eq_true_eq] at h
  obtain ⟨c1, c2, c3, c4, c5⟩ := h
  obtain ⟨σ', q1, q2, q3⟩ := chkW_sound hP 400 _ _ _ hchk o0 _ ok
  have hlv' : σ'.lv = [e] := q3.lv.trans hlv
  have hvs' : σ'.vs = [vsT] := q3.vs.trans hvs
  obtain ⟨a, a1, a2⟩ := FRW.at_ q2.fr c1
  have ha : a = σ'.out := a2 rfl
  subst ha
  obtain ⟨p, p1, p2⟩ := q2.bytes e plT vsT (by unfold WS.top; rw [c4, hlv']; rfl) (by unfold WS.top; rw [c4, c3]; rfl) (by unfold WS.top; rw [c4, hvs']; rfl)
  rw [c2] at p1
  simp [pendB] at p1
  subst p1
  rw [c5, List.take_length, List.append_nil] at p2
  exact ⟨_, _, _, q1, a1, by rw [← p2]; exact q2.out, q2.keep⟩
theorem RUs.done {C : Cfg} {fn : Func} {f : FuncId} {code : Code} {l : List Code} {fr' : List AV} {H H' : Heap} {out : AV} {mb : Nat} (hf : P.funcs[f]? = some fn) (hcode : fn.body = some code) (hl : flat code = l ++ [.ret]) (hres : fn.results.toList = [.tmp C.res]) (h : RUs l ([.p mb 0, .s0] ++ List.replicate (fn.ntmps - 2) (.t [])) H (.normal, fr', H')) (ho : fr'[C.res]? = some out) (hns : noNS f = true) :
    CA P NS f [.p mb 0, .s0] H (out, H') := by
  have hrun : RU P NS code ([.p mb 0, .s0] ++ List.replicate (fn.ntmps - 2) (.t [])) H (.ret, fr', H') := by
    refine RUs.code (c := code) ?_
    rw [hl]
    exact RUs.app h (RUs.stop RU.ret (by simp))
  have hr2 : resultsA P H' fr' fn.results.toList = some [out] := by rw [hres]; simp [resultsA, ho]
  exact CA.go (fn := fn) (vs := [out]) hf hcode (.inr rfl) ⟨fr', hrun, hr2⟩ (NS_none hns _ _)
theorem chkWA_sound {C : Cfg} {prim : List (FuncId × WPrim)} (hP : WPrims C prim) {fn : Func} {f : FuncId} {sz off : Nat} {ver : Option WVer} {pl1 plT : List (Ev × Nat)} (h : chkWA C prim fn sz ver off pl1 plT = true) (hf : P.funcs[f]? = some fn) {H : Heap} {mb : Nat} {ty : TypeId} {kn : Kn} {cs : List AV} {vs1 vsT : List V}
    (hm : H[mb]? = some (.cells ty kn cs)) (hsz : cs.length = sz) (hver : ∀ n, ver = some n → ∃ k, cs[0]? = some (.i .i16 k) ∧ n.has k) (hcell : cs[off]? = some .p0) (hs1 : Said C.flex (fun i => i < H.length) H cs pl1 vs1) (hsT : Said C.flex (fun i => i < H.length) H cs plT vsT)
    (hbd : (encs C.flex pl1 vs1).length + (encs C.flex plT vsT).length + 16 ≤ 1099511627776) (hns : noNS f = true) :
    ∃ out H', CA P NS f [.p mb 0, .s0] H (out, H') ∧ OutAt H.length H' out (encs C.flex pl1 vs1 ++ [255] ++ encs C.flex plT vsT) ∧ WKeep H.length H H' := by
  unfold chkWA at h
  split at h
  rotate_left
  · cases h
  rename_i s i ops c a b rest hst
  obtain ⟨code, pre, σ, hcode, hcodes, q1, q2, hlv, hbs, hpend, hres⟩ := startW_sound hP hst hm hsz hver hs1 (by omega)
  split at h
  rotate_left
  · cases h
  rename_i s1 hnil
  split at h
  rotate_left
  · cases h
  rename_i i2 o2 cs2 hev hfl
  split at h
  rotate_left
  · cases h
  rename_i m s2 hby
  simp only [Bool.and_eq_true, decide_eq_true_eq] at h
  obtain ⟨⟨rfl, hk1, hp1, rfl⟩, hend⟩ := h
  have r1 := q2.rebase hlv (vsN := vsT) hsT (by rw [hbs]; omega) hpend
  obtain ⟨σ1, n1, n2, n3⟩ := nilW_sound hP (i := i) hnil r1 (e0 := ⟨mb, 0, sz, cs, 0, 0, 1⟩) (by show σ.lv[0]? = _; rw [hlv]; rfl) (.inr ⟨rfl, hcell⟩)
  obtain ⟨xa, e1, rfl⟩ := evW_sound n2.fr hev
  have hvs1 : σ1.vs = [vsT] := n3.vs
  have hlv1 : σ1.lv = [⟨mb, 0, sz, cs, 0, 0, 1⟩] := n3.lv.trans hlv
  obtain ⟨σ2, b1, b2, b3, b4⟩ := byteW_sound hP (i := i2) hby n2 hk1 hp1 (fun pl vs hpl hvs => by
    have hvs : σ1.vs[s1.top]? = some vs := hvs
    rw [n3.exp] at hpl
    have ht : s1.top = 0 := by unfold WS.top; rw [n2.lvl, hlv1]; rfl
    rw [ht] at hpl hvs
    rw [hvs1] at hvs
    simp at hpl hvs
    subst hpl hvs
    rw [hbs]; omega)
  obtain ⟨fr', out, H', d1, d2, d3, d4⟩ := endW_sound hP hend b2 (b3.trans hlv1) (b4.trans hvs1)
  refine ⟨out, H', RUs.done hf hcode hcodes hres (RUs.app q1 (RUs.cons n1 (RUs.cons (RU.condT e1 (RUs.code ?_)) d1))) d2 hns, ?_, d4⟩
  · rw [hfl]
    exact RUs.cons b1 rfl
  · have : UInt8.ofNat (255 : Int).toNat = 255 := rfl
    rw [hbs, this] at d3
    exact d3
theorem chkWP_sound {C : Cfg} {prim : List (FuncId × WPrim)} (hP : WPrims C prim) {fn : Func} {f : FuncId} {sz off sz1 : Nat} {ver : Option WVer} {pl1 plC plT : List (Ev × Nat)} (h : chkWP C prim fn sz ver off sz1 pl1 plC plT = true) (hf : P.funcs[f]? = some fn) {H : Heap} {mb cb : Nat} {ty ty1 : TypeId} {kn kn1 : Kn} {cs cs1 : List AV} {vs1 vsC vsT : List V}
    (hm : H[mb]? = some (.cells ty kn cs)) (hsz : cs.length = sz) (hver : ∀ n, ver = some n → ∃ k, cs[0]? = some (.i .i16 k) ∧ n.has k) (hcell : cs[off]? = some (.p cb 0)) (hcb : H[cb]? = some (.cells ty1 kn1 cs1)) (hsz1 : cs1.length = sz1) (hs1 : Said C.flex (fun i => i < H.length) H cs pl1 vs1) (hsC : Said C.flex (fun i => i < H.length) H cs1 plC vsC) (hsT : Said C.flex (fun i => i < H.length) H cs plT vsT)
    (hbd : (encs C.flex pl1 vs1).length + (encs C.flex plC vsC).length + (encs C.flex plT vsT).length + 24 ≤ 1099511627776) (hns : noNS f = true) :
    ∃ out H', CA P NS f [.p mb 0, .s0] H (out, H') ∧ OutAt H.length H' out (encs C.flex pl1 vs1 ++ [1] ++ encs C.flex plC vsC ++ encs C.flex plT vsT) ∧ WKeep H.length H H' := by
  unfold chkWP at h
  split at h
  rotate_left
  · cases h
  rename_i s i ops c a b rest hst
  obtain ⟨code, pre, σ, hcode, hcodes, q1, q2, hlv, hbs, hpend, hres⟩ := startW_sound hP hst hm hsz hver hs1 (by omega)
  split at h
  rotate_left
  · cases h
  rename_i s1 hnil
  split at h
  rotate_left
  · cases h
  rename_i i2 o2 cs2 hev hfl
  split at h
  rotate_left
  · cases h
  rename_i m s2 hby
  split at h
  rotate_left
  · cases h
  rename_i s3 hchk
  simp only [Bool.and_eq_true, decide_eq_true_eq] at h
  obtain ⟨⟨rfl, hk1, hp1, hsl1, hex1, hsl2, hex2, hk2a, hk2b, hp3, hsl3, hex3, hk3⟩, hend⟩ := h
  have r1 := q2.rebase hlv (vsN := vsT) hsT (by rw [hbs]; omega) hpend
  obtain ⟨σ1, n1, n2, n3⟩ := nilW_sound hP (i := i) hnil r1 (e0 := ⟨mb, 0, sz, cs, 0, 0, 1⟩) (by show σ.lv[0]? = _; rw [hlv]; rfl) (.inl ⟨rfl, _, _, hcell⟩)
  obtain ⟨xa, e1, rfl⟩ := evW_sound n2.fr hev
  have hvs1 : σ1.vs = [vsT] := n3.vs
  have hlv1 : σ1.lv = [⟨mb, 0, sz, cs, 0, 0, 1⟩] := n3.lv.trans hlv
  obtain ⟨σ2, b1, b2, b3, b4⟩ := byteW_sound hP (i := i2) hby n2 hk1 hp1 (fun pl vs hpl hvs => by
    have hvs : σ1.vs[s1.top]? = some vs := hvs
    have ht : s1.top = 0 := by unfold WS.top; rw [hsl1]; rfl
    rw [ht, hex1] at hpl
    rw [ht, hvs1] at hvs
    simp at hpl hvs
    subst hpl hvs
    rw [hbs]; omega)
  have hlv2 : σ2.lv = [⟨mb, 0, sz, cs, 0, 0, 1⟩] := b3.trans hlv1
  have hvs2 : σ2.vs = [vsT] := b4.trans hvs1
  have h255 : UInt8.ofNat (1 : Int).toNat = 1 := rfl
  rw [hbs, h255] at b2
  have hcbl := (List.getElem?_eq_some_iff.1 hcb).1
  have hk2 : s2.k = 0 ∧ s2.pend = none := ⟨hk2a, hk2b⟩
  have hbs2 : σ2.bs = encs C.flex pl1 vs1 ++ [1] := by
    obtain ⟨p, p1, p2⟩ := b2.bytes ⟨mb, 0, sz, cs, 0, 0, 1⟩ plT vsT (by unfold WS.top; rw [hsl2, hlv2]; rfl) (by unfold WS.top; rw [hsl2, hex2]; rfl) (by unfold WS.top; rw [hsl2, hvs2]; rfl)
    rw [hk2.2] at p1
    simp [pendB] at p1
    subst p1
    rw [p2, hk2.1]
    simp [encs]
  have hpush := b2.push (o := off) (sz := sz1) (k := 0) (E := ⟨cb, 0, sz1, cs1, off, 0, 1⟩) (plE := plC) (vsE := vsC) (sf := s2.fr.map (spP off)) (fr := σ2.fr) (H' := σ2.H) (out := σ2.out) (o1 := σ2.bs) (bs := σ2.bs) rfl rfl
    (fun _ => ⟨hsz1, hcbl, ty1, kn1, cs1, hcb, by show 0 + sz1 ≤ cs1.length; omega, by show (cs1.drop 0).take sz1 = cs1; rw [List.drop_zero, ← hsz1, List.take_length]⟩)
    (fun p hp => by
      have ht : s2.top = 0 := by unfold WS.top; rw [hsl2]; rfl
      rw [ht, hlv2] at hp
      simp at hp
      subst hp
      exact ⟨_, hcell, .inr rfl⟩) hsC
    ⟨by simp [b2.fr.1], fun t v av hv ha => by
      simp only [List.getElem?_map, Option.map_eq_some_iff] at hv
      obtain ⟨v', hv', rfl⟩ := hv
      have d := b2.fr.2 t v' av hv' ha
      unfold spP
      split
      · rename_i hcl
        subst hcl
        obtain ⟨e', t1, t2⟩ := d
        rw [hlv2] at t1
        simp at t1
        subst t1
        have t2 : cs[off]? = some av := t2
        rw [hcell] at t2
        cases t2
        exact ⟨⟨cb, 0, sz1, cs1, off, 0, 1⟩, by rw [hlv2]; rfl, Nat.zero_lt_one, rfl⟩
      · exact denW_pre _ d⟩ b2.keep b2.out (by simp [encs]) (by rw [hbs2]; simp; omega)
  obtain ⟨σ3, w1, w2, w3⟩ := chkW_sound hP 400 _ _ _ hchk _ _ hpush
  have hlv3 : σ3.lv = [⟨mb, 0, sz, cs, 0, 0, 1⟩, ⟨cb, 0, sz1, cs1, off, 0, 1⟩] := by rw [w3.lv]; show σ2.lv ++ _ = _; rw [hlv2]; rfl
  have hvs3 : σ3.vs = [vsT, vsC] := by rw [w3.vs]; show σ2.vs ++ _ = _; rw [hvs2]; rfl
  have hbs3 : σ3.bs = encs C.flex pl1 vs1 ++ [1] ++ encs C.flex plC vsC := by
    obtain ⟨p, p1, p2⟩ := w2.bytes ⟨cb, 0, sz1, cs1, off, 0, 1⟩ plC vsC (by unfold WS.top; rw [hsl3, hlv3]; rfl) (by unfold WS.top; rw [hsl3, hex3]; rfl) (by unfold WS.top; rw [hsl3, hvs3]; rfl)
    rw [hp3] at p1
    simp [pendB] at p1
    subst p1
    rw [p2, hk3, List.take_length, hbs2, List.append_nil]
  have hpop := w2.pop hlv3 hsl3 (vsN := vsT) hsT (by rw [hbs3]; simp; omega) hp3
  obtain ⟨fr', out, H', d1, d2, d3, d4⟩ := endW_sound hP hend hpop rfl rfl
  refine ⟨out, H', RUs.done hf hcode hcodes hres (RUs.app q1 (RUs.cons n1 (RUs.cons (RU.condF e1 (RUs.code ?_)) d1))) d2 hns, by rw [hbs3] at d3; exact d3, d4⟩
  rw [hfl]
  exact RUs.cons b1 w1
end Go.Proofs.YtdanlkiojkimaaaDoor.Rd

