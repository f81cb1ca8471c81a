import Derived.Test.YtopfghmpaobnnaaDoorQSxStore
/-
  THE CHECKER: regions and code on one way are sound.
-/
namespace Go.Proofs.YtopfghmpaobnnaaDoor.Rd
set_option linter.constructorNameAsVariable false
set_option linter.unusedVariables false
set_option linter.unusedSimpArgs false
open Go Go.Proofs.YtopfghmpaobnnaaDoor.Ax Go.Proofs.YtopfghmpaobnnaaDoor.Wire
set_option linter.unusedVariables false
set_option maxRecDepth 100000
set_option linter.unusedSimpArgs false

theorem OK.read {C : Cfg} {st0 : Option B} {s : SS} {σ : Sta} (h : OK C st0 s σ) (hry : s.rdy = true) {e : Ev} {y : AV} {H1 : Heap} {nn1 : Bool} {st1 : Option B} {vs1 : List V} (hw : y.cells.length = e.wide) (ho : y.cells.all AV.one = true) (hrd : RdAt (AO σ.η) tR H1 σ.η.rb nn1 st1)
    (hl : σ.H.length ≤ H1.length) (hk : ∀ i b, i ≠ σ.η.rb → σ.H[i]? = some b → H1[i]? = some b)
    (hres : match σ.st.bind (e.dec C.flex) with | none => st1 = none | some (v, r) => st1 = some r ∧ vs1 = σ.vs ++ [v] ∧ RepE (AO σ.η) H1 e v y) :
    OK C st0 { s with evs := s.evs ++ [e] } { σ with η := { σ.η with av := σ.η.av ++ [y] }, H := H1, nn := nn1, st := st1, vs := vs1 } ∧
    Step s { s with evs := s.evs ++ [e] } σ { σ with η := { σ.η with av := σ.η.av ++ [y] }, H := H1, nn := nn1, st := st1, vs := vs1 } := by
  have hkt : KT (AO σ.η) σ.H (AO σ.η) H1 := ⟨hl, fun i b a x => ⟨a, hk i b (fun e => a (by rw [e]; exact List.mem_cons_self)) x⟩⟩
  have hm : ∀ v a, den σ.η v a → den { σ.η with av := σ.η.av ++ [y] } v a := fun v a d => den_mono (η := σ.η) (η' := { σ.η with av := σ.η.av ++ [y] }) rfl (.refl _) (.refl _) (.app _ _) (fun _ => rfl) d
  have hb : ∀ {l : Nat} {e' : Lv} {b : Blk}, σ.η.lv[l]? = some e' → σ.H[e'.b]? = some b → H1[e'.b]? = some b := fun he hc => hk _ _ (nd_rb h.nd he) hc
  refine ⟨⟨h.fr.mono fun v _ a => hm v a, ⟨h.win.1, fun l e' w he' hw' => ?_⟩, h.ln, h.nd, h.room.keep hkt.keep, fun _ => hrd, Nat.lt_of_lt_of_le h.rbl hl, by simp [h.avl]; omega, fun n a hn => ?_, fun i e' a he' ha => ?_, h.zl, fun l e' w z he' hw' hz => ?_, h.lvj, ?_, fun hst i e' v a he' hv ha => ?_⟩,
    ⟨rfl, .refl _, rfl, rfl, .app _ _, hkt, fun l e' w ty kn cs he' hw' hc => ⟨cs, hb he' hc, rfl, fun _ _ => rfl⟩, rfl, fun l w hw => ⟨w, hw, rfl⟩, ⟨[e], rfl⟩, rfl, rfl, rfl, fun hr => by rw [hry] at hr; cases hr⟩⟩
  · obtain ⟨q1, ty', kn', cs', q2, q3, q4, q5⟩ := h.win.2 _ _ _ he' hw'
    exact ⟨q1, ty', kn', cs', hb he' q2, q3, q4, fun o v hv => by obtain ⟨a, a1, a2, a3⟩ := q5 o v hv; exact ⟨a, a1, a2, hm _ _ a3⟩⟩
  · have hn' : (σ.η.av ++ [y])[n]? = some a := hn
    by_cases hlt : n < σ.η.av.length
    · rw [List.getElem?_append_left hlt] at hn'; exact h.one n a hn'
    · have := (List.getElem?_eq_some_iff.1 hn').1
      simp at this
      obtain rfl : n = σ.η.av.length := by omega
      simp at hn'; subst hn'; exact ho
  · have ha' : (σ.η.av ++ [y])[s.base + i]? = some a := ha
    have he2 : (s.evs ++ [e])[i]? = some e' := he'
    by_cases hlt : i < s.evs.length
    · rw [List.getElem?_append_left (by rw [h.avl]; omega)] at ha'
      rw [List.getElem?_append_left hlt] at he2
      exact h.wid i e' a he2 ha'
    · have := (List.getElem?_eq_some_iff.1 he2).1
      simp at this
      obtain rfl : i = s.evs.length := by omega
      rw [← h.avl] at ha'
      simp at ha' he2
      subst ha'; subst he2; exact hw
  · obtain ⟨z1, ty', bl', n', q2, q3, q4, q5⟩ := h.zer _ _ _ _ he' hw' hz
    exact ⟨z1, ty', bl', n', hb he' q2, q3, q4, fun q hq hqn o v hv => by obtain ⟨a, a1, a2, a3⟩ := q5 q hq hqn o v hv; exact ⟨a, a1, a2, hm _ _ a3⟩⟩
  · have hrun := h.run
    cases hst : σ.st with
    | none =>
      rw [hst] at hrun hres
      simp only [Option.bind_none] at hres
      subst hres
      show st0.bind (runE C.flex (s.evs ++ [e])) = none
      cases st0 with
      | none => rfl
      | some bs =>
        simp only [Option.bind_some] at hrun ⊢
        rw [runE_snoc, hrun]; rfl
    | some r =>
      rw [hst] at hrun hres
      obtain ⟨bs0, rfl, hr⟩ := hrun
      simp only [Option.bind_some] at hres
      cases hd : e.dec C.flex r with
      | none =>
        rw [hd] at hres
        subst hres
        show (some bs0).bind (runE C.flex (s.evs ++ [e])) = none
        simp only [Option.bind_some]
        rw [runE_snoc, hr]; simp [hd]
      | some x =>
        obtain ⟨v, r1⟩ := x
        rw [hd] at hres
        obtain ⟨rfl, rfl, _⟩ := hres
        refine ⟨bs0, rfl, ?_⟩
        rw [runE_snoc, hr]; simp [hd]
  · have ha' : (σ.η.av ++ [y])[s.base + i]? = some a := ha
    have he2 : (s.evs ++ [e])[i]? = some e' := he'
    cases hx : σ.st.bind (e.dec C.flex) with
    | none => rw [hx] at hres; subst hres; cases hst
    | some x =>
      obtain ⟨v1, r1⟩ := x
      rw [hx] at hres
      obtain ⟨rfl, rfl, hrep⟩ := hres
      have hvl : σ.vs.length = s.evs.length ∧ σ.st.isSome = true := by
        have hrun := h.run
        cases hs2 : σ.st with
        | none => rw [hs2] at hx; cases hx
        | some r =>
          rw [hs2] at hrun
          obtain ⟨bs0, _, hr⟩ := hrun
          exact ⟨runE_length hr, rfl⟩
      have hv2 : (σ.vs ++ [v1])[i]? = some v := hv
      by_cases hlt : i < s.evs.length
      · rw [List.getElem?_append_left (by rw [h.avl]; omega)] at ha'
        rw [List.getElem?_append_left hlt] at he2
        rw [List.getElem?_append_left (by omega)] at hv2
        exact RepE.kt hkt (h.rep hvl.2 i e' v a he2 hv2 ha')
      · have := (List.getElem?_eq_some_iff.1 he2).1
        simp at this
        obtain rfl : i = s.evs.length := by omega
        rw [← h.avl] at ha'
        rw [← hvl.1] at hv2
        simp at ha' he2 hv2
        subst ha'; subst he2; subst hv2; exact hrep

/-- What the functions do that the checker is told of. -/
def PrimOK (C : Cfg) (f : FuncId) : Prim → Prop
  | .leaf k n fx => fxOk C.flex fx = true → RdV f C.flex k n
  | .len fx => fx = C.flex → RdN f .i32 (rdL C.flex)
  | .ok => RdOk f
  | .done => RdDone f
  | .tags => RdT f
  | .inl => True
def Prims (C : Cfg) : Prop := ∀ f p, C.prim.lookup f = some p → PrimOK C f p
def InlOK (C : Cfg) (inl : Inl) : Prop := ∀ f l o s s1, inl f [.ptr l o] s = some s1 → ∀ st0 σ x, OK C st0 s σ → den σ.η (.ptr l o) x →
  ∃ σ1, CA P NS f [x] σ.H (.t [], σ1.H) ∧ σ1.fr = σ.fr ∧ OK C st0 s1 σ1 ∧ Step s s1 σ σ1 ∧ s1.evs = s.evs ∧ σ1.st = σ.st

/-- The reader's own predicate on blocks. -/
theorem room_rb {A : Nat → Prop} {H : Heap} {rb : Nat} (h : Room A H rb) (hl : rb < H.length) : Room (fun i => i ≠ rb) H rb where
  no := by simp
  new := fun i hi => by omega
  be := ⟨fun e => h.no (e ▸ h.be.1), h.be.2⟩
  err := ⟨fun e => h.no (e ▸ h.err.1), h.err.2⟩
theorem rdAt_rb {A : Nat → Prop} {H : Heap} {rb : Nat} {nn : Bool} {st : Option B} (no : ¬ A rb) (h : RdAt A tR H rb nn st) : RdAt (fun i => i ≠ rb) tR H rb nn st :=
  rdAt_kt h ⟨Nat.le_refl _, fun i b a x => ⟨fun e => no (e ▸ a), x⟩⟩ rfl

theorem leaf_both {f : FuncId} {flex : Bool} {k : K} {null : Bool} (hf : RdV f flex k null) {A : Nat → Prop} {H : Heap} {rb : Nat} {nn : Bool} {st : Option B} (R : Room A H rb) (h : RdAt A tR H rb nn st) :
    ∃ av H1 st1, CA P NS f [.p rb 0] H (av, H1) ∧ av.cells.length = k.wide ∧ av.cells.all AV.one = true ∧ RdAt A tR H1 rb true st1 ∧ H.length ≤ H1.length ∧ (∀ i b, i ≠ rb → H[i]? = some b → H1[i]? = some b) ∧
      (match st.bind (decK flex k null) with | none => st1 = none | some (v, r) => st1 = some r ∧ RepK A H1 k null av v) := by
  cases hd : st.bind (decK flex k null) with
  | none =>
    obtain ⟨av, H1, c, w, o, r, kp⟩ := hf.bad A H rb nn st R h hd
    obtain ⟨av', H1', c', _, _, _, kp'⟩ := hf.bad _ H rb nn st (room_rb R (rdAt_lt h)) (rdAt_rb R.no h) hd
    cases CA.det c c'
    exact ⟨av, H1, none, c, w, o, r, kp.1, kp'.2, rfl⟩
  | some x =>
    obtain ⟨v, r1⟩ := x
    cases st with
    | none => cases hd
    | some bs =>
      simp only [Option.bind_some] at hd
      obtain ⟨av, H1, c, q, w, o, r, kp⟩ := hf.good A H rb nn bs v r1 R h hd
      obtain ⟨av', H1', c', _, _, _, _, kp'⟩ := hf.good _ H rb nn bs v r1 (room_rb R (rdAt_lt h)) (rdAt_rb R.no h) hd
      cases CA.det c c'
      exact ⟨av, H1, some r1, c, w, o, r, kp.1, kp'.2, rfl, q⟩
theorem tags_both {f : FuncId} (hf : RdT f) {A : Nat → Prop} {H : Heap} {rb : Nat} {nn : Bool} {st : Option B} (R : Room A H rb) (h : RdAt A tR H rb nn st) :
    ∃ av H1 st1, CA P NS f [.p rb 0] H (av, H1) ∧ av.cells.length = 1 ∧ av.cells.all AV.one = true ∧ RdAt A tR H1 rb true st1 ∧ H.length ≤ H1.length ∧ (∀ i b, i ≠ rb → H[i]? = some b → H1[i]? = some b) ∧
      (match st.bind (Ev.tags.dec true) with | none => st1 = none | some (v, r) => st1 = some r ∧ TagRep H1 v av) := by
  cases hd : st.bind (Ev.tags.dec true) with
  | none =>
    obtain ⟨av, H1, c, w, o, r, kp⟩ := hf.bad A H rb nn st R h hd
    obtain ⟨av', H1', c', _, _, _, kp'⟩ := hf.bad _ H rb nn st (room_rb R (rdAt_lt h)) (rdAt_rb R.no h) hd
    cases CA.det c c'
    exact ⟨av, H1, none, c, w, o, r, kp.1, kp'.2, rfl⟩
  | some x =>
    obtain ⟨v, r1⟩ := x
    cases st with
    | none => cases hd
    | some bs =>
      simp only [Option.bind_some] at hd
      obtain ⟨av, H1, c, q, w, o, r, kp⟩ := hf.good A H rb nn bs v r1 R h hd
      obtain ⟨av', H1', c', _, _, _, _, kp'⟩ := hf.good _ H rb nn bs v r1 (room_rb R (rdAt_lt h)) (rdAt_rb R.no h) hd
      cases CA.det c c'
      exact ⟨av, H1, some r1, c, w, o, r, kp.1, kp'.2, rfl, q⟩
theorem num_both {f : FuncId} {kd : IntKind} {d : B → Option (Int × B)} (hf : RdN f kd d) {A : Nat → Prop} {H : Heap} {rb : Nat} {nn : Bool} {st : Option B} (R : Room A H rb) (h : RdAt A tR H rb nn st) :
    ∃ n H1 st1, CA P NS f [.p rb 0] H (.i kd n, H1) ∧ RdAt A tR H1 rb true st1 ∧ H.length ≤ H1.length ∧ (∀ i b, i ≠ rb → H[i]? = some b → H1[i]? = some b) ∧
      (match st.bind d with | none => st1 = none ∧ n = 0 | some (v, r) => st1 = some r ∧ n = v) := by
  cases hd : st.bind d with
  | none =>
    obtain ⟨H1, c, r, kp⟩ := hf.bad A H rb nn st R h hd
    obtain ⟨H1', c', _, kp'⟩ := hf.bad _ H rb nn st (room_rb R (rdAt_lt h)) (rdAt_rb R.no h) hd
    cases CA.det c c'
    exact ⟨0, H1, none, c, r, kp.1, kp'.2, rfl, rfl⟩
  | some x =>
    obtain ⟨v, r1⟩ := x
    cases st with
    | none => cases hd
    | some bs =>
      simp only [Option.bind_some] at hd
      obtain ⟨H1, c, r, kp⟩ := hf.good A H rb nn bs v r1 R h hd
      obtain ⟨H1', c', _, kp'⟩ := hf.good _ H rb nn bs v r1 (room_rb R (rdAt_lt h)) (rdAt_rb R.no h) hd
      cases CA.det c c'
      exact ⟨v, H1, some r1, c, r, kp.1, kp'.2, rfl, rfl⟩
end Go.Proofs.YtopfghmpaobnnaaDoor.Rd

