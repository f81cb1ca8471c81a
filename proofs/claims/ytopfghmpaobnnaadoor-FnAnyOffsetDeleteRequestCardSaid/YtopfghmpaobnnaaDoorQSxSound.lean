import Derived.Test.YtopfghmpaobnnaaDoorQSxLoop
/-
  THE CHECKER is sound: the code that it accepts reads the format that it gives.
-/
namespace Go.Proofs.YtopfghmpaobnnaaDoor.Rd
set_option linter.constructorNameAsVariable false
set_option linter.unusedVariables false
set_option linter.unusedSimpArgs false
open Go Go.Proofs.YtopfghmpaobnnaaDoor.Ax Go.Proofs.YtopfghmpaobnnaaDoor.Wire
set_option linter.unusedVariables false
set_option maxRecDepth 100000
set_option linter.unusedSimpArgs false

theorem storeS_evs {t : TypeId} {a v : SV} {s s1 : SS} (h : storeS t a v s = some s1) : s1.evs = s.evs := by
  unfold storeS at h
  split at h
  · split at h
    · split at h
      · simp at h; subst h; rfl
      · cases h
    · cases h
  · cases h
def InlEv (inl : Inl) : Prop := ∀ f args s s1, inl f args s = some s1 → s1.evs = s.evs
theorem opS_evs {C : Cfg} {mode : Option Bool} {inl : Inl} (hI : InlEv inl) {o : Oper} {s s1 : SS} (hs : opS C mode inl o s = some s1) : ∃ l, s1.evs = s.evs ++ l := by
  have hp : ∀ (s : SS) d v, (s.put d v).evs = s.evs := fun s d v => (put_fields s d v).2.2.1
  unfold opS at hs
  · split at hs
    · split at hs
      · simp only [Option.map_eq_some_iff] at hs
        obtain ⟨s2, h2, rfl⟩ := hs
        exact ⟨[], by rw [hp, storeS_evs h2]; simp⟩
      · cases hs
    · split at hs
      · split at hs
        · simp at hs; subst hs; exact ⟨_, hp _ _ _⟩
        · cases hs
      · split at hs
        · simp at hs; subst hs; exact ⟨_, hp _ _ _⟩
        · cases hs
      · split at hs
        · split at hs
          · simp at hs; subst hs; exact ⟨[], by rw [hp]; simp⟩
          · cases hs
        · cases hs
      · split at hs
        · split at hs
          · simp at hs; subst hs; exact ⟨[], by rw [hp]; simp⟩
          · cases hs
        · cases hs
      · split at hs
        · simp only [Option.map_eq_some_iff] at hs
          obtain ⟨s2, h2, rfl⟩ := hs
          exact ⟨[], by rw [hp, hI _ _ _ _ h2]; simp⟩
        · cases hs
      · cases hs
    · split at hs
      · split at hs
        · split at hs
          · simp at hs; subst hs; exact ⟨[], by rw [hp]; simp⟩
          · cases hs
        · cases hs
      · cases hs
    · split at hs
      · split at hs
        · split at hs
          · split at hs
            · simp at hs; subst hs; exact ⟨[], by rw [hp]; simp⟩
            · cases hs
          · cases hs
        · cases hs
      · cases hs
    · simp only [Option.map_eq_some_iff] at hs
      obtain ⟨v, _, rfl⟩ := hs
      exact ⟨[], by rw [hp]; simp⟩
theorem opsS_evs {C : Cfg} {mode : Option Bool} {inl : Inl} (hI : InlEv inl) {ops : List Oper} : ∀ (l : List Oper) {s s1 : SS}, opsS C mode inl ops l s = some s1 → ∃ l, s1.evs = s.evs ++ l
  | [], s, s1, h => by simp [opsS] at h; subst h; exact ⟨[], by simp⟩
  | o :: l, s, s1, h => by
    unfold opsS at h
    split at h
    · cases h2 : opS C mode inl o s with
      | none => rw [h2] at h; cases h
      | some s2 =>
        rw [h2] at h
        obtain ⟨a, ha⟩ := opS_evs hI h2
        obtain ⟨b, hb⟩ := opsS_evs hI l h
        exact ⟨a ++ b, by rw [hb, ha, List.append_assoc]⟩
    · obtain ⟨b, hb⟩ := opsS_evs hI l h
      exact ⟨b, by rw [hb, (put_fields _ _ _).2.2.1]⟩
    · cases h
theorem inlS_evs (C : Cfg) (n : Nat) : InlEv (inlS C n) := by
  cases n with
  | zero =>
    intro f args s s1 h
    simp [inlS] at h
  | succ n =>
    intro f args s s1 h
    have h : inlStep C (inlS C n) f args s = some s1 := h
    unfold inlStep at h
    split at h
    · split at h
      · split at h
        · split at h
          · split at h
            · simp at h; subst h; rfl
            · cases h
          · cases h
        · cases h
      · cases h
    · cases h
theorem Pre.eq {α : Type} {a b : List α} (h : Pre a b) (hl : b.length = a.length) : b = a := by
  apply List.ext_getElem?
  intro i
  by_cases hi : i < a.length
  · have : a[i]? = some a[i] := by simp [hi]
    rw [this]; exact h.at_ _ _ this
  · rw [List.getElem?_eq_none (by omega), List.getElem?_eq_none (by omega)]
theorem Step.env {C : Cfg} {st0 st1 : Option B} {s s' : SS} {σ σ' : Sta} (h : Step s s' σ σ') (h0 : OK C st0 s σ) (h1 : OK C st1 s' σ') (hw : s'.win.length = s.win.length) (he : s'.evs = s.evs) : σ'.η = σ.η := by
  have e1 := h.lv.eq (by rw [← h1.win.1, ← h0.win.1, hw])
  have e2 := h.av.eq (by rw [h1.avl, h0.avl, h.base, he])
  have e3 := h.ln
  have e4 := h.lq
  have e5 := h.rb
  cases hη' : σ'.η
  cases hη : σ.η
  rw [hη', hη] at e1 e2 e3 e4 e5
  simp at e1 e2 e3 e4 e5
  subst e1 e2 e3 e4 e5
  rfl
theorem inlS_ok {C : Cfg} (hC : Prims C) (n : Nat) : InlOK C (inlS C n) := by
  induction n with
  | zero =>
    intro f l o s s1 h
    simp [inlS] at h
  | succ n ih =>
    intro f l o s s1 h st0 σ x hok hx
    have h : inlStep C (inlS C n) f [.ptr l o] s = some s1 := h
    unfold inlStep at h
    split at h
    · rename_i fn hfn
      split at h
      · rename_i c hc
        split at h
        · rename_i hres
          split at h
          · rename_i xx s' xx' s'' h1 h2
            split at h
            · rename_i hcond
              obtain ⟨c1, rfl, rfl, c4, c5, c6, c7, c8, c9⟩ := hcond
              simp at h; subst h
              have hfr : FR σ.η ([SV.ptr l o] ++ List.replicate (fn.ntmps - 1) .u) ([x] ++ List.replicate (fn.ntmps - 1) (.t [])) := by
                refine ⟨by simp, fun t v a hv ha => ?_⟩
                cases t with
                | zero => simp at hv ha; subst hv; subst ha; exact hx
                | succ t =>
                  simp [List.getElem?_replicate] at hv
                  rw [← hv.2]; trivial
              have hok2 : OK C st0 { s with fr := [SV.ptr l o] ++ List.replicate (fn.ntmps - 1) .u } { σ with fr := [x] ++ List.replicate (fn.ntmps - 1) (.t []) } :=
                ⟨hfr, hok.win, hok.ln, hok.nd, hok.room, hok.rd, hok.rbl, hok.avl, hok.one, hok.wid, hok.zl, hok.zer, hok.lvj, hok.run, hok.rep⟩
              obtain ⟨σ1, r, q2, q3, q4⟩ : ∃ σ1, RU P NS c ([x] ++ List.replicate (fn.ntmps - 1) (.t [])) σ.H (xx'.ax, σ1.fr, σ1.H) ∧ OK C st0 s'' σ1 ∧ Step { s with fr := [SV.ptr l o] ++ List.replicate (fn.ntmps - 1) .u } s'' { σ with fr := [x] ++ List.replicate (fn.ntmps - 1) (.t []) } σ1 ∧ σ1.st = σ.st := by
                cases hst : σ.st.isSome with
                | true =>
                  obtain ⟨σ1, r, q2, q3, q4⟩ := runS_sound hC ih _ c h1 hok2 (fun m hm => by cases hm; exact hst)
                  exact ⟨σ1, r, q2, q3, (q4 (by simp)).1⟩
                | false =>
                  obtain ⟨σ1, r, q2, q3, q4⟩ := runS_sound hC ih _ c h2 hok2 (fun m hm => by cases hm; exact hst)
                  exact ⟨σ1, r, q2, q3, (q4 (by simp)).1⟩
              have hη0 := Step.env q3 hok2 q2 c4 c5
              have hη : σ1.η = σ.η := hη0
              refine ⟨{ σ1 with fr := σ.fr }, ?_, rfl, ⟨?_, q2.win, q2.ln, q2.nd, q2.room, fun hr => q2.rd (c9.trans hr), q2.rbl, ?_, q2.one, ?_, ?_, ?_, ?_, ?_, ?_⟩, ⟨q3.rb, q3.lv, q3.ln, q3.lq, q3.av, q3.kt, q3.side, rfl, q3.wl, ⟨[], by simp⟩, rfl, rfl, rfl, q3.rbk⟩, rfl, q4⟩
              · have hr0 : fn.results.toList = [] := by
                  have : fn.results = #[] := Array.size_eq_zero_iff.1 hres
                  rw [this]
                have := CA.go (P := P) (f := f) (fn := fn) (c := c) (args := [x]) (H := σ.H) (H1 := σ1.H) (x := xx'.ax) (vs := []) hfn hc (by rcases c1 with rfl | rfl <;> simp [XS.ax]) ⟨σ1.fr, r, by rw [hr0]; rfl⟩
                exact this
              · show FR σ1.η s.fr σ.fr
                rw [hη]; exact hok.fr
              · have := q2.avl; rw [c5, c8] at this; exact this
              · have := q2.wid; rw [c5, c8] at this; exact this
              · have := q2.zl; rw [c6] at this; exact this
              · have := q2.zer; rw [c6] at this; exact this
              · have := q2.lvj; rw [c7] at this; exact this
              · have := q2.run; rw [c5] at this; exact this
              · have := q2.rep; rw [c5, c8] at this; exact this
            · cases h
          · cases h
        · cases h
      · cases h
    · cases h

theorem lenOp_spec {C : Cfg} {L r : List Oper} {d : Nat} {x : Operand} (h : lenOp C L = some (d, x, r)) : ∃ f args ats ty pos af, L = ⟨some d, .call { callee := .value (.func f), args := args, argTypes := ats }, ty, pos, af, none⟩ :: r ∧ C.prim.lookup f = some (.len C.flex) ∧ args.toList = [x] := by
  unfold lenOp at h
  split at h
  · rename_i d' f args ats ty pos af r'
    split at h
    · rename_i fx x' hl ha
      split at h
      · rename_i e; subst e
        simp at h
        obtain ⟨rfl, rfl, rfl⟩ := h
        exact ⟨f, args, ats, ty, pos, af, rfl, hl, ha⟩
      · cases h
    · cases h
  · cases h
end Go.Proofs.YtopfghmpaobnnaaDoor.Rd

