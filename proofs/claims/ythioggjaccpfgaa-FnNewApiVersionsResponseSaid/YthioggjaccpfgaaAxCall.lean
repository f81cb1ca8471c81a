/-
  THE ABSTRACT MACHINE: a function's call.
-/
import Derived.Test.YthioggjaccpfgaaAxExec2
namespace Go.Proofs.Ythioggjaccpfgaa.Ax
open Go Go.RowKit

section
variable {P : Program} {ρ : Nat → Value} {base : Nat} {μ : List Loc} {H : Heap} {w : World} {fr : List AV} {a : Act}

theorem pack_VR {vs : List AV} {us : List Value} (h : VRs ρ μ vs us) : VR ρ μ (packA vs) (if h : us.toArray.size = 1 then us.toArray[0] else .tuple us.toArray) := by
  cases vs with
  | nil =>
    obtain rfl : us = [] := List.eq_nil_of_length_eq_zero h.1.symm
    exact .t (vs := []) rfl (fun j x v h => by simp at h)
  | cons v r =>
    cases r with
    | nil =>
      cases us with
      | nil => have := h.1; simp at this
      | cons u s =>
        cases s with
        | nil => simpa [packA] using h.2 0 v u rfl rfl
        | cons _ _ => have := h.1; simp at this
    | cons v2 r =>
      have hl := h.1
      have : ¬ us.toArray.size = 1 := by simp at hl ⊢; omega
      rw [dif_neg this]
      exact .t h.1 h.2

theorem results_run {fn : Func} {tmps : Array Value} {us : List Value} (h : (fn.results.toList.mapM (resOf tmps)).run P w = .ok us w) :
    (results fn tmps).run P w = .ok (if h : us.toArray.size = 1 then us.toArray[0] else .tuple us.toArray) w := by
  have hm : (fn.results.mapM (resOf tmps)).run P w = .ok us.toArray w := by
    rw [Array.mapM_eq_mapM_toList, Sem.run_map, h]; rfl
  have he : results fn tmps = (do let vs ← fn.results.mapM (resOf tmps); pure (if h : vs.size = 1 then vs[0] else .tuple vs)) := by
    unfold results
    congr 1
  rw [he]
  simp only [Sem.run_bind, hm, Result.andThen_ok, Sem.run_pure]

theorem callWith_sound {S : CallA} (hS : CallSound P ρ base S) {run : Code → List AV → Heap → Option (AX × List AV × Heap)}
    (hrun : ∀ c fr H x fr' H', run c fr H = some (x, fr', H') → ∀ μ a w Q, HR P ρ base μ H w → FR ρ μ fr a.tmps →
      (∀ a' w' μ', Ext μ μ' → FR ρ μ' fr' a'.tmps → a'.defers = a.defers → HR P ρ base μ' H' w' → Below base w w' → Q (exitOf x) a' w') → c.wp P Q a w) :
    CallSound P ρ base (callWith P S run) := by
  intro f args H v H' h
  unfold callWith at h
  split at h
  · rename_i r hs
    simp at h; subst h
    exact hS f args H v H' hs
  · split at h
    · rename_i fn hf
      split at h
      · rename_i c hc
        refine ⟨⟨fn, hf, by simp [hc]⟩, fun μ w vs hr hv => ?_⟩
        have key : ∀ x fr' H1, (x = AX.normal ∨ x = AX.ret) → run c (args ++ List.replicate (fn.ntmps - args.length) (.t [])) H = some (x, fr', H1) → ((resultsA P H1 fr' fn.results.toList).map fun vs => (packA vs, H1)) = some (v, H') →
            Calls P f vs.toArray w (Meets P ρ base μ w v H') := by
          intro x fr' H1 hx hex hres
          obtain ⟨rs, hrs, hh⟩ := Option.map_eq_some_iff.1 hres
          simp at hh
          obtain ⟨rfl, rfl⟩ := hh
          have hf0 : FR ρ μ (args ++ List.replicate (fn.ntmps - args.length) (.t [])) (vs.toArray ++ Array.replicate (fn.ntmps - vs.toArray.size) undef) := by
            unfold FR
            have e : (vs.toArray ++ Array.replicate (fn.ntmps - vs.toArray.size) undef).toList = vs ++ List.replicate (fn.ntmps - args.length) undef := by
              simp [hv.1]
            rw [e]
            exact hv.append (.replicate VR.undef _)
          refine calls_of_wp hf hc (hrun c _ H x fr' H1 hex μ ⟨_, []⟩ w _ hr hf0 fun a' w' μ' e1 e2 e3 e4 e5 => ?_)
          obtain ⟨us, hus, huv⟩ := results_fine e4 e2 _ _ hrs
          have hR : Meets P ρ base μ w (packA rs) H1 (.returned (if h : us.toArray.size = 1 then us.toArray[0] else .tuple us.toArray)) w' := ⟨_, μ', rfl, e1, pack_VR huv, e4, e5⟩
          rcases hx with rfl | rfl
          · exact ⟨e3, _, results_run hus, hR⟩
          · exact ⟨e3, _, results_run hus, hR⟩
        split at h
        · rename_i fr' H1 hex
          exact key .normal fr' H1 (.inl rfl) hex h
        · rename_i fr' H1 hex
          exact key .ret fr' H1 (.inr rfl) hex h
        · cases h
      · cases h
    · cases h

theorem run_sound (hρ : ∀ j, (ρ j).oneCell' = true) (hN : NoCount P) {S : CallA} (hS : CallSound P ρ base S) {draw : CallA → Array Oper → List AV → Heap → Option (List AV × Heap)} (hdraw : DrawSound P ρ base draw) (n : Nat) :
    CallSound P ρ base (callWith P S (exec P S draw n)) :=
  callWith_sound hS (exec_wp hρ hN hdraw (fun _ hn => callWith_sound hS hn) n).1
end
end Go.Proofs.Ythioggjaccpfgaa.Ax
