/-
  THE ABSTRACT MACHINE: a law whose run the machine computes.
-/
import Derived.Test.YthioggjaccpfgaaAxDrawSound2
namespace Go.Proofs.Ythioggjaccpfgaa.Ax
open Go Go.RowKit

/-- Does the run end with true? -/
def isTrue : Option (AV × Heap) → Bool
  | some (.b true, _) => true
  | _ => false

/-- No function of the program counts goroutines. -/
def noCount (P : Program) : Bool := P.funcs.toList.all fun fn => !(fn.name == "runtime.NumGoroutine")
theorem noCount_iff {P : Program} (h : noCount P = true) : NoCount P := by
  intro f fn hf
  unfold noCount at h
  rw [List.all_eq_true] at h
  have := h fn (by
    have := Array.mem_of_getElem? hf
    simpa using this)
  simpa using this

theorem HR.start (P : Program) (ρ : Nat → Value) (w : World) : HR P ρ w.heap.size [] [] w :=
  ⟨rfl, Nat.le_refl _, fun i ty kn cs l h => by simp at h, fun i ty kn cs l h => by simp at h, fun i j ty kn cs ty' kn' cs' l l' h => by simp at h⟩

theorem am_true {P : Program} {ρ : Nat → Value} (hρ : ∀ j, (ρ j).oneCell' = true) (hN : noCount P = true) {S : CallA} {w : World} (hS : CallSound P ρ w.heap.size S) {n : Nat} {f : FuncId} {args : List AV} {vs : List Value} (h : isTrue (run P S n f args []) = true) (hv : VRs ρ [] args vs) :
    Calls P f vs.toArray w fun e w' => e = .returned (.bool true) ∧ Below w.heap.size w w' := by
  unfold isTrue at h
  split at h
  · rename_i H hr
    have hc := run_sound hρ (noCount_iff hN) hS (drawA_sound hρ (noCount_iff hN)) n f args [] _ _ hr
    refine (hc.2 [] w vs (HR.start P ρ w) hv).mono fun e w' hm => ?_
    obtain ⟨v', μ', rfl, _, hv', _, hb⟩ := hm
    cases hv'
    exact ⟨rfl, hb⟩
  · cases h

/-- The one call that is answered by a contract: a number brought to one of the versions. -/
def verS (f : FuncId) (most v : Int) : CallA := fun g args H =>
  if g = f then (match args with | [.k 0, .i .i64 m] => if m = most then some (.i .i64 v, H) else none | _ => none) else none
def noS : CallA := fun _ _ _ => none

theorem noS_sound {P : Program} {ρ : Nat → Value} {base : Nat} : CallSound P ρ base noS := fun f args H v H' h => by cases h
theorem verS_sound {P : Program} {f : FuncId} {most v n : Int} {base : Nat} (hf : ∃ fn, P.funcs[f]? = some fn ∧ fn.body.isSome = true)
    (hc : ∀ w, Calls P f #[.int .u8 n, .int .i64 most] w fun e w' => e = .returned (.int .i64 v) ∧ w' = w) : CallSound P (fun _ => .int .u8 n) base (verS f most v) := by
  intro g args H x H' h
  unfold verS at h
  split at h
  · rename_i e
    subst e
    split at h
    · rename_i m
      split at h
      · rename_i e
        subst e
        simp at h
        obtain ⟨rfl, rfl⟩ := h
        refine ⟨hf, fun μ w vs hr hv => ?_⟩
        obtain ⟨hl, hv⟩ := hv
        match vs, hl with
        | [a, b], _ =>
          have h0 := hv 0 _ _ rfl rfl
          have h1 := hv 1 _ _ rfl rfl
          cases h0
          cases h1
          refine (hc w).mono fun e w' hw => ?_
          obtain ⟨rfl, rfl⟩ := hw
          exact ⟨_, μ, rfl, Ext.refl _, .i _ _, hr, Below.refl _ _⟩
      · cases h
    · cases h
  · cases h

/-- Every version's run ends with true. -/
def allTrue (P : Program) (ver law : FuncId) (most n : Nat) : Bool := (List.range (most + 1)).all fun v => isTrue (run P (verS ver most v) n law [.k 0] [])

theorem law_new {P : Program} (hN : noCount P = true) {ver law : FuncId} {most n : Nat} (hf : ∃ fn, P.funcs[ver]? = some fn ∧ fn.body.isSome = true)
    (hc : ∀ (k : Int) (w : World), 0 ≤ k → k ≤ 255 → Calls P ver #[.int .u8 k, .int .i64 most] w fun e w' => e = .returned (.int .i64 (k % ((most : Int) + 1))) ∧ w' = w)
    (h : allTrue P ver law most n = true) (k : Int) (h0 : 0 ≤ k) (h1 : k ≤ 255) (w : World) :
    Calls P law #[.int .u8 k] w fun e w' => e = .returned (.bool true) ∧ Below w.heap.size w w' := by
  unfold allTrue at h
  rw [List.all_eq_true] at h
  have hm0 : 0 ≤ k % ((most : Int) + 1) := Int.emod_nonneg _ (by omega)
  have hm1 : k % ((most : Int) + 1) < (most : Int) + 1 := Int.emod_lt_of_pos _ (by omega)
  have hv := h (k % ((most : Int) + 1)).toNat (List.mem_range.2 (by omega))
  rw [Int.toNat_of_nonneg hm0] at hv
  exact am_true (ρ := fun _ => .int .u8 k) (fun _ => rfl) hN (verS_sound hf fun w => hc k w h0 h1) (vs := [.int .u8 k]) hv (.cons (.k 0) .nil)
end Go.Proofs.Ythioggjaccpfgaa.Ax
