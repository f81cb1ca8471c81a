/-
  A new ApiVersionsResponse is written, at every version, as the reference writes the defaults.
  Conditions: none beyond the row's own.
-/
import Derived.Test.YthioggjaccpfgaaRows
import Derived.Test.YthioggjaccpfgaaAxTop
import Derived.ProofKit
import Derived.OpenShut
import Derived.Below
import Derived.SizedLaws
namespace Go.Proofs.Ythioggjaccpfgaa.fnNewApiVersionsResponse
open Go.ChangeShapes Go.WideShapes Go.ChangeAt Go.RowKit Go.Proofs.Ythioggjaccpfgaa.Ax
set_option linter.unusedVariables false
theorem own : ownKnob Try.prog.godebug = none := by kernel_rfl
theorem noc : noCount Try.prog = true := by kernel_rfl
theorem ver (k : Int) (w : World) (h0 : 0 ≤ k) (h1 : k ≤ 255) : Calls Try.prog 16 #[.int .u8 k, .int .i64 (5 : Nat)] w fun e w' => e = .returned (.int .i64 (k % (((5 : Nat) : Int) + 1))) ∧ w' = w := by
  go_enter Try.func16, Try.ntmps16
  go_wp2
  go_ret
  exact ⟨by first | rfl | (simp; done) | (congr 2; omega), rfl⟩
theorem run0 : isTrue (run Try.prog (verS 16 5 0) 4000 10 [.k 0] []) = true := by kernel_rfl
theorem run1 : isTrue (run Try.prog (verS 16 5 1) 4000 10 [.k 0] []) = true := by kernel_rfl
theorem run2 : isTrue (run Try.prog (verS 16 5 2) 4000 10 [.k 0] []) = true := by kernel_rfl
theorem run3 : isTrue (run Try.prog (verS 16 5 3) 4000 10 [.k 0] []) = true := by kernel_rfl
theorem run4 : isTrue (run Try.prog (verS 16 5 4) 4000 10 [.k 0] []) = true := by kernel_rfl
theorem run5 : isTrue (run Try.prog (verS 16 5 5) 4000 10 [.k 0] []) = true := by kernel_rfl
theorem runs : ∀ v : Nat, v ≤ 5 → isTrue (run Try.prog (verS 16 5 v) 4000 10 [.k 0] []) = true
  | 0, _ => run0
  | 1, _ => run1
  | 2, _ => run2
  | 3, _ => run3
  | 4, _ => run4
  | 5, _ => run5
  | _ + 6, h => absurd h (by omega)
theorem walk (k : Int) (h0 : 0 ≤ k) (h1 : k ≤ 255) (w : World) : Calls Try.prog 10 #[.int .u8 k] w fun e w' => e = .returned (.bool true) ∧ Below w.heap.size w w' := by
  have hm0 : 0 ≤ k % (((5 : Nat) : Int) + 1) := Int.emod_nonneg _ (by omega)
  have hm1 : k % (((5 : Nat) : Int) + 1) < ((5 : Nat) : Int) + 1 := Int.emod_lt_of_pos _ (by omega)
  have hv := runs (k % (((5 : Nat) : Int) + 1)).toNat (by omega)
  rw [Int.toNat_of_nonneg hm0] at hv
  exact am_true (ρ := fun _ => .int .u8 k) (fun _ => rfl) noc (verS_sound ⟨_, Try.func16, rfl⟩ fun w => ver k w h0 h1) (vs := [.int .u8 k]) hv (.cons (.k 0) .nil)
set_option maxRecDepth 100000 in
theorem lifted (os : Os) (started : os.Started) (H : Type) (enc : TypeId × Value → H) :
    ReturnsInHanded {} Try.checked os 10 .any (Rows.fnNewApiVersionsResponseSpec.pre6 enc Try.prog Try.f10 Rows.fnNewApiVersionsResponseRow.domain false) (Rows.fnNewApiVersionsResponseSpec.post enc Try.prog Try.f10 false true false false) := by
  refine returnsInHanded_of_change (C := Try.checked) own started (by kernel_rfl) Try.func10
    (ChangeSpec.witness6 (enc := enc) (C := Try.checked) false ⟨#[], #[.int .u8 0], []⟩ 8 (by kernel_rfl) (by kernel_rfl) (by kernel_rfl) (by kernel_rfl)) ?_
  intro W base args ds gs before hval0 hW hcnd _
  have hval : ∀ (j : Nat) t v, Try.f10.params[j]? = some t → args[j]? = some v → Value.okWide Try.prog W .any base t v := hval0
  have hW' := hW
  obtain ⟨p, q, hA0, hV, rfl, hfz, hnd⟩ := hW
  have hA : DataW.TrodAll enc Try.prog W 0 (fun _ => true) true Try.f10.params.toList args.toList ds p := hA0
  rw [Try.params10] at hA hval
  obtain ⟨v0, vs0, d0, ds0, p0, q0, hargs, rfl, rfl, h0, r0⟩ := trodAll_cons hA
  obtain ⟨rfl, rfl, rfl⟩ := trodAll_nil r0
  obtain rfl : args = #[v0] := by cases args; simp_all
  obtain ⟨rfl, rfl⟩ := trodVars_none hV
  obtain ⟨a0, rfl, rfl, rfl, w0⟩ := open_int Try.underlying5 (hval 0 5 v0 rfl rfl) h0
  clear hA0 hval0
  have hx : 0 ≤ a0 ∧ a0 ≤ 255 := by simpa [Lit.wf, IntKind.min, IntKind.max, IntKind.signed, IntKind.bits] using w0
  refine (walk a0 hx.1 hx.2 W).mono fun e W' ⟨he, bel⟩ => ?_
  subst he
  exact ⟨_, rfl, _, _, _, [], _, [], hW', trodAll_mk1 (shut_bool Try.underlying4 _), (trodAll_cons_mk (shut_int Try.underlying5 w0) trodAll_mk0), rfl, bel.frame _, fun h => by cases h⟩
theorem over : Rows.fnNewApiVersionsResponseRow.holds Try.pinned (OpenSpec.ofChange Rows.fnNewApiVersionsResponseSpec) :=
  OpenClaim.holds_of_wide 10 Try.f10 rfl rfl rfl rfl rfl rfl rfl ⟨rfl, rfl, rfl, rfl, rfl⟩ rfl rfl rfl rfl rfl (by kernel_rfl) Try.func10 (by kernel_rfl)
    (of_decide_eq_true (by kernel_rfl)) (by unfold Func.isWrapper; first | (rw [if_pos (by decide +kernel)]; kernel_rfl) | (rw [if_neg (by decide +kernel)]; exact ⟨rfl, rfl⟩))
    (fun os started H enc _ => lifted os started H enc)
end Go.Proofs.Ythioggjaccpfgaa.fnNewApiVersionsResponse
namespace Go.Proofs.Ythioggjaccpfgaa
theorem fnNewApiVersionsResponse_holds : Rows.FnNewApiVersionsResponseSaid := fnNewApiVersionsResponse.over
#print axioms fnNewApiVersionsResponse_holds
end Go.Proofs.Ythioggjaccpfgaa
