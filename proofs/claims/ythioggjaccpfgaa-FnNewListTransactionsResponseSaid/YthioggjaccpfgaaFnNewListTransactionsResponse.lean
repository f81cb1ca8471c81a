/-
  A new ListTransactionsResponse is written, at every version, as the reference writes the defaults.
  Conditions: none beyond the row's own.
-/
import Derived.Test.YthioggjaccpfgaaRows
import Derived.Test.YthioggjaccpfgaaAmTop
import Derived.ProofKit
import Derived.OpenShut
import Derived.Below
import Derived.SizedLaws
namespace Go.Proofs.Ythioggjaccpfgaa.fnNewListTransactionsResponse
open Go.ChangeShapes Go.WideShapes Go.ChangeAt Go.RowKit Go.Proofs.Ythioggjaccpfgaa.Am
set_option linter.unusedVariables false
theorem own : ownKnob Try.prog.godebug = none := by kernel_rfl
theorem noc : noCount Try.prog = true := by kernel_rfl
theorem ver (k : Int) (w : World) (h0 : 0 ≤ k) (h1 : k ≤ 255) : Calls Try.prog 16 #[.int .u8 k, .int .i64 (2 : Nat)] w fun e w' => e = .returned (.int .i64 (k % (((2 : Nat) : Int) + 1))) ∧ w' = w := by
  go_enter Try.func16, Try.ntmps16
  go_wp2
  go_ret
  exact ⟨by first | rfl | (simp; done) | (congr 2; omega), rfl⟩
theorem runs : allTrue Try.prog 16 4 2 4000 = true := by kernel_rfl
theorem walk (k : Int) (h0 : 0 ≤ k) (h1 : k ≤ 255) (w : World) : Calls Try.prog 4 #[.int .u8 k] w fun e w' => e = .returned (.bool true) ∧ Below w.heap.size w w' :=
  law_new noc ⟨_, Try.func16, rfl⟩ ver runs k h0 h1 w
set_option maxRecDepth 100000 in
theorem lifted (os : Os) (started : os.Started) (H : Type) (enc : TypeId × Value → H) :
    ReturnsInHanded {} Try.checked os 4 .any (Rows.fnNewListTransactionsResponseSpec.pre6 enc Try.prog Try.f4 Rows.fnNewListTransactionsResponseRow.domain false) (Rows.fnNewListTransactionsResponseSpec.post enc Try.prog Try.f4 false true false false) := by
  refine returnsInHanded_of_change (C := Try.checked) own started (by kernel_rfl) Try.func4
    (ChangeSpec.witness6 (enc := enc) (C := Try.checked) false ⟨#[], #[.int .u8 0], []⟩ 8 (by kernel_rfl) (by kernel_rfl) (by kernel_rfl) (by kernel_rfl)) ?_
  intro W base args ds gs before hval0 hW hcnd _
  have hval : ∀ (j : Nat) t v, Try.f4.params[j]? = some t → args[j]? = some v → Value.okWide Try.prog W .any base t v := hval0
  have hW' := hW
  obtain ⟨p, q, hA0, hV, rfl, hfz, hnd⟩ := hW
  have hA : DataW.TrodAll enc Try.prog W 0 (fun _ => true) true Try.f4.params.toList args.toList ds p := hA0
  rw [Try.params4] at hA hval
  obtain ⟨v0, vs0, d0, ds0, p0, q0, hargs, rfl, rfl, h0, r0⟩ := trodAll_cons hA
  obtain ⟨rfl, rfl, rfl⟩ := trodAll_nil r0
  obtain rfl : args = #[v0] := by cases args; simp_all
  obtain ⟨rfl, rfl⟩ := trodVars_none hV
  obtain ⟨a0, rfl, rfl, rfl, w0⟩ := open_int Try.underlying5 (hval 0 5 v0 rfl rfl) h0
  clear hA0 hval0
  have hx : 0 ≤ a0 ∧ a0 ≤ 255 := by simpa [Lit.wf, IntKind.min, IntKind.max, IntKind.signed, IntKind.bits] using w0
  refine (walk a0 hx.1 hx.2 W).mono fun e W' ⟨he, bel⟩ => ?_
  subst he
  exact ⟨_, rfl, _, _, _, [], _, [], hW', trodAll_mk1 (shut_bool Try.underlying4 _), (trodAll_cons_mk (shut_int Try.underlying5 w0) trodAll_mk0), rfl, bel.frame _, fun h => by cases h⟩
theorem over : Rows.fnNewListTransactionsResponseRow.holds Try.pinned (OpenSpec.ofChange Rows.fnNewListTransactionsResponseSpec) :=
  OpenClaim.holds_of_wide 4 Try.f4 rfl rfl rfl rfl rfl rfl rfl ⟨rfl, rfl, rfl, rfl, rfl⟩ rfl rfl rfl rfl rfl (by kernel_rfl) Try.func4 (by kernel_rfl)
    (of_decide_eq_true (by kernel_rfl)) (by unfold Func.isWrapper; first | (rw [if_pos (by decide +kernel)]; kernel_rfl) | (rw [if_neg (by decide +kernel)]; exact ⟨rfl, rfl⟩))
    (fun os started H enc _ => lifted os started H enc)
end Go.Proofs.Ythioggjaccpfgaa.fnNewListTransactionsResponse
namespace Go.Proofs.Ythioggjaccpfgaa
theorem fnNewListTransactionsResponse_holds : Rows.FnNewListTransactionsResponseSaid := fnNewListTransactionsResponse.over
#print axioms fnNewListTransactionsResponse_holds
end Go.Proofs.Ythioggjaccpfgaa
