/-
  FnTagsCut: THE STATEMENT, whatever the input.
-/
import Derived.Test.YtdoaobkfbjegpaaQLwWorld
import Derived.Test.YtdoaobkfbjegpaaQRdTgd
import Derived.LaidLaws
import Derived.OpenShut
set_option linter.constructorNameAsVariable false
set_option linter.unusedVariables false
set_option linter.unusedSimpArgs false
namespace Go.Proofs.Ytdoaobkfbjegpaa.fnTagsCut
open Go Go.ChangeShapes Go.WideShapes Go.ChangeAt Go.RowKit Go.Proofs.Ytdoaobkfbjegpaa.Ax Go.Proofs.Ytdoaobkfbjegpaa.Rd Go.Proofs.Ytdoaobkfbjegpaa.Wire
set_option maxRecDepth 100000
theorem own : ownKnob Try.prog.godebug = none := by kernel_rfl
theorem walk (v : Value) (at_ : Int) (hat : 0 ≤ at_ ∧ at_ < 65536) {W : World} {us : List (Nat × B)} (hu : TgAt (heapOf W) (absV W.heap.size v) us) (hk : ∀ u ∈ us, u.1 < 2 ^ 32) :
    Calls Try.prog 3 #[v, .int .u16 at_] W fun e w' => e = .returned (.bool true) ∧ Below W.heap.size W w' :=
  law_world0 (fun _ => ns_sound (fun _ => rfl)) (aA := [absV W.heap.size v, .i .u16 at_]) (aV := [v, .int .u16 at_]) (.cons (absV_VR _ _ _) (.cons (.i _ _) .nil)) (tagsCut_x hat hu hk)
noncomputable abbrev laidWorld (os : Os) : World := World.holding Try.prog os ⟨#[], #[], []⟩
noncomputable abbrev argsW : Array Value := #[.slice none 0 0, .int .u16 0]
theorem laid_met (os : Os) : laidMet Try.prog Rows.fnTagsCutRow.laid ((laidWorld os).forCall (fun _ _ => 0) ⟨#[], argsW, []⟩).memory := laidMet_of_run' 8 (by kernel_rfl) (by kernel_rfl)
theorem reads (os : Os) {H : Type} (enc : TypeId × Value → H) : ∃ places, DataW.whole enc Try.prog ((laidWorld os).forCall (fun _ _ => 0) ⟨#[], argsW, []⟩).memory Try.f3.params.toList Rows.fnTagsCutSpec.vars false argsW.toList 8 = some ([.nil, .lit (.int .u16 0)], [], places) :=
  ⟨[], by kernel_rfl⟩
theorem lifted (os : Os) (started : os.Started) (H : Type) (enc : TypeId × Value → H) (F : Stop.Interp) :
    ReturnsInHanded {} Try.checked os 3 .any ((OpenSpec.ofChange Rows.fnTagsCutSpec).preRow enc Try.prog Try.f3 Rows.fnTagsCutRow.domain false Rows.fnTagsCutRow.laid) (((OpenSpec.ofChange Rows.fnTagsCutSpec).at F).post enc Try.prog Try.f3 false true false false) := by
  obtain ⟨places, hx⟩ := reads os enc
  refine returnsInHanded_of_row (C := Try.checked) (s := OpenSpec.ofChange Rows.fnTagsCutSpec) own started (by kernel_rfl) Try.func3
    (witness_row_at (enc := enc) (C := Try.checked) false (laidWorld os) argsW rfl (by kernel_rfl) (by kernel_rfl) (by kernel_rfl)
      (OpenSpec.preRow_of_cond 8 hx (by kernel_rfl) (fun k hk => by cases hk) (by kernel_rfl) (laid_met os))) ?_
  intro W base args ds gs before hval0 hW _ _ _ _ _ _
  have hval : ∀ (j : Nat) t v, Try.f3.params[j]? = some t → args[j]? = some v → Value.okWide Try.prog W .any base t v := hval0
  have hW' := hW
  obtain ⟨p, q, hA0, hV, rfl, hfz, hnd⟩ := hW
  have hA : DataW.TrodAll enc Try.prog W 0 (fun _ => true) true Try.f3.params.toList args.toList ds p := hA0
  rw [Try.params3] at hA hval
  obtain ⟨v0, v1, d0, d1, p0, p1, rfl, rfl, rfl, h0, h1⟩ := trodAll_two hA
  obtain ⟨rfl, rfl⟩ := trodVars_none hV
  obtain ⟨at_, rfl, rfl, rfl, w1⟩ := open_int Try.underlying23 (hval 1 23 v1 rfl rfl) h1
  obtain ⟨us, hu, hk⟩ := tagsI_open (hval 0 22 v0 rfl rfl) h0
  clear hA0 hval0
  have hat : 0 ≤ at_ ∧ at_ < 65536 := by have h := bounds_u16 w1; omega
  have hlt : ∀ x ∈ p0, x.block < W.heap.size := fun x hx => hW'.lt x (by simp [hx])
  refine (walk v0 at_ hat hu hk).mono fun e W' ⟨he, bel⟩ => ?_
  subst he
  refine ⟨_, rfl, _, _, _, [], _, [], hW', trodAll_mk1 (shut_bool Try.underlying4 _), trodAll_mk2 (tags_stay h0 bel hlt fun x hx => ?_) (shut_int Try.underlying23 w1), rfl, bel.frame _, fun h => by cases h⟩
  simpa using hlt x hx
theorem fk1 : (Rows.fnTagsCutRow.inPlace == Try.prog.inPlace 3) = true := by kernel_rfl
theorem fk2 : (Rows.fnTagsCutRow.unfollowed == Try.prog.unfollowed 3) = true := by kernel_rfl
theorem fk3 : (Rows.fnTagsCutRow.recurses == Try.prog.recurses 3) = true := by kernel_rfl
theorem fk4 : (Rows.fnTagsCutRow.named == Try.prog.varsNamed 3) = true := by kernel_rfl
theorem closed : joinedFacts Try.prog 3 Try.f3 Rows.fnTagsCutSpec Rows.fnTagsCutRow = true := by
  unfold joinedFacts
  rw [fk1, fk2, fk3, fk4, seat_laid, seat_maps, seat_enter, seat_heard, seat_lifts]
  kernel_rfl
theorem instF : Try.f3.isInstance Try.prog Rows.fnTagsCutRow.origin Rows.fnTagsCutRow.targs := of_decide_eq_true (by kernel_rfl)
theorem said : Rows.FnTagsCutSaid :=
  OpenClaim.holds_of_cond 3 Try.f3 rfl rfl rfl rfl rfl rfl rfl ⟨rfl, rfl, rfl, rfl, rfl⟩ rfl rfl rfl rfl rfl (by kernel_rfl) Try.func3 closed
    instF (by unfold Func.isWrapper; first | (rw [if_pos (by decide +kernel)]; kernel_rfl) | (rw [if_neg (by decide +kernel)]; exact ⟨rfl, rfl⟩))
    (fun os started H enc _ F => by rw [OpenClaim.pre_eq_preRow]; exact lifted os started H enc F)
end Go.Proofs.Ytdoaobkfbjegpaa.fnTagsCut
namespace Go.Proofs.Ytdoaobkfbjegpaa
theorem fnTagsCut_holds : Rows.FnTagsCutSaid := fnTagsCut.said
#print axioms fnTagsCut_holds
end Go.Proofs.Ytdoaobkfbjegpaa

