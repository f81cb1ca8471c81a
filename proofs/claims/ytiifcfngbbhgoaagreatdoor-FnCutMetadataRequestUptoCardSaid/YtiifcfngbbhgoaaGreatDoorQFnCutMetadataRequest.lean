/-
  FnCutMetadataRequest: THE STATEMENT's SECOND FORM AND ITS CARD: where what comes in is of bulk at most 1048576.
-/
import Derived.Test.YtiifcfngbbhgoaaGreatDoorQLwMetadataRequestCut
import Derived.Test.YtiifcfngbbhgoaaGreatDoorQLwWorld
import Derived.Test.YtiifcfngbbhgoaaGreatDoorQRdEachC
import Derived.Test.YtiifcfngbbhgoaaGreatDoorCards
import Derived.Test.YtiifcfngbbhgoaaGreatDoorTie
import Derived.LaidLaws
import Derived.OpenShut
set_option linter.constructorNameAsVariable false
set_option linter.unusedVariables false
set_option linter.unusedSimpArgs false
namespace Go.Proofs.YtiifcfngbbhgoaaGreatDoor.fnCutMetadataRequest
open Go Go.ChangeShapes Go.WideShapes Go.ChangeAt Go.RowKit Go.Proofs.YtiifcfngbbhgoaaGreatDoor.Ax Go.Proofs.YtiifcfngbbhgoaaGreatDoor.Rd Go.Proofs.YtiifcfngbbhgoaaGreatDoor.Wire
set_option maxRecDepth 100000
theorem own : ownKnob Tryz.prog.godebug = none := by kernel_rfl
theorem walk (n8 : Int) (hn8 : 0 ≤ n8 ∧ n8 < 256) (at_ : Int) (hat : 0 ≤ at_ ∧ at_ < 65536) {W : World} {cs : Array Value} {t : Tr} (hsh : W.ShapedOpen Tryz.prog) (hL : laidMet Tryz.prog Rows.fnCutMetadataRequestUptoRow.laid W) (ht : TrAt (heapOf W) (cs.toList.map (absV W.heap.size)) t) (hf : t.Fine) (hb : t.bulk ≤ 1048576) :
    Calls Tryz.prog 3 #[.int .u8 n8, .agg cs, .int .u16 at_] W fun e w' => e = .returned (.bool true) ∧ Below W.heap.size W w' :=
  law_world (fun _ => ns_sound (fun _ => rfl)) (aA := [.i .u8 n8, .g (cs.toList.map (absV W.heap.size)), .i .u16 at_]) (aV := [.int .u8 n8, .agg cs, .int .u16 at_]) (.cons (.i _ _) (.cons (agg_VR _ _ _) (.cons (.i _ _) .nil))) (fun G => mMetadataRequest.cut_x hn8 hat G ht hf hb) hsh hL
abbrev errText : ByteArray := { data := #[114, 101, 115, 112, 111, 110, 115, 101, 32, 100, 105, 100, 32, 110, 111, 116, 32, 99, 111, 110, 116, 97, 105, 110, 32, 101, 110, 111, 117, 103, 104, 32, 100, 97, 116, 97, 32, 116, 111, 32, 98, 101, 32, 118, 97, 108, 105, 100] }
noncomputable def low0 : Nat := (World.holding Tryz.prog default ⟨#[], #[], []⟩).heap.size
noncomputable def laidWorld (os : Os) : World :=
  let w0 := World.holding Tryz.prog os ⟨#[.cells #[.string errText] 171], #[], []⟩
  { w0 with heap := w0.heap.modify 0 fun
      | .cells _ t frozen => .cells #[.iface 153 (.pointer (some ⟨low0, 0, none⟩))] t frozen
      | o => o }
noncomputable abbrev argsW : Array Value := #[.int .u8 0, .agg #[.int .i64 0, .slice none 0 0, .bool false, .slice none 0 0, .slice none 0 0], .int .u16 0]
theorem laid_met (os : Os) : laidMet Tryz.prog Rows.fnCutMetadataRequestUptoRow.laid ((laidWorld os).forCall (fun _ _ => 0) ⟨#[], argsW, []⟩).memory :=
  laidMet_of_run' 8 (by kernel_rfl) (by kernel_rfl)
theorem reads (os : Os) {H : Type} (enc : TypeId × Value → H) : ∃ places, DataW.whole enc Tryz.prog ((laidWorld os).forCall (fun _ _ => 0) ⟨#[], argsW, []⟩).memory Tryz.f3.params.toList Rows.fnCutMetadataRequestSpec.vars false argsW.toList 8 = some ([.lit (.int .u8 0), .agg [.lit (.int .i64 0), .nil, .lit (.bool false), .nil, .nil], .lit (.int .u16 0)], [], places) :=
  ⟨[], by kernel_rfl⟩
theorem lifted (os : Os) (started : os.Started) (H : Type) (enc : TypeId × Value → H) (F : Stop.Interp) :
    ReturnsInHanded {} Tryz.checked os 3 .any ((Rows.OpenSpec.upto Rows.fnCutMetadataRequestSpec).preRow enc Tryz.prog Tryz.f3 Rows.fnCutMetadataRequestUptoRow.domain false Rows.fnCutMetadataRequestUptoRow.laid) (((Rows.OpenSpec.upto Rows.fnCutMetadataRequestSpec).at F).post enc Tryz.prog Tryz.f3 false true false false) := by
  obtain ⟨places, hx⟩ := reads os enc
  refine returnsInHanded_of_row (C := Tryz.checked) (s := Rows.OpenSpec.upto Rows.fnCutMetadataRequestSpec) own started (by kernel_rfl) Tryz.func3
    (witness_row_at (enc := enc) (C := Tryz.checked) false (laidWorld os) argsW rfl (by kernel_rfl) (by kernel_rfl) (by kernel_rfl)
      (OpenSpec.preRow_of_cond 8 hx (by kernel_rfl) (fun k hk => by cases hk; kernel_rfl) (by kernel_rfl) (laid_met os))) ?_
  intro W base args ds gs before hval0 hW _ hcond _ hL hsh _
  have hk := hcond _ rfl
  have hval : ∀ (j : Nat) t v, Tryz.f3.params[j]? = some t → args[j]? = some v → Value.okWide Tryz.prog W .any base t v := hval0
  have hW' := hW
  obtain ⟨p, q, hA0, hV, rfl, hfz, hnd⟩ := hW
  have hA : DataW.TrodAll enc Tryz.prog W 0 (fun _ => true) true Tryz.f3.params.toList args.toList ds p := hA0
  rw [Tryz.params3] at hA hval
  obtain ⟨v0, v1, v2, d0, d1, d2, p0, p1, p2, rfl, rfl, rfl, h0, h1, h2⟩ := trodAll_three hA
  obtain ⟨rfl, rfl⟩ := trodVars_none hV
  obtain ⟨n8, rfl, rfl, rfl, w0⟩ := open_int Tryz.underlying5 (hval 0 5 v0 rfl rfl) h0
  obtain ⟨at_, rfl, rfl, rfl, w2⟩ := open_int Tryz.underlying27 (hval 2 27 v2 rfl rfl) h2
  clear hA0 hval0
  obtain ⟨cs, t, rfl, ht, hf, hbk⟩ := tree_open h1
  have hn8 : 0 ≤ n8 ∧ n8 < 256 := by have h := range_u8 (zs := [n8]) (fun n hn => by rw [List.mem_singleton.1 hn]; exact w0) 0; simp at h; omega
  have hat : 0 ≤ at_ ∧ at_ < 65536 := by have h := bounds_u16 w2; omega
  have hlt : ∀ x ∈ p1, x.block < W.heap.size := fun x hx => hW'.lt x (by simp [hx])
  refine (walk n8 hn8 at_ hat hsh hL ht hf (Nat.le_trans hbk (bulk_one 1 hk rfl))).mono fun e W' ⟨he, bel⟩ => ?_
  subst he
  refine ⟨_, rfl, _, _, _, [], _, [], hW', trodAll_mk1 (shut_bool Tryz.underlying4 _), trodAll_mk3 (shut_int Tryz.underlying5 w0) (tree_stay h1 bel hlt fun x hx => ?_) (shut_int Tryz.underlying27 w2), rfl, bel.frame _, fun h => by cases h⟩
  simpa using hlt x hx
theorem fk1 : (Rows.fnCutMetadataRequestUptoRow.inPlace == Tryz.prog.inPlace 3) = true := by kernel_rfl
theorem fk2 : (Rows.fnCutMetadataRequestUptoRow.unfollowed == Tryz.prog.unfollowed 3) = true := by kernel_rfl
theorem fk3 : (Rows.fnCutMetadataRequestUptoRow.recurses == Tryz.prog.recurses 3) = true := by kernel_rfl
theorem fk4 : (Rows.fnCutMetadataRequestUptoRow.named == Tryz.prog.varsNamed 3) = true := by kernel_rfl
theorem closed : joinedFacts Tryz.prog 3 Tryz.f3 Rows.fnCutMetadataRequestSpec Rows.fnCutMetadataRequestUptoRow = true := by
  unfold joinedFacts
  rw [fk1, fk2, fk3, fk4, seat_laid, seat_maps, seat_enter, seat_heard, seat_lifts]
  kernel_rfl
theorem instF : Tryz.f3.isInstance Tryz.prog Rows.fnCutMetadataRequestUptoRow.origin Rows.fnCutMetadataRequestUptoRow.targs := of_decide_eq_true (by kernel_rfl)
theorem said : Rows.FnCutMetadataRequestUptoSaid :=
  OpenClaim.holds_of_cond 3 Tryz.f3 rfl rfl rfl rfl rfl rfl rfl ⟨rfl, rfl, rfl, rfl, rfl⟩ rfl rfl rfl rfl rfl (by kernel_rfl) Tryz.func3 closed
    instF (by unfold Func.isWrapper; first | (rw [if_pos (by decide +kernel)]; kernel_rfl) | (rw [if_neg (by decide +kernel)]; exact ⟨rfl, rfl⟩))
    (fun os started H enc _ F => by rw [OpenClaim.pre_eq_preRow]; exact lifted os started H enc F)
theorem plain (f : FuncId) (fn : Func) (hf : Tryz.pinned.checked.prog.funcNamed "pub-kmsg/laws.FnCutMetadataRequest" = some f) (hfn : Tryz.pinned.checked.prog.funcs[f]? = some fn) :
    false = Tryz.pinned.checked.prog.looks [] ∧ ∀ (j : Nat) t, fn.params[j]? = some t → Tryz.pinned.checked.prog.wantsStandIn t = false := by
  obtain rfl : f = 3 := Option.some.inj ((show Tryz.prog.funcNamed "pub-kmsg/laws.FnCutMetadataRequest" = some 3 by kernel_rfl).symm.trans hf) |>.symm
  obtain rfl : fn = Tryz.f3 := (Option.some.inj (Tryz.func3.symm.trans hfn)).symm
  refine ⟨by kernel_rfl, fun j t ht => ?_⟩
  rw [Tryz.params3] at ht
  have hm : t ∈ [5, 26, 27] := by simpa using Array.mem_of_getElem? ht
  have hall : ([5, 26, 27].all fun u => !Tryz.prog.wantsStandIn u) = true := by kernel_rfl
  exact (show Tryz.prog.wantsStandIn t = false by simpa using List.all_eq_true.1 hall t hm)
end Go.Proofs.YtiifcfngbbhgoaaGreatDoor.fnCutMetadataRequest
namespace Go.Proofs.YtiifcfngbbhgoaaGreatDoor
theorem fnCutMetadataRequest_holds : Rows.FnCutMetadataRequestUptoCardSaid :=
  Claim7.holds_tied_plain_at .later [] _ _ _ _ fnCutMetadataRequest.said (fun _ h => by cases h) (by kernel_rfl) (fun _ h => by cases h) fnCutMetadataRequestUpto_row_tie rfl ⟨rfl, rfl⟩ (by kernel_rfl) rfl fnCutMetadataRequest.plain (by kernel_rfl)
#print axioms fnCutMetadataRequest_holds
end Go.Proofs.YtiifcfngbbhgoaaGreatDoor

