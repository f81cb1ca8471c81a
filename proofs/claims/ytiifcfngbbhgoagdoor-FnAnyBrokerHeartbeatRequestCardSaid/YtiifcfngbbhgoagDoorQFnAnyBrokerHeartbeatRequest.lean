/-
  FnAnyBrokerHeartbeatRequest: THE STATEMENT AND ITS CARD.
-/
import Derived.Test.YtiifcfngbbhgoagDoorQLwSame
import Derived.Test.YtiifcfngbbhgoagDoorQLwWorld
import Derived.Test.YtiifcfngbbhgoagDoorQRdEachC
import Derived.Test.YtiifcfngbbhgoagDoorCards
import Derived.Test.YtiifcfngbbhgoagDoorTie
import Derived.LaidLaws
import Derived.OpenShut
set_option linter.constructorNameAsVariable false
set_option linter.unusedVariables false
set_option linter.unusedSimpArgs false
namespace Go.Proofs.YtiifcfngbbhgoagDoor.fnAnyBrokerHeartbeatRequest
open Go Go.ChangeShapes Go.WideShapes Go.ChangeAt Go.RowKit Go.Proofs.YtiifcfngbbhgoagDoor.Ax Go.Proofs.YtiifcfngbbhgoagDoor.Rd
set_option maxRecDepth 100000
theorem own : ownKnob Tryd.prog.godebug = none := by kernel_rfl
theorem walk (n8 : Int) (hn8 : 0 ≤ n8 ∧ n8 < 256) {W : World} {v1 : Value} {zs : List Int} (hsh : W.ShapedOpen Tryd.prog) (hL : laidMet Tryd.prog Rows.fnAnyBrokerHeartbeatRequestRow.laid W) (hv : Octets W v1 zs) :
    Calls Tryd.prog 3 #[.int .u8 n8, v1] W fun e w' => e = .returned (.bool true) ∧ Below W.heap.size W w' :=
  law_world (fun _ => ns_sound (fun _ => rfl)) (aA := [.i .u8 n8, absV W.heap.size v1]) (aV := [.int .u8 n8, v1]) (.cons (.i _ _) (.cons (absV_VR _ _ _) .nil)) (fun G => mBrokerHeartbeatRequest.law_x hn8 G (octetsW hv)) hsh hL
abbrev errText : ByteArray := { data := #[114, 101, 115, 112, 111, 110, 115, 101, 32, 100, 105, 100, 32, 110, 111, 116, 32, 99, 111, 110, 116, 97, 105, 110, 32, 101, 110, 111, 117, 103, 104, 32, 100, 97, 116, 97, 32, 116, 111, 32, 98, 101, 32, 118, 97, 108, 105, 100] }
noncomputable def low0 : Nat := (World.holding Tryd.prog default ⟨#[], #[], []⟩).heap.size
noncomputable def laidWorld (os : Os) : World :=
  let w0 := World.holding Tryd.prog os ⟨#[.cells #[.string errText] 131], #[], []⟩
  { w0 with heap := w0.heap.modify 1 fun
      | .cells _ t frozen => .cells #[.iface 112 (.pointer (some ⟨low0, 0, none⟩))] t frozen
      | o => o }
noncomputable abbrev argsW : Array Value := #[.int .u8 0, .slice none 0 0]
theorem laid_met (os : Os) : laidMet Tryd.prog Rows.fnAnyBrokerHeartbeatRequestRow.laid ((laidWorld os).forCall (fun _ _ => 0) ⟨#[], argsW, []⟩).memory :=
  laidMet_of_run' 8 (by kernel_rfl) (by kernel_rfl)
theorem reads (os : Os) {H : Type} (enc : TypeId × Value → H) : ∃ places, DataW.whole enc Tryd.prog ((laidWorld os).forCall (fun _ _ => 0) ⟨#[], argsW, []⟩).memory Tryd.f3.params.toList Rows.fnAnyBrokerHeartbeatRequestSpec.vars false argsW.toList 8 = some ([.lit (.int .u8 0), .nil], [], places) :=
  ⟨[], by kernel_rfl⟩
theorem lifted (os : Os) (started : os.Started) (H : Type) (enc : TypeId × Value → H) (F : Stop.Interp) :
    ReturnsInHanded {} Tryd.checked os 3 .any ((OpenSpec.ofChange Rows.fnAnyBrokerHeartbeatRequestSpec).preRow enc Tryd.prog Tryd.f3 Rows.fnAnyBrokerHeartbeatRequestRow.domain false Rows.fnAnyBrokerHeartbeatRequestRow.laid) (((OpenSpec.ofChange Rows.fnAnyBrokerHeartbeatRequestSpec).at F).post enc Tryd.prog Tryd.f3 false true false false) := by
  obtain ⟨places, hx⟩ := reads os enc
  refine returnsInHanded_of_row (C := Tryd.checked) (s := OpenSpec.ofChange Rows.fnAnyBrokerHeartbeatRequestSpec) own started (by kernel_rfl) Tryd.func3
    (witness_row_at (enc := enc) (C := Tryd.checked) false (laidWorld os) argsW rfl (by kernel_rfl) (by kernel_rfl) (by kernel_rfl)
      (OpenSpec.preRow_of_cond 8 hx (by kernel_rfl) (fun k hk => by cases hk) (by kernel_rfl) (laid_met os))) ?_
  intro W base args ds gs before hval0 hW _ _ _ hL hsh _
  have hval : ∀ (j : Nat) t v, Tryd.f3.params[j]? = some t → args[j]? = some v → Value.okWide Tryd.prog W .any base t v := hval0
  have hW' := hW
  obtain ⟨p, q, hA0, hV, rfl, hfz, hnd⟩ := hW
  have hA : DataW.TrodAll enc Tryd.prog W 0 (fun _ => true) true Tryd.f3.params.toList args.toList ds p := hA0
  rw [Tryd.params3] at hA hval
  obtain ⟨v0, v1, d0, d1, p0, p1, rfl, rfl, rfl, h0, h1⟩ := trodAll_two hA
  obtain ⟨rfl, rfl⟩ := trodVars_none hV
  obtain ⟨n8, rfl, rfl, rfl, w0⟩ := open_int Tryd.underlying5 (hval 0 5 v0 rfl rfl) h0
  clear hA0 hval0
  obtain ⟨zs, hv⟩ := octets_open (hval 1 22 v1 rfl rfl) h1
  have hn8 : 0 ≤ n8 ∧ n8 < 256 := by have h := range_u8 (zs := [n8]) (fun n hn => by rw [List.mem_singleton.1 hn]; exact w0) 0; simp at h; omega
  have hlt : ∀ x ∈ p1, x.block < W.heap.size := fun x hx => hW'.lt x (by simpa using hx)
  refine (walk n8 hn8 hsh hL hv).mono fun e W' ⟨he, bel⟩ => ?_
  subst he
  refine ⟨_, rfl, _, _, _, [], _, [], hW', trodAll_mk1 (shut_bool Tryd.underlying4 _), trodAll_mk2 (shut_int Tryd.underlying5 w0) (octets_stay h1 bel hlt fun x hx => ?_), rfl, bel.frame _, fun h => by cases h⟩
  simpa using hlt x hx
theorem fk1 : (Rows.fnAnyBrokerHeartbeatRequestRow.inPlace == Tryd.prog.inPlace 3) = true := by kernel_rfl
theorem fk2 : (Rows.fnAnyBrokerHeartbeatRequestRow.unfollowed == Tryd.prog.unfollowed 3) = true := by kernel_rfl
theorem fk3 : (Rows.fnAnyBrokerHeartbeatRequestRow.recurses == Tryd.prog.recurses 3) = true := by kernel_rfl
theorem fk4 : (Rows.fnAnyBrokerHeartbeatRequestRow.named == Tryd.prog.varsNamed 3) = true := by kernel_rfl
theorem closed : joinedFacts Tryd.prog 3 Tryd.f3 Rows.fnAnyBrokerHeartbeatRequestSpec Rows.fnAnyBrokerHeartbeatRequestRow = true := by
  unfold joinedFacts
  rw [fk1, fk2, fk3, fk4, seat_laid, seat_maps, seat_enter, seat_heard, seat_lifts]
  kernel_rfl
theorem instF : Tryd.f3.isInstance Tryd.prog Rows.fnAnyBrokerHeartbeatRequestRow.origin Rows.fnAnyBrokerHeartbeatRequestRow.targs := of_decide_eq_true (by kernel_rfl)
theorem said : Rows.FnAnyBrokerHeartbeatRequestSaid :=
  OpenClaim.holds_of_cond 3 Tryd.f3 rfl rfl rfl rfl rfl rfl rfl ⟨rfl, rfl, rfl, rfl, rfl⟩ rfl rfl rfl rfl rfl (by kernel_rfl) Tryd.func3 closed
    instF (by unfold Func.isWrapper; first | (rw [if_pos (by decide +kernel)]; kernel_rfl) | (rw [if_neg (by decide +kernel)]; exact ⟨rfl, rfl⟩))
    (fun os started H enc _ F => by rw [OpenClaim.pre_eq_preRow]; exact lifted os started H enc F)
theorem plain (f : FuncId) (fn : Func) (hf : Tryd.pinned.checked.prog.funcNamed "pub-kmsg/laws.FnAnyBrokerHeartbeatRequest" = some f) (hfn : Tryd.pinned.checked.prog.funcs[f]? = some fn) :
    false = Tryd.pinned.checked.prog.looks [] ∧ ∀ (j : Nat) t, fn.params[j]? = some t → Tryd.pinned.checked.prog.wantsStandIn t = false := by
  obtain rfl : f = 3 := Option.some.inj ((show Tryd.prog.funcNamed "pub-kmsg/laws.FnAnyBrokerHeartbeatRequest" = some 3 by kernel_rfl).symm.trans hf) |>.symm
  obtain rfl : fn = Tryd.f3 := (Option.some.inj (Tryd.func3.symm.trans hfn)).symm
  refine ⟨by kernel_rfl, fun j t ht => ?_⟩
  rw [Tryd.params3] at ht
  have hm : t ∈ [5, 22] := by simpa using Array.mem_of_getElem? ht
  have hall : ([5, 22].all fun u => !Tryd.prog.wantsStandIn u) = true := by kernel_rfl
  exact (show Tryd.prog.wantsStandIn t = false by simpa using List.all_eq_true.1 hall t hm)
end Go.Proofs.YtiifcfngbbhgoagDoor.fnAnyBrokerHeartbeatRequest
namespace Go.Proofs.YtiifcfngbbhgoagDoor
theorem fnAnyBrokerHeartbeatRequest_holds : Rows.FnAnyBrokerHeartbeatRequestCardSaid :=
  Claim7.holds_tied_plain_at .later [] _ _ _ _ fnAnyBrokerHeartbeatRequest.said (fun _ h => by cases h) (by kernel_rfl) (fun _ h => by cases h) fnAnyBrokerHeartbeatRequest_row_tie rfl ⟨rfl, rfl⟩ (by kernel_rfl) rfl fnAnyBrokerHeartbeatRequest.plain (by kernel_rfl)
#print axioms fnAnyBrokerHeartbeatRequest_holds
end Go.Proofs.YtiifcfngbbhgoagDoor

