/-
  FnParseACLResourcePatternType: THE STATEMENT AND ITS CARD.
-/
import Derived.Test.YtdanlkiojkimaaaDoorQTxParse
import Derived.Test.YtdanlkiojkimaaaDoorCards
import Derived.Test.YtdanlkiojkimaaaDoorTie
import Derived.LaidLaws
import Derived.OpenShut
import Derived.ChangeMaps5
set_option linter.constructorNameAsVariable false
set_option linter.unusedVariables false
set_option linter.unusedSimpArgs false
namespace Go.Proofs.YtdanlkiojkimaaaDoor.fnParseACLResourcePatternType
open Go Go.ChangeShapes Go.WideShapes Go.ChangeAt Go.RowKit Go.Proofs.YtdanlkiojkimaaaDoor.Ax Go.Proofs.YtdanlkiojkimaaaDoor.Rd
set_option maxRecDepth 100000
theorem own : ownKnob Tryd.prog.godebug = none := by kernel_rfl
theorem tab_is : (Rows.laid_strings_asciiSpace : DataW Unit) = Lib.tabData .u8 Lib.asciiSpaceTab := by kernel_rfl
theorem laid_mem : ("strings.asciiSpace", (Lib.tabData .u8 Lib.asciiSpaceTab : DataW Unit)) ∈ Rows.fnParseACLResourcePatternTypeRow.laid := by
  rw [← tab_is]
  exact .tail _ (.tail _ (.head _))
theorem walk {W : World} {s : ByteArray} (hL : laidMet Tryd.prog Rows.fnParseACLResourcePatternTypeRow.laid W) (hs : s.size ≤ maxLen) :
    Calls Tryd.prog 6 #[.string s] W fun e w' => e = .returned (.bool true) ∧ Below W.heap.size W w' :=
  law_words (aA := [.s s]) (aV := [.string s]) (fun _ => .cons (.s _) .nil) (fun ty => acl_x s hs ty) (tab_of hL laid_mem)
noncomputable abbrev laidWorld (os : Os) : World := World.laidAll Tryd.prog os Rows.fnParseACLResourcePatternTypeRow.laid
noncomputable abbrev argsW : Array Value := #[.string ⟨#[]⟩]
theorem fits (os : Os) : (World.holding Tryd.prog os ⟨#[], #[], []⟩).layFits Tryd.prog Rows.fnParseACLResourcePatternTypeRow.laid [] = true := by kernel_rfl
theorem ifaces (os : Os) : (World.holding Tryd.prog os ⟨#[], #[], []⟩).layIfaces Tryd.prog Rows.fnParseACLResourcePatternTypeRow.laid (World.laidAll Tryd.prog os Rows.fnParseACLResourcePatternTypeRow.laid) = true := by kernel_rfl
theorem laid_met (os : Os) : laidMet Tryd.prog Rows.fnParseACLResourcePatternTypeRow.laid ((laidWorld os).forCall (fun _ _ => 0) ⟨#[], argsW, []⟩).memory :=
  laidMet_laidAll _ (fits os) (ifaces os)
theorem reads (os : Os) {H : Type} (enc : TypeId × Value → H) : ∃ places, DataW.whole enc Tryd.prog ((laidWorld os).forCall (fun _ _ => 0) ⟨#[], argsW, []⟩).memory Tryd.f6.params.toList Rows.fnParseACLResourcePatternTypeSpec.vars false argsW.toList 8 = some ([.lit (.string [])], [], places) :=
  ⟨[], by kernel_rfl⟩
theorem zip_ok (os : Os) : ((laidWorld os).forCall (fun _ _ => 0) ⟨#[], argsW, []⟩).variablesZipB Tryd.prog = true := by kernel_rfl
theorem drop_ok (os : Os) : (((laidWorld os).forCall (fun _ _ => 0) ⟨#[], argsW, []⟩).heap.toList.drop Tryd.prog.globals.size).take ((begin Tryd.prog (fun _ _ => 0) default).world.heap.size - Tryd.prog.globals.size) =
      (begin Tryd.prog (fun _ _ => 0) default).world.heap.toList.drop Tryd.prog.globals.size := by kernel_rfl
theorem wide_ok (os : Os) : Input.okWideB Tryd.prog ((laidWorld os).forCall (fun _ _ => 0) ⟨#[], argsW, []⟩) 6 ⟨#[], argsW, []⟩ = true := by kernel_rfl
theorem lifted (os : Os) (started : os.Started) (H : Type) (enc : TypeId × Value → H) (F : Stop.Interp) :
    ReturnsInHanded {} Tryd.checked os 6 .any ((OpenSpec.ofChange Rows.fnParseACLResourcePatternTypeSpec).preRow enc Tryd.prog Tryd.f6 Rows.fnParseACLResourcePatternTypeRow.domain false Rows.fnParseACLResourcePatternTypeRow.laid) (((OpenSpec.ofChange Rows.fnParseACLResourcePatternTypeSpec).at F).post enc Tryd.prog Tryd.f6 false true false false) := by
  obtain ⟨places, hx⟩ := reads os enc
  refine returnsInHanded_of_row (C := Tryd.checked) (s := OpenSpec.ofChange Rows.fnParseACLResourcePatternTypeSpec) own started (by kernel_rfl) Tryd.func6
    (witness_laid (enc := enc) (C := Tryd.checked) (laidWorld os) argsW (World.laidAll_os _ _ _) (zip_ok os) (drop_ok os) (wide_ok os)
      (OpenSpec.preRow_of_cond 8 hx (by kernel_rfl) (fun k hk => by cases hk) (by kernel_rfl) (laid_met os))) ?_
  intro W base args ds gs before hval0 hW _ _ _ hL hsh _
  have hval : ∀ (j : Nat) t v, Tryd.f6.params[j]? = some t → args[j]? = some v → Value.okWide Tryd.prog W .any base t v := hval0
  have hW' := hW
  obtain ⟨p, q, hA0, hV, rfl, hfz, hnd⟩ := hW
  have hA : DataW.TrodAll enc Tryd.prog W 0 (fun _ => true) true Tryd.f6.params.toList args.toList ds p := hA0
  rw [Tryd.params6] at hA hval
  obtain ⟨v1, d1, rfl, rfl, h1⟩ := trodAll_one hA
  obtain ⟨rfl, rfl⟩ := trodVars_none hV
  clear hA0 hval0
  obtain ⟨s, rfl, rfl, rfl, wx⟩ := Go.ChangeMaps.open_string Tryd.underlying9 (hval 0 9 v1 rfl rfl) h1
  refine (walk hL wx).mono fun e W' ⟨he, bel⟩ => ?_
  subst he
  exact ⟨_, rfl, _, _, _, [], _, [], hW', trodAll_mk1 (shut_bool Tryd.underlying4 _), trodAll_mk1 (Go.ChangeMaps.shut_string Tryd.underlying9 wx), rfl, bel.frame _, fun h => by cases h⟩
theorem fk1 : (Rows.fnParseACLResourcePatternTypeRow.inPlace == Tryd.prog.inPlace 6) = true := by kernel_rfl
theorem fk2 : (Rows.fnParseACLResourcePatternTypeRow.unfollowed == Tryd.prog.unfollowed 6) = true := by kernel_rfl
theorem fk3 : (Rows.fnParseACLResourcePatternTypeRow.recurses == Tryd.prog.recurses 6) = true := by kernel_rfl
theorem fk4 : (Rows.fnParseACLResourcePatternTypeRow.named == Tryd.prog.varsNamed 6) = true := by kernel_rfl
theorem closed : joinedFacts Tryd.prog 6 Tryd.f6 Rows.fnParseACLResourcePatternTypeSpec Rows.fnParseACLResourcePatternTypeRow = true := by
  unfold joinedFacts
  rw [fk1, fk2, fk3, fk4, seat_laid, seat_maps, seat_enter, seat_heard, seat_lifts]
  kernel_rfl
theorem instF : Tryd.f6.isInstance Tryd.prog Rows.fnParseACLResourcePatternTypeRow.origin Rows.fnParseACLResourcePatternTypeRow.targs := of_decide_eq_true (by kernel_rfl)
theorem said : Rows.FnParseACLResourcePatternTypeSaid :=
  OpenClaim.holds_of_cond 6 Tryd.f6 rfl rfl rfl rfl rfl rfl rfl ⟨rfl, rfl, rfl, rfl, rfl⟩ rfl rfl rfl rfl rfl (by kernel_rfl) Tryd.func6 closed
    instF (by unfold Func.isWrapper; first | (rw [if_pos (by decide +kernel)]; kernel_rfl) | (rw [if_neg (by decide +kernel)]; exact ⟨rfl, rfl⟩))
    (fun os started H enc _ F => by rw [OpenClaim.pre_eq_preRow]; exact lifted os started H enc F)
theorem plain (f : FuncId) (fn : Func) (hf : Tryd.pinned.checked.prog.funcNamed "pub-kmsg/laws.FnParseACLResourcePatternType" = some f) (hfn : Tryd.pinned.checked.prog.funcs[f]? = some fn) :
    false = Tryd.pinned.checked.prog.looks [] ∧ ∀ (j : Nat) t, fn.params[j]? = some t → Tryd.pinned.checked.prog.wantsStandIn t = false := by
  obtain rfl : f = 6 := Option.some.inj ((show Tryd.prog.funcNamed "pub-kmsg/laws.FnParseACLResourcePatternType" = some 6 by kernel_rfl).symm.trans hf) |>.symm
  obtain rfl : fn = Tryd.f6 := (Option.some.inj (Tryd.func6.symm.trans hfn)).symm
  refine ⟨by kernel_rfl, fun j t ht => ?_⟩
  rw [Tryd.params6] at ht
  have hm : t ∈ [9] := by simpa using Array.mem_of_getElem? ht
  have hall : ([9].all fun u => !Tryd.prog.wantsStandIn u) = true := by kernel_rfl
  exact (show Tryd.prog.wantsStandIn t = false by simpa using List.all_eq_true.1 hall t hm)
end Go.Proofs.YtdanlkiojkimaaaDoor.fnParseACLResourcePatternType
namespace Go.Proofs.YtdanlkiojkimaaaDoor
theorem fnParseACLResourcePatternType_holds : Rows.FnParseACLResourcePatternTypeCardSaid :=
  Claim7.holds_tied_plain_at .later [] _ _ _ _ fnParseACLResourcePatternType.said (fun _ h => by cases h) (by kernel_rfl) (fun _ h => by cases h) fnParseACLResourcePatternType_row_tie rfl ⟨rfl, rfl⟩ (by kernel_rfl) rfl fnParseACLResourcePatternType.plain (by kernel_rfl)
#print axioms fnParseACLResourcePatternType_holds
end Go.Proofs.YtdanlkiojkimaaaDoor

