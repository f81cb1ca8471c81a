/-
  DERIVED. GIVEN WITH THE SEED: THE CARDS: each row of YtiifcfngbbhgoaaGreatDoorRows.lean that lists a variable, with what it lists TIED to the program's text (the seventh form; the later family's looks); each row that meets fmt, with fmt's text TOLD by the authors' own Lean function (tested against real Go, not proved from fmt's source: count such statements apart). THE CARD IS WHAT COUNTS. Prove the row's statement (the work); the ties are given (YtiifcfngbbhgoaaGreatDoorTie.lean); close each card by the builder's one call (the guide's Derived/Test/ToyasCard.lean, 'card_holds'). Laid BY PROGRAM, IN A SANDBOX (cutbox-door.mjs). By AI agents, Wed Nov 11 2026. No macro, syntax, notation, axiom, sorry.
-/
import Derived.Test.YtiifcfngbbhgoaaGreatDoorRows
import GoSem.ClaimSeven
namespace Go.Proofs.YtiifcfngbbhgoaaGreatDoor
namespace Rows

/-- THE TIED CARD OF 'laws.FnCutMetadataRequest'. -/
def fnCutMetadataRequestCard : Claim7 := { stood := { row := fnCutMetadataRequestRow, standIns := [], harness := (true, "c226fe9fd4512e8a611299bd9c7b29032528678c386b748af5989a9bc4bae2cb"), looks := false }, kinds := [], alts := [], laidByText := true, laidKinds := [.sentinel], laidTests := true, laidLooks := .later }
def FnCutMetadataRequestCardSaid : Prop := Claim7.holds Tryz.pinned (.plain (OpenSpec.ofChange fnCutMetadataRequestSpec)) fnCutMetadataRequestCard

/-- THE SECOND FORM's CARD OF 'laws.FnCutMetadataRequest'. -/
def fnCutMetadataRequestUptoCard : Claim7 := { stood := { row := fnCutMetadataRequestUptoRow, standIns := [], harness := (true, "c226fe9fd4512e8a611299bd9c7b29032528678c386b748af5989a9bc4bae2cb"), looks := false }, kinds := [], alts := [], laidByText := true, laidKinds := [.sentinel], laidTests := true, laidLooks := .later }
def FnCutMetadataRequestUptoCardSaid : Prop := Claim7.holds Tryz.pinned (.plain (OpenSpec.upto fnCutMetadataRequestSpec)) fnCutMetadataRequestUptoCard
end Rows
end Go.Proofs.YtiifcfngbbhgoaaGreatDoor
