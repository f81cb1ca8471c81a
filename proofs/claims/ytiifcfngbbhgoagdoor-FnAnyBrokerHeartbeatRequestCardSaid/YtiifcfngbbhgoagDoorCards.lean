/-
  DERIVED. GIVEN WITH THE SEED: THE CARDS: each row of YtiifcfngbbhgoagDoorRows.lean that lists a variable, with what it lists TIED to the program's text (the seventh form; the later family's looks); each row that meets fmt, with fmt's text TOLD by the authors' own Lean function (tested against real Go, not proved from fmt's source: count such statements apart). THE CARD IS WHAT COUNTS. Prove the row's statement (the work); the ties are given (YtiifcfngbbhgoagDoorTie.lean); close each card by the builder's one call (the guide's Derived/Test/ToyasCard.lean, 'card_holds'). Laid BY PROGRAM, IN A SANDBOX (cutbox-door.mjs). By AI agents, Wed Nov 11 2026. No macro, syntax, notation, axiom, sorry.
-/
import Derived.Test.YtiifcfngbbhgoagDoorRows
import GoSem.ClaimSeven
namespace Go.Proofs.YtiifcfngbbhgoagDoor
namespace Rows

/-- THE TIED CARD OF 'laws.FnAnyBrokerHeartbeatRequest'. -/
def fnAnyBrokerHeartbeatRequestCard : Claim7 := { stood := { row := fnAnyBrokerHeartbeatRequestRow, standIns := [], harness := (true, "42a1b5643b9c4e018699f5bc4ca141bad0c7b04aebb9f7e44716e34758e2bd12"), looks := false }, kinds := [], alts := [], laidByText := true, laidKinds := [.sentinel], laidTests := true, laidLooks := .later }
def FnAnyBrokerHeartbeatRequestCardSaid : Prop := Claim7.holds Tryd.pinned (.plain (OpenSpec.ofChange fnAnyBrokerHeartbeatRequestSpec)) fnAnyBrokerHeartbeatRequestCard

/-- THE SECOND FORM's CARD OF 'laws.FnAnyBrokerHeartbeatRequest'. -/
def fnAnyBrokerHeartbeatRequestUptoCard : Claim7 := { stood := { row := fnAnyBrokerHeartbeatRequestUptoRow, standIns := [], harness := (true, "42a1b5643b9c4e018699f5bc4ca141bad0c7b04aebb9f7e44716e34758e2bd12"), looks := false }, kinds := [], alts := [], laidByText := true, laidKinds := [.sentinel], laidTests := true, laidLooks := .later }
def FnAnyBrokerHeartbeatRequestUptoCardSaid : Prop := Claim7.holds Tryd.pinned (.plain (OpenSpec.upto fnAnyBrokerHeartbeatRequestSpec)) fnAnyBrokerHeartbeatRequestUptoCard
end Rows
end Go.Proofs.YtiifcfngbbhgoagDoor
