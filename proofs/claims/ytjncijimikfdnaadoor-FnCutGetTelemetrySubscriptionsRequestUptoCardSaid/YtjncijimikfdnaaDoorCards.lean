/-
  DERIVED. GIVEN WITH THE SEED: THE CARDS: each row of YtjncijimikfdnaaDoorRows.lean that lists a variable, with what it lists TIED to the program's text (the seventh form; the later family's looks); each row that meets fmt, with fmt's text TOLD by the authors' own Lean function (tested against real Go, not proved from fmt's source: count such statements apart). THE CARD IS WHAT COUNTS. Prove the row's statement (the work); the ties are given (YtjncijimikfdnaaDoorTie.lean); close each card by the builder's one call (the guide's Derived/Test/ToyasCard.lean, 'card_holds'). Laid BY PROGRAM, IN A SANDBOX (cutbox-door.mjs). By AI agents, Wed Nov 11 2026. No macro, syntax, notation, axiom, sorry.
-/
import Derived.Test.YtjncijimikfdnaaDoorRows
import GoSem.ClaimSeven
namespace Go.Proofs.YtjncijimikfdnaaDoor
namespace Rows

/-- THE TIED CARD OF 'laws.FnAgainUnregisterControllerRequest'. -/
def fnAgainUnregisterControllerRequestCard : Claim7 := { stood := { row := fnAgainUnregisterControllerRequestRow, standIns := [], harness := (true, "3f41e11979b66035658b88069c5279ddf815ebd0464e8585d2607837cedf8782"), looks := false }, kinds := [], alts := [], laidByText := true, laidKinds := [.sentinel], laidTests := true, laidLooks := .later }
def FnAgainUnregisterControllerRequestCardSaid : Prop := Claim7.holds Tryd.pinned (.plain (OpenSpec.ofChange fnAgainUnregisterControllerRequestSpec)) fnAgainUnregisterControllerRequestCard

/-- THE TIED CARD OF 'laws.FnCutGetTelemetrySubscriptionsRequest'. -/
def fnCutGetTelemetrySubscriptionsRequestCard : Claim7 := { stood := { row := fnCutGetTelemetrySubscriptionsRequestRow, standIns := [], harness := (true, "3f41e11979b66035658b88069c5279ddf815ebd0464e8585d2607837cedf8782"), looks := false }, kinds := [], alts := [], laidByText := true, laidKinds := [.sentinel], laidTests := true, laidLooks := .later }
def FnCutGetTelemetrySubscriptionsRequestCardSaid : Prop := Claim7.holds Tryd.pinned (.plain (OpenSpec.ofChange fnCutGetTelemetrySubscriptionsRequestSpec)) fnCutGetTelemetrySubscriptionsRequestCard

/-- THE TIED CARD OF 'laws.FnCutPushTelemetryResponse'. -/
def fnCutPushTelemetryResponseCard : Claim7 := { stood := { row := fnCutPushTelemetryResponseRow, standIns := [], harness := (true, "3f41e11979b66035658b88069c5279ddf815ebd0464e8585d2607837cedf8782"), looks := false }, kinds := [], alts := [], laidByText := true, laidKinds := [.sentinel], laidTests := true, laidLooks := .later }
def FnCutPushTelemetryResponseCardSaid : Prop := Claim7.holds Tryd.pinned (.plain (OpenSpec.ofChange fnCutPushTelemetryResponseSpec)) fnCutPushTelemetryResponseCard

/-- THE TIED CARD OF 'laws.FnAgainSASLAuthenticateRequest'. -/
def fnAgainSASLAuthenticateRequestCard : Claim7 := { stood := { row := fnAgainSASLAuthenticateRequestRow, standIns := [], harness := (true, "3f41e11979b66035658b88069c5279ddf815ebd0464e8585d2607837cedf8782"), looks := false }, kinds := [], alts := [], laidByText := true, laidKinds := [.sentinel], laidTests := true, laidLooks := .later }
def FnAgainSASLAuthenticateRequestCardSaid : Prop := Claim7.holds Tryd.pinned (.plain (OpenSpec.ofChange fnAgainSASLAuthenticateRequestSpec)) fnAgainSASLAuthenticateRequestCard

/-- THE TIED CARD OF 'laws.FnAgainAllocateProducerIDsResponse'. -/
def fnAgainAllocateProducerIDsResponseCard : Claim7 := { stood := { row := fnAgainAllocateProducerIDsResponseRow, standIns := [], harness := (true, "3f41e11979b66035658b88069c5279ddf815ebd0464e8585d2607837cedf8782"), looks := false }, kinds := [], alts := [], laidByText := true, laidKinds := [.sentinel], laidTests := true, laidLooks := .later }
def FnAgainAllocateProducerIDsResponseCardSaid : Prop := Claim7.holds Tryd.pinned (.plain (OpenSpec.ofChange fnAgainAllocateProducerIDsResponseSpec)) fnAgainAllocateProducerIDsResponseCard

/-- THE SECOND FORM's CARD OF 'laws.FnAgainUnregisterControllerRequest'. -/
def fnAgainUnregisterControllerRequestUptoCard : Claim7 := { stood := { row := fnAgainUnregisterControllerRequestUptoRow, standIns := [], harness := (true, "3f41e11979b66035658b88069c5279ddf815ebd0464e8585d2607837cedf8782"), looks := false }, kinds := [], alts := [], laidByText := true, laidKinds := [.sentinel], laidTests := true, laidLooks := .later }
def FnAgainUnregisterControllerRequestUptoCardSaid : Prop := Claim7.holds Tryd.pinned (.plain (OpenSpec.upto fnAgainUnregisterControllerRequestSpec)) fnAgainUnregisterControllerRequestUptoCard

/-- THE SECOND FORM's CARD OF 'laws.FnCutGetTelemetrySubscriptionsRequest'. -/
def fnCutGetTelemetrySubscriptionsRequestUptoCard : Claim7 := { stood := { row := fnCutGetTelemetrySubscriptionsRequestUptoRow, standIns := [], harness := (true, "3f41e11979b66035658b88069c5279ddf815ebd0464e8585d2607837cedf8782"), looks := false }, kinds := [], alts := [], laidByText := true, laidKinds := [.sentinel], laidTests := true, laidLooks := .later }
def FnCutGetTelemetrySubscriptionsRequestUptoCardSaid : Prop := Claim7.holds Tryd.pinned (.plain (OpenSpec.upto fnCutGetTelemetrySubscriptionsRequestSpec)) fnCutGetTelemetrySubscriptionsRequestUptoCard

/-- THE SECOND FORM's CARD OF 'laws.FnCutPushTelemetryResponse'. -/
def fnCutPushTelemetryResponseUptoCard : Claim7 := { stood := { row := fnCutPushTelemetryResponseUptoRow, standIns := [], harness := (true, "3f41e11979b66035658b88069c5279ddf815ebd0464e8585d2607837cedf8782"), looks := false }, kinds := [], alts := [], laidByText := true, laidKinds := [.sentinel], laidTests := true, laidLooks := .later }
def FnCutPushTelemetryResponseUptoCardSaid : Prop := Claim7.holds Tryd.pinned (.plain (OpenSpec.upto fnCutPushTelemetryResponseSpec)) fnCutPushTelemetryResponseUptoCard

/-- THE SECOND FORM's CARD OF 'laws.FnAgainSASLAuthenticateRequest'. -/
def fnAgainSASLAuthenticateRequestUptoCard : Claim7 := { stood := { row := fnAgainSASLAuthenticateRequestUptoRow, standIns := [], harness := (true, "3f41e11979b66035658b88069c5279ddf815ebd0464e8585d2607837cedf8782"), looks := false }, kinds := [], alts := [], laidByText := true, laidKinds := [.sentinel], laidTests := true, laidLooks := .later }
def FnAgainSASLAuthenticateRequestUptoCardSaid : Prop := Claim7.holds Tryd.pinned (.plain (OpenSpec.upto fnAgainSASLAuthenticateRequestSpec)) fnAgainSASLAuthenticateRequestUptoCard

/-- THE SECOND FORM's CARD OF 'laws.FnAgainAllocateProducerIDsResponse'. -/
def fnAgainAllocateProducerIDsResponseUptoCard : Claim7 := { stood := { row := fnAgainAllocateProducerIDsResponseUptoRow, standIns := [], harness := (true, "3f41e11979b66035658b88069c5279ddf815ebd0464e8585d2607837cedf8782"), looks := false }, kinds := [], alts := [], laidByText := true, laidKinds := [.sentinel], laidTests := true, laidLooks := .later }
def FnAgainAllocateProducerIDsResponseUptoCardSaid : Prop := Claim7.holds Tryd.pinned (.plain (OpenSpec.upto fnAgainAllocateProducerIDsResponseSpec)) fnAgainAllocateProducerIDsResponseUptoCard
end Rows
end Go.Proofs.YtjncijimikfdnaaDoor
