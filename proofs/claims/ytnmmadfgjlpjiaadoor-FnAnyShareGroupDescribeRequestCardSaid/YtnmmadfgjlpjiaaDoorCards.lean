/-
  DERIVED. GIVEN WITH THE SEED: THE CARDS: each row of YtnmmadfgjlpjiaaDoorRows.lean that lists a variable, with what it lists TIED to the program's text (the seventh form; the later family's looks); each row that meets fmt, with fmt's text TOLD by the authors' own Lean function (tested against real Go, not proved from fmt's source: count such statements apart). THE CARD IS WHAT COUNTS. Prove the row's statement (the work); the ties are given (YtnmmadfgjlpjiaaDoorTie.lean); close each card by the builder's one call (the guide's Derived/Test/ToyasCard.lean, 'card_holds'). Laid BY PROGRAM, IN A SANDBOX (cutbox-door.mjs). By AI agents, Wed Nov 11 2026. No macro, syntax, notation, axiom, sorry.
-/
import Derived.Test.YtnmmadfgjlpjiaaDoorRows
import GoSem.ClaimSeven
namespace Go.Proofs.YtnmmadfgjlpjiaaDoor
namespace Rows

/-- THE TIED CARD OF 'laws.FnCutGetTelemetrySubscriptionsRequest'. -/
def fnCutGetTelemetrySubscriptionsRequestCard : Claim7 := { stood := { row := fnCutGetTelemetrySubscriptionsRequestRow, standIns := [], harness := (true, "bc1d6039f1410f27dc72383ceebb90012fdabc3fcf7b770f56b1f6d1c8fb971b"), looks := false }, kinds := [], alts := [], laidByText := true, laidKinds := [.sentinel], laidTests := true, laidLooks := .later }
def FnCutGetTelemetrySubscriptionsRequestCardSaid : Prop := Claim7.holds Tryd.pinned (.plain (OpenSpec.ofChange fnCutGetTelemetrySubscriptionsRequestSpec)) fnCutGetTelemetrySubscriptionsRequestCard

/-- THE TIED CARD OF 'laws.FnAnyBatch'. -/
def fnAnyBatchCard : Claim7 := { stood := { row := fnAnyBatchRow, standIns := [], harness := (true, "bc1d6039f1410f27dc72383ceebb90012fdabc3fcf7b770f56b1f6d1c8fb971b"), looks := false }, kinds := [], alts := [], laidByText := true, laidKinds := [.sentinel], laidTests := true, laidLooks := .later }
def FnAnyBatchCardSaid : Prop := Claim7.holds Tryd.pinned (.plain (OpenSpec.ofChange fnAnyBatchSpec)) fnAnyBatchCard

/-- THE TIED CARD OF 'laws.FnCutPushTelemetryResponse'. -/
def fnCutPushTelemetryResponseCard : Claim7 := { stood := { row := fnCutPushTelemetryResponseRow, standIns := [], harness := (true, "bc1d6039f1410f27dc72383ceebb90012fdabc3fcf7b770f56b1f6d1c8fb971b"), looks := false }, kinds := [], alts := [], laidByText := true, laidKinds := [.sentinel], laidTests := true, laidLooks := .later }
def FnCutPushTelemetryResponseCardSaid : Prop := Claim7.holds Tryd.pinned (.plain (OpenSpec.ofChange fnCutPushTelemetryResponseSpec)) fnCutPushTelemetryResponseCard

/-- THE TIED CARD OF 'laws.FnAgainSASLAuthenticateRequest'. -/
def fnAgainSASLAuthenticateRequestCard : Claim7 := { stood := { row := fnAgainSASLAuthenticateRequestRow, standIns := [], harness := (true, "bc1d6039f1410f27dc72383ceebb90012fdabc3fcf7b770f56b1f6d1c8fb971b"), looks := false }, kinds := [], alts := [], laidByText := true, laidKinds := [.sentinel], laidTests := true, laidLooks := .later }
def FnAgainSASLAuthenticateRequestCardSaid : Prop := Claim7.holds Tryd.pinned (.plain (OpenSpec.ofChange fnAgainSASLAuthenticateRequestSpec)) fnAgainSASLAuthenticateRequestCard

/-- THE TIED CARD OF 'laws.FnAgainAllocateProducerIDsResponse'. -/
def fnAgainAllocateProducerIDsResponseCard : Claim7 := { stood := { row := fnAgainAllocateProducerIDsResponseRow, standIns := [], harness := (true, "bc1d6039f1410f27dc72383ceebb90012fdabc3fcf7b770f56b1f6d1c8fb971b"), looks := false }, kinds := [], alts := [], laidByText := true, laidKinds := [.sentinel], laidTests := true, laidLooks := .later }
def FnAgainAllocateProducerIDsResponseCardSaid : Prop := Claim7.holds Tryd.pinned (.plain (OpenSpec.ofChange fnAgainAllocateProducerIDsResponseSpec)) fnAgainAllocateProducerIDsResponseCard

/-- THE TIED CARD OF 'laws.FnAnyEnvelopeResponse'. -/
def fnAnyEnvelopeResponseCard : Claim7 := { stood := { row := fnAnyEnvelopeResponseRow, standIns := [], harness := (true, "bc1d6039f1410f27dc72383ceebb90012fdabc3fcf7b770f56b1f6d1c8fb971b"), looks := false }, kinds := [], alts := [], laidByText := true, laidKinds := [.sentinel], laidTests := true, laidLooks := .later }
def FnAnyEnvelopeResponseCardSaid : Prop := Claim7.holds Tryd.pinned (.plain (OpenSpec.ofChange fnAnyEnvelopeResponseSpec)) fnAnyEnvelopeResponseCard

/-- THE TIED CARD OF 'laws.FnAnyShareGroupDescribeRequest'. -/
def fnAnyShareGroupDescribeRequestCard : Claim7 := { stood := { row := fnAnyShareGroupDescribeRequestRow, standIns := [], harness := (true, "bc1d6039f1410f27dc72383ceebb90012fdabc3fcf7b770f56b1f6d1c8fb971b"), looks := false }, kinds := [], alts := [], laidByText := true, laidKinds := [.sentinel], laidTests := true, laidLooks := .later }
def FnAnyShareGroupDescribeRequestCardSaid : Prop := Claim7.holds Tryd.pinned (.plain (OpenSpec.ofChange fnAnyShareGroupDescribeRequestSpec)) fnAnyShareGroupDescribeRequestCard

/-- THE SECOND FORM's CARD OF 'laws.FnCutGetTelemetrySubscriptionsRequest'. -/
def fnCutGetTelemetrySubscriptionsRequestUptoCard : Claim7 := { stood := { row := fnCutGetTelemetrySubscriptionsRequestUptoRow, standIns := [], harness := (true, "bc1d6039f1410f27dc72383ceebb90012fdabc3fcf7b770f56b1f6d1c8fb971b"), looks := false }, kinds := [], alts := [], laidByText := true, laidKinds := [.sentinel], laidTests := true, laidLooks := .later }
def FnCutGetTelemetrySubscriptionsRequestUptoCardSaid : Prop := Claim7.holds Tryd.pinned (.plain (OpenSpec.upto fnCutGetTelemetrySubscriptionsRequestSpec)) fnCutGetTelemetrySubscriptionsRequestUptoCard

/-- THE SECOND FORM's CARD OF 'laws.FnAnyBatch'. -/
def fnAnyBatchUptoCard : Claim7 := { stood := { row := fnAnyBatchUptoRow, standIns := [], harness := (true, "bc1d6039f1410f27dc72383ceebb90012fdabc3fcf7b770f56b1f6d1c8fb971b"), looks := false }, kinds := [], alts := [], laidByText := true, laidKinds := [.sentinel], laidTests := true, laidLooks := .later }
def FnAnyBatchUptoCardSaid : Prop := Claim7.holds Tryd.pinned (.plain (OpenSpec.upto fnAnyBatchSpec)) fnAnyBatchUptoCard

/-- THE SECOND FORM's CARD OF 'laws.FnCutPushTelemetryResponse'. -/
def fnCutPushTelemetryResponseUptoCard : Claim7 := { stood := { row := fnCutPushTelemetryResponseUptoRow, standIns := [], harness := (true, "bc1d6039f1410f27dc72383ceebb90012fdabc3fcf7b770f56b1f6d1c8fb971b"), looks := false }, kinds := [], alts := [], laidByText := true, laidKinds := [.sentinel], laidTests := true, laidLooks := .later }
def FnCutPushTelemetryResponseUptoCardSaid : Prop := Claim7.holds Tryd.pinned (.plain (OpenSpec.upto fnCutPushTelemetryResponseSpec)) fnCutPushTelemetryResponseUptoCard

/-- THE SECOND FORM's CARD OF 'laws.FnAgainSASLAuthenticateRequest'. -/
def fnAgainSASLAuthenticateRequestUptoCard : Claim7 := { stood := { row := fnAgainSASLAuthenticateRequestUptoRow, standIns := [], harness := (true, "bc1d6039f1410f27dc72383ceebb90012fdabc3fcf7b770f56b1f6d1c8fb971b"), looks := false }, kinds := [], alts := [], laidByText := true, laidKinds := [.sentinel], laidTests := true, laidLooks := .later }
def FnAgainSASLAuthenticateRequestUptoCardSaid : Prop := Claim7.holds Tryd.pinned (.plain (OpenSpec.upto fnAgainSASLAuthenticateRequestSpec)) fnAgainSASLAuthenticateRequestUptoCard

/-- THE SECOND FORM's CARD OF 'laws.FnAgainAllocateProducerIDsResponse'. -/
def fnAgainAllocateProducerIDsResponseUptoCard : Claim7 := { stood := { row := fnAgainAllocateProducerIDsResponseUptoRow, standIns := [], harness := (true, "bc1d6039f1410f27dc72383ceebb90012fdabc3fcf7b770f56b1f6d1c8fb971b"), looks := false }, kinds := [], alts := [], laidByText := true, laidKinds := [.sentinel], laidTests := true, laidLooks := .later }
def FnAgainAllocateProducerIDsResponseUptoCardSaid : Prop := Claim7.holds Tryd.pinned (.plain (OpenSpec.upto fnAgainAllocateProducerIDsResponseSpec)) fnAgainAllocateProducerIDsResponseUptoCard

/-- THE SECOND FORM's CARD OF 'laws.FnAnyEnvelopeResponse'. -/
def fnAnyEnvelopeResponseUptoCard : Claim7 := { stood := { row := fnAnyEnvelopeResponseUptoRow, standIns := [], harness := (true, "bc1d6039f1410f27dc72383ceebb90012fdabc3fcf7b770f56b1f6d1c8fb971b"), looks := false }, kinds := [], alts := [], laidByText := true, laidKinds := [.sentinel], laidTests := true, laidLooks := .later }
def FnAnyEnvelopeResponseUptoCardSaid : Prop := Claim7.holds Tryd.pinned (.plain (OpenSpec.upto fnAnyEnvelopeResponseSpec)) fnAnyEnvelopeResponseUptoCard

/-- THE SECOND FORM's CARD OF 'laws.FnAnyShareGroupDescribeRequest'. -/
def fnAnyShareGroupDescribeRequestUptoCard : Claim7 := { stood := { row := fnAnyShareGroupDescribeRequestUptoRow, standIns := [], harness := (true, "bc1d6039f1410f27dc72383ceebb90012fdabc3fcf7b770f56b1f6d1c8fb971b"), looks := false }, kinds := [], alts := [], laidByText := true, laidKinds := [.sentinel], laidTests := true, laidLooks := .later }
def FnAnyShareGroupDescribeRequestUptoCardSaid : Prop := Claim7.holds Tryd.pinned (.plain (OpenSpec.upto fnAnyShareGroupDescribeRequestSpec)) fnAnyShareGroupDescribeRequestUptoCard
end Rows
end Go.Proofs.YtnmmadfgjlpjiaaDoor
