/-
  DERIVED. GIVEN WITH THE SEED: THE CARDS: each row of YtgnajdficmndgabGreatDoorRRows.lean that lists a variable, with what it lists TIED to the program's text (the seventh form; the later family's looks); each row that meets fmt, with fmt's text TOLD by the authors' own Lean function (tested against real Go, not proved from fmt's source: count such statements apart). THE CARD IS WHAT COUNTS. Prove the row's statement (the work); the ties are given (YtgnajdficmndgabGreatDoorRTie.lean); close each card by the builder's one call (the guide's Derived/Test/ToyasCard.lean, 'card_holds'). Laid BY PROGRAM, IN A SANDBOX (cutbox-door.mjs). By AI agents, Wed Nov 11 2026. No macro, syntax, notation, axiom, sorry.
-/
import Derived.Test.YtgnajdficmndgabGreatDoorRRows
import GoSem.ClaimSeven
namespace Go.Proofs.YtgnajdficmndgabGreatDoorR
namespace Rows

/-- THE TIED CARD OF 'laws.FnAgainWriteTxnMarkersResponse'. -/
def fnAgainWriteTxnMarkersResponseCard : Claim7 := { stood := { row := fnAgainWriteTxnMarkersResponseRow, standIns := [], harness := (true, "6a8ac815b5b791b292a54c2c2e363e618ba4b84af4178b76ee259fab8fa55af6"), looks := false }, kinds := [], alts := [], laidByText := true, laidKinds := [.sentinel], laidTests := true, laidLooks := .later }
def FnAgainWriteTxnMarkersResponseCardSaid : Prop := Claim7.holds Tryz.pinned (.plain (OpenSpec.ofChange fnAgainWriteTxnMarkersResponseSpec)) fnAgainWriteTxnMarkersResponseCard

/-- THE TIED CARD OF 'laws.FnCutMetadataRequest'. -/
def fnCutMetadataRequestCard : Claim7 := { stood := { row := fnCutMetadataRequestRow, standIns := [], harness := (true, "6a8ac815b5b791b292a54c2c2e363e618ba4b84af4178b76ee259fab8fa55af6"), looks := false }, kinds := [], alts := [], laidByText := true, laidKinds := [.sentinel], laidTests := true, laidLooks := .later }
def FnCutMetadataRequestCardSaid : Prop := Claim7.holds Tryz.pinned (.plain (OpenSpec.ofChange fnCutMetadataRequestSpec)) fnCutMetadataRequestCard

/-- THE TIED CARD OF 'laws.FnCutLeaderAndISRResponse'. -/
def fnCutLeaderAndISRResponseCard : Claim7 := { stood := { row := fnCutLeaderAndISRResponseRow, standIns := [], harness := (true, "6a8ac815b5b791b292a54c2c2e363e618ba4b84af4178b76ee259fab8fa55af6"), looks := false }, kinds := [], alts := [], laidByText := true, laidKinds := [.sentinel], laidTests := true, laidLooks := .later }
def FnCutLeaderAndISRResponseCardSaid : Prop := Claim7.holds Tryz.pinned (.plain (OpenSpec.ofChange fnCutLeaderAndISRResponseSpec)) fnCutLeaderAndISRResponseCard

/-- THE TIED CARD OF 'laws.FnAgainAlterUserSCRAMCredentialsRequest'. -/
def fnAgainAlterUserSCRAMCredentialsRequestCard : Claim7 := { stood := { row := fnAgainAlterUserSCRAMCredentialsRequestRow, standIns := [], harness := (true, "6a8ac815b5b791b292a54c2c2e363e618ba4b84af4178b76ee259fab8fa55af6"), looks := false }, kinds := [], alts := [], laidByText := true, laidKinds := [.sentinel], laidTests := true, laidLooks := .later }
def FnAgainAlterUserSCRAMCredentialsRequestCardSaid : Prop := Claim7.holds Tryz.pinned (.plain (OpenSpec.ofChange fnAgainAlterUserSCRAMCredentialsRequestSpec)) fnAgainAlterUserSCRAMCredentialsRequestCard

/-- THE TIED CARD OF 'laws.FnAgainDescribeUserSCRAMCredentialsResponse'. -/
def fnAgainDescribeUserSCRAMCredentialsResponseCard : Claim7 := { stood := { row := fnAgainDescribeUserSCRAMCredentialsResponseRow, standIns := [], harness := (true, "6a8ac815b5b791b292a54c2c2e363e618ba4b84af4178b76ee259fab8fa55af6"), looks := false }, kinds := [], alts := [], laidByText := true, laidKinds := [.sentinel], laidTests := true, laidLooks := .later }
def FnAgainDescribeUserSCRAMCredentialsResponseCardSaid : Prop := Claim7.holds Tryz.pinned (.plain (OpenSpec.ofChange fnAgainDescribeUserSCRAMCredentialsResponseSpec)) fnAgainDescribeUserSCRAMCredentialsResponseCard

/-- THE TIED CARD OF 'laws.FnAgainCreateTopicsRequest'. -/
def fnAgainCreateTopicsRequestCard : Claim7 := { stood := { row := fnAgainCreateTopicsRequestRow, standIns := [], harness := (true, "6a8ac815b5b791b292a54c2c2e363e618ba4b84af4178b76ee259fab8fa55af6"), looks := false }, kinds := [], alts := [], laidByText := true, laidKinds := [.sentinel], laidTests := true, laidLooks := .later }
def FnAgainCreateTopicsRequestCardSaid : Prop := Claim7.holds Tryz.pinned (.plain (OpenSpec.ofChange fnAgainCreateTopicsRequestSpec)) fnAgainCreateTopicsRequestCard

/-- THE TIED CARD OF 'laws.FnCutShareAcknowledgeRequest'. -/
def fnCutShareAcknowledgeRequestCard : Claim7 := { stood := { row := fnCutShareAcknowledgeRequestRow, standIns := [], harness := (true, "6a8ac815b5b791b292a54c2c2e363e618ba4b84af4178b76ee259fab8fa55af6"), looks := false }, kinds := [], alts := [], laidByText := true, laidKinds := [.sentinel], laidTests := true, laidLooks := .later }
def FnCutShareAcknowledgeRequestCardSaid : Prop := Claim7.holds Tryz.pinned (.plain (OpenSpec.ofChange fnCutShareAcknowledgeRequestSpec)) fnCutShareAcknowledgeRequestCard

/-- THE SECOND FORM's CARD OF 'laws.FnAgainWriteTxnMarkersResponse'. -/
def fnAgainWriteTxnMarkersResponseUptoCard : Claim7 := { stood := { row := fnAgainWriteTxnMarkersResponseUptoRow, standIns := [], harness := (true, "6a8ac815b5b791b292a54c2c2e363e618ba4b84af4178b76ee259fab8fa55af6"), looks := false }, kinds := [], alts := [], laidByText := true, laidKinds := [.sentinel], laidTests := true, laidLooks := .later }
def FnAgainWriteTxnMarkersResponseUptoCardSaid : Prop := Claim7.holds Tryz.pinned (.plain (OpenSpec.upto fnAgainWriteTxnMarkersResponseSpec)) fnAgainWriteTxnMarkersResponseUptoCard

/-- THE SECOND FORM's CARD OF 'laws.FnCutMetadataRequest'. -/
def fnCutMetadataRequestUptoCard : Claim7 := { stood := { row := fnCutMetadataRequestUptoRow, standIns := [], harness := (true, "6a8ac815b5b791b292a54c2c2e363e618ba4b84af4178b76ee259fab8fa55af6"), looks := false }, kinds := [], alts := [], laidByText := true, laidKinds := [.sentinel], laidTests := true, laidLooks := .later }
def FnCutMetadataRequestUptoCardSaid : Prop := Claim7.holds Tryz.pinned (.plain (OpenSpec.upto fnCutMetadataRequestSpec)) fnCutMetadataRequestUptoCard

/-- THE SECOND FORM's CARD OF 'laws.FnCutLeaderAndISRResponse'. -/
def fnCutLeaderAndISRResponseUptoCard : Claim7 := { stood := { row := fnCutLeaderAndISRResponseUptoRow, standIns := [], harness := (true, "6a8ac815b5b791b292a54c2c2e363e618ba4b84af4178b76ee259fab8fa55af6"), looks := false }, kinds := [], alts := [], laidByText := true, laidKinds := [.sentinel], laidTests := true, laidLooks := .later }
def FnCutLeaderAndISRResponseUptoCardSaid : Prop := Claim7.holds Tryz.pinned (.plain (OpenSpec.upto fnCutLeaderAndISRResponseSpec)) fnCutLeaderAndISRResponseUptoCard

/-- THE SECOND FORM's CARD OF 'laws.FnAgainAlterUserSCRAMCredentialsRequest'. -/
def fnAgainAlterUserSCRAMCredentialsRequestUptoCard : Claim7 := { stood := { row := fnAgainAlterUserSCRAMCredentialsRequestUptoRow, standIns := [], harness := (true, "6a8ac815b5b791b292a54c2c2e363e618ba4b84af4178b76ee259fab8fa55af6"), looks := false }, kinds := [], alts := [], laidByText := true, laidKinds := [.sentinel], laidTests := true, laidLooks := .later }
def FnAgainAlterUserSCRAMCredentialsRequestUptoCardSaid : Prop := Claim7.holds Tryz.pinned (.plain (OpenSpec.upto fnAgainAlterUserSCRAMCredentialsRequestSpec)) fnAgainAlterUserSCRAMCredentialsRequestUptoCard

/-- THE SECOND FORM's CARD OF 'laws.FnAgainDescribeUserSCRAMCredentialsResponse'. -/
def fnAgainDescribeUserSCRAMCredentialsResponseUptoCard : Claim7 := { stood := { row := fnAgainDescribeUserSCRAMCredentialsResponseUptoRow, standIns := [], harness := (true, "6a8ac815b5b791b292a54c2c2e363e618ba4b84af4178b76ee259fab8fa55af6"), looks := false }, kinds := [], alts := [], laidByText := true, laidKinds := [.sentinel], laidTests := true, laidLooks := .later }
def FnAgainDescribeUserSCRAMCredentialsResponseUptoCardSaid : Prop := Claim7.holds Tryz.pinned (.plain (OpenSpec.upto fnAgainDescribeUserSCRAMCredentialsResponseSpec)) fnAgainDescribeUserSCRAMCredentialsResponseUptoCard

/-- THE SECOND FORM's CARD OF 'laws.FnAgainCreateTopicsRequest'. -/
def fnAgainCreateTopicsRequestUptoCard : Claim7 := { stood := { row := fnAgainCreateTopicsRequestUptoRow, standIns := [], harness := (true, "6a8ac815b5b791b292a54c2c2e363e618ba4b84af4178b76ee259fab8fa55af6"), looks := false }, kinds := [], alts := [], laidByText := true, laidKinds := [.sentinel], laidTests := true, laidLooks := .later }
def FnAgainCreateTopicsRequestUptoCardSaid : Prop := Claim7.holds Tryz.pinned (.plain (OpenSpec.upto fnAgainCreateTopicsRequestSpec)) fnAgainCreateTopicsRequestUptoCard

/-- THE SECOND FORM's CARD OF 'laws.FnCutShareAcknowledgeRequest'. -/
def fnCutShareAcknowledgeRequestUptoCard : Claim7 := { stood := { row := fnCutShareAcknowledgeRequestUptoRow, standIns := [], harness := (true, "6a8ac815b5b791b292a54c2c2e363e618ba4b84af4178b76ee259fab8fa55af6"), looks := false }, kinds := [], alts := [], laidByText := true, laidKinds := [.sentinel], laidTests := true, laidLooks := .later }
def FnCutShareAcknowledgeRequestUptoCardSaid : Prop := Claim7.holds Tryz.pinned (.plain (OpenSpec.upto fnCutShareAcknowledgeRequestSpec)) fnCutShareAcknowledgeRequestUptoCard
end Rows
end Go.Proofs.YtgnajdficmndgabGreatDoorR
