/-
  DERIVED. GIVEN WITH THE SEED: THE CARDS: each row of YteaoablcbhlllaaDoorRows.lean that lists a variable, with what it lists TIED to the program's text (the seventh form; the later family's looks); each row that meets fmt, with fmt's text TOLD by the authors' own Lean function (tested against real Go, not proved from fmt's source: count such statements apart). THE CARD IS WHAT COUNTS. Prove the row's statement (the work); the ties are given (YteaoablcbhlllaaDoorTie.lean); close each card by the builder's one call (the guide's Derived/Test/ToyasCard.lean, 'card_holds'). Laid BY PROGRAM, IN A SANDBOX (cutbox-door.mjs). By AI agents, Wed Nov 11 2026. No macro, syntax, notation, axiom, sorry.
-/
import Derived.Test.YteaoablcbhlllaaDoorRows
import GoSem.ClaimSeven
namespace Go.Proofs.YteaoablcbhlllaaDoor
namespace Rows

/-- THE TIED CARD OF 'laws.FnAnyVoteRequest'. -/
def fnAnyVoteRequestCard : Claim7 := { stood := { row := fnAnyVoteRequestRow, standIns := [], harness := (true, "9c3764a3d6e196402cff68cde867f429ec3958db1d116487917d65fe27810ac3"), looks := false }, kinds := [], alts := [], laidByText := true, laidKinds := [.sentinel], laidTests := true, laidLooks := .later }
def FnAnyVoteRequestCardSaid : Prop := Claim7.holds Tryd.pinned (.plain (OpenSpec.ofChange fnAnyVoteRequestSpec)) fnAnyVoteRequestCard

/-- THE TIED CARD OF 'laws.FnAnySyncGroupResponse'. -/
def fnAnySyncGroupResponseCard : Claim7 := { stood := { row := fnAnySyncGroupResponseRow, standIns := [], harness := (true, "9c3764a3d6e196402cff68cde867f429ec3958db1d116487917d65fe27810ac3"), looks := false }, kinds := [], alts := [], laidByText := true, laidKinds := [.sentinel], laidTests := true, laidLooks := .later }
def FnAnySyncGroupResponseCardSaid : Prop := Claim7.holds Tryd.pinned (.plain (OpenSpec.ofChange fnAnySyncGroupResponseSpec)) fnAnySyncGroupResponseCard

/-- THE TIED CARD OF 'laws.FnAnyCreateACLsResponse'. -/
def fnAnyCreateACLsResponseCard : Claim7 := { stood := { row := fnAnyCreateACLsResponseRow, standIns := [], harness := (true, "9c3764a3d6e196402cff68cde867f429ec3958db1d116487917d65fe27810ac3"), looks := false }, kinds := [], alts := [], laidByText := true, laidKinds := [.sentinel], laidTests := true, laidLooks := .later }
def FnAnyCreateACLsResponseCardSaid : Prop := Claim7.holds Tryd.pinned (.plain (OpenSpec.ofChange fnAnyCreateACLsResponseSpec)) fnAnyCreateACLsResponseCard

/-- THE TIED CARD OF 'laws.FnAnyListConfigResourcesResponse'. -/
def fnAnyListConfigResourcesResponseCard : Claim7 := { stood := { row := fnAnyListConfigResourcesResponseRow, standIns := [], harness := (true, "9c3764a3d6e196402cff68cde867f429ec3958db1d116487917d65fe27810ac3"), looks := false }, kinds := [], alts := [], laidByText := true, laidKinds := [.sentinel], laidTests := true, laidLooks := .later }
def FnAnyListConfigResourcesResponseCardSaid : Prop := Claim7.holds Tryd.pinned (.plain (OpenSpec.ofChange fnAnyListConfigResourcesResponseSpec)) fnAnyListConfigResourcesResponseCard

/-- THE TIED CARD OF 'laws.FnAnyDeleteShareGroupOffsetsRequest'. -/
def fnAnyDeleteShareGroupOffsetsRequestCard : Claim7 := { stood := { row := fnAnyDeleteShareGroupOffsetsRequestRow, standIns := [], harness := (true, "9c3764a3d6e196402cff68cde867f429ec3958db1d116487917d65fe27810ac3"), looks := false }, kinds := [], alts := [], laidByText := true, laidKinds := [.sentinel], laidTests := true, laidLooks := .later }
def FnAnyDeleteShareGroupOffsetsRequestCardSaid : Prop := Claim7.holds Tryd.pinned (.plain (OpenSpec.ofChange fnAnyDeleteShareGroupOffsetsRequestSpec)) fnAnyDeleteShareGroupOffsetsRequestCard

/-- THE TIED CARD OF 'laws.FnAnyReadShareGroupStateSummaryResponse'. -/
def fnAnyReadShareGroupStateSummaryResponseCard : Claim7 := { stood := { row := fnAnyReadShareGroupStateSummaryResponseRow, standIns := [], harness := (true, "9c3764a3d6e196402cff68cde867f429ec3958db1d116487917d65fe27810ac3"), looks := false }, kinds := [], alts := [], laidByText := true, laidKinds := [.sentinel], laidTests := true, laidLooks := .later }
def FnAnyReadShareGroupStateSummaryResponseCardSaid : Prop := Claim7.holds Tryd.pinned (.plain (OpenSpec.ofChange fnAnyReadShareGroupStateSummaryResponseSpec)) fnAnyReadShareGroupStateSummaryResponseCard

/-- THE TIED CARD OF 'laws.FnAnyAlterPartitionResponse'. -/
def fnAnyAlterPartitionResponseCard : Claim7 := { stood := { row := fnAnyAlterPartitionResponseRow, standIns := [], harness := (true, "9c3764a3d6e196402cff68cde867f429ec3958db1d116487917d65fe27810ac3"), looks := false }, kinds := [], alts := [], laidByText := true, laidKinds := [.sentinel], laidTests := true, laidLooks := .later }
def FnAnyAlterPartitionResponseCardSaid : Prop := Claim7.holds Tryd.pinned (.plain (OpenSpec.ofChange fnAnyAlterPartitionResponseSpec)) fnAnyAlterPartitionResponseCard

/-- THE TIED CARD OF 'laws.FnAnyIncrementalAlterConfigsRequest'. -/
def fnAnyIncrementalAlterConfigsRequestCard : Claim7 := { stood := { row := fnAnyIncrementalAlterConfigsRequestRow, standIns := [], harness := (true, "9c3764a3d6e196402cff68cde867f429ec3958db1d116487917d65fe27810ac3"), looks := false }, kinds := [], alts := [], laidByText := true, laidKinds := [.sentinel], laidTests := true, laidLooks := .later }
def FnAnyIncrementalAlterConfigsRequestCardSaid : Prop := Claim7.holds Tryd.pinned (.plain (OpenSpec.ofChange fnAnyIncrementalAlterConfigsRequestSpec)) fnAnyIncrementalAlterConfigsRequestCard

/-- THE TIED CARD OF 'laws.FnAnyAddPartitionsToTxnRequest'. -/
def fnAnyAddPartitionsToTxnRequestCard : Claim7 := { stood := { row := fnAnyAddPartitionsToTxnRequestRow, standIns := [], harness := (true, "9c3764a3d6e196402cff68cde867f429ec3958db1d116487917d65fe27810ac3"), looks := false }, kinds := [], alts := [], laidByText := true, laidKinds := [.sentinel], laidTests := true, laidLooks := .later }
def FnAnyAddPartitionsToTxnRequestCardSaid : Prop := Claim7.holds Tryd.pinned (.plain (OpenSpec.ofChange fnAnyAddPartitionsToTxnRequestSpec)) fnAnyAddPartitionsToTxnRequestCard

/-- THE TIED CARD OF 'laws.FnAnyDescribeConfigsResponse'. -/
def fnAnyDescribeConfigsResponseCard : Claim7 := { stood := { row := fnAnyDescribeConfigsResponseRow, standIns := [], harness := (true, "9c3764a3d6e196402cff68cde867f429ec3958db1d116487917d65fe27810ac3"), looks := false }, kinds := [], alts := [], laidByText := true, laidKinds := [.sentinel], laidTests := true, laidLooks := .later }
def FnAnyDescribeConfigsResponseCardSaid : Prop := Claim7.holds Tryd.pinned (.plain (OpenSpec.ofChange fnAnyDescribeConfigsResponseSpec)) fnAnyDescribeConfigsResponseCard

/-- THE TIED CARD OF 'laws.FnAnyDescribeTopicPartitionsRequest'. -/
def fnAnyDescribeTopicPartitionsRequestCard : Claim7 := { stood := { row := fnAnyDescribeTopicPartitionsRequestRow, standIns := [], harness := (true, "9c3764a3d6e196402cff68cde867f429ec3958db1d116487917d65fe27810ac3"), looks := false }, kinds := [], alts := [], laidByText := true, laidKinds := [.sentinel], laidTests := true, laidLooks := .later }
def FnAnyDescribeTopicPartitionsRequestCardSaid : Prop := Claim7.holds Tryd.pinned (.plain (OpenSpec.ofChange fnAnyDescribeTopicPartitionsRequestSpec)) fnAnyDescribeTopicPartitionsRequestCard

/-- THE SECOND FORM's CARD OF 'laws.FnAnyVoteRequest'. -/
def fnAnyVoteRequestUptoCard : Claim7 := { stood := { row := fnAnyVoteRequestUptoRow, standIns := [], harness := (true, "9c3764a3d6e196402cff68cde867f429ec3958db1d116487917d65fe27810ac3"), looks := false }, kinds := [], alts := [], laidByText := true, laidKinds := [.sentinel], laidTests := true, laidLooks := .later }
def FnAnyVoteRequestUptoCardSaid : Prop := Claim7.holds Tryd.pinned (.plain (OpenSpec.upto fnAnyVoteRequestSpec)) fnAnyVoteRequestUptoCard

/-- THE SECOND FORM's CARD OF 'laws.FnAnySyncGroupResponse'. -/
def fnAnySyncGroupResponseUptoCard : Claim7 := { stood := { row := fnAnySyncGroupResponseUptoRow, standIns := [], harness := (true, "9c3764a3d6e196402cff68cde867f429ec3958db1d116487917d65fe27810ac3"), looks := false }, kinds := [], alts := [], laidByText := true, laidKinds := [.sentinel], laidTests := true, laidLooks := .later }
def FnAnySyncGroupResponseUptoCardSaid : Prop := Claim7.holds Tryd.pinned (.plain (OpenSpec.upto fnAnySyncGroupResponseSpec)) fnAnySyncGroupResponseUptoCard

/-- THE SECOND FORM's CARD OF 'laws.FnAnyCreateACLsResponse'. -/
def fnAnyCreateACLsResponseUptoCard : Claim7 := { stood := { row := fnAnyCreateACLsResponseUptoRow, standIns := [], harness := (true, "9c3764a3d6e196402cff68cde867f429ec3958db1d116487917d65fe27810ac3"), looks := false }, kinds := [], alts := [], laidByText := true, laidKinds := [.sentinel], laidTests := true, laidLooks := .later }
def FnAnyCreateACLsResponseUptoCardSaid : Prop := Claim7.holds Tryd.pinned (.plain (OpenSpec.upto fnAnyCreateACLsResponseSpec)) fnAnyCreateACLsResponseUptoCard

/-- THE SECOND FORM's CARD OF 'laws.FnAnyListConfigResourcesResponse'. -/
def fnAnyListConfigResourcesResponseUptoCard : Claim7 := { stood := { row := fnAnyListConfigResourcesResponseUptoRow, standIns := [], harness := (true, "9c3764a3d6e196402cff68cde867f429ec3958db1d116487917d65fe27810ac3"), looks := false }, kinds := [], alts := [], laidByText := true, laidKinds := [.sentinel], laidTests := true, laidLooks := .later }
def FnAnyListConfigResourcesResponseUptoCardSaid : Prop := Claim7.holds Tryd.pinned (.plain (OpenSpec.upto fnAnyListConfigResourcesResponseSpec)) fnAnyListConfigResourcesResponseUptoCard

/-- THE SECOND FORM's CARD OF 'laws.FnAnyDeleteShareGroupOffsetsRequest'. -/
def fnAnyDeleteShareGroupOffsetsRequestUptoCard : Claim7 := { stood := { row := fnAnyDeleteShareGroupOffsetsRequestUptoRow, standIns := [], harness := (true, "9c3764a3d6e196402cff68cde867f429ec3958db1d116487917d65fe27810ac3"), looks := false }, kinds := [], alts := [], laidByText := true, laidKinds := [.sentinel], laidTests := true, laidLooks := .later }
def FnAnyDeleteShareGroupOffsetsRequestUptoCardSaid : Prop := Claim7.holds Tryd.pinned (.plain (OpenSpec.upto fnAnyDeleteShareGroupOffsetsRequestSpec)) fnAnyDeleteShareGroupOffsetsRequestUptoCard

/-- THE SECOND FORM's CARD OF 'laws.FnAnyReadShareGroupStateSummaryResponse'. -/
def fnAnyReadShareGroupStateSummaryResponseUptoCard : Claim7 := { stood := { row := fnAnyReadShareGroupStateSummaryResponseUptoRow, standIns := [], harness := (true, "9c3764a3d6e196402cff68cde867f429ec3958db1d116487917d65fe27810ac3"), looks := false }, kinds := [], alts := [], laidByText := true, laidKinds := [.sentinel], laidTests := true, laidLooks := .later }
def FnAnyReadShareGroupStateSummaryResponseUptoCardSaid : Prop := Claim7.holds Tryd.pinned (.plain (OpenSpec.upto fnAnyReadShareGroupStateSummaryResponseSpec)) fnAnyReadShareGroupStateSummaryResponseUptoCard

/-- THE SECOND FORM's CARD OF 'laws.FnAnyAlterPartitionResponse'. -/
def fnAnyAlterPartitionResponseUptoCard : Claim7 := { stood := { row := fnAnyAlterPartitionResponseUptoRow, standIns := [], harness := (true, "9c3764a3d6e196402cff68cde867f429ec3958db1d116487917d65fe27810ac3"), looks := false }, kinds := [], alts := [], laidByText := true, laidKinds := [.sentinel], laidTests := true, laidLooks := .later }
def FnAnyAlterPartitionResponseUptoCardSaid : Prop := Claim7.holds Tryd.pinned (.plain (OpenSpec.upto fnAnyAlterPartitionResponseSpec)) fnAnyAlterPartitionResponseUptoCard

/-- THE SECOND FORM's CARD OF 'laws.FnAnyIncrementalAlterConfigsRequest'. -/
def fnAnyIncrementalAlterConfigsRequestUptoCard : Claim7 := { stood := { row := fnAnyIncrementalAlterConfigsRequestUptoRow, standIns := [], harness := (true, "9c3764a3d6e196402cff68cde867f429ec3958db1d116487917d65fe27810ac3"), looks := false }, kinds := [], alts := [], laidByText := true, laidKinds := [.sentinel], laidTests := true, laidLooks := .later }
def FnAnyIncrementalAlterConfigsRequestUptoCardSaid : Prop := Claim7.holds Tryd.pinned (.plain (OpenSpec.upto fnAnyIncrementalAlterConfigsRequestSpec)) fnAnyIncrementalAlterConfigsRequestUptoCard

/-- THE SECOND FORM's CARD OF 'laws.FnAnyAddPartitionsToTxnRequest'. -/
def fnAnyAddPartitionsToTxnRequestUptoCard : Claim7 := { stood := { row := fnAnyAddPartitionsToTxnRequestUptoRow, standIns := [], harness := (true, "9c3764a3d6e196402cff68cde867f429ec3958db1d116487917d65fe27810ac3"), looks := false }, kinds := [], alts := [], laidByText := true, laidKinds := [.sentinel], laidTests := true, laidLooks := .later }
def FnAnyAddPartitionsToTxnRequestUptoCardSaid : Prop := Claim7.holds Tryd.pinned (.plain (OpenSpec.upto fnAnyAddPartitionsToTxnRequestSpec)) fnAnyAddPartitionsToTxnRequestUptoCard

/-- THE SECOND FORM's CARD OF 'laws.FnAnyDescribeConfigsResponse'. -/
def fnAnyDescribeConfigsResponseUptoCard : Claim7 := { stood := { row := fnAnyDescribeConfigsResponseUptoRow, standIns := [], harness := (true, "9c3764a3d6e196402cff68cde867f429ec3958db1d116487917d65fe27810ac3"), looks := false }, kinds := [], alts := [], laidByText := true, laidKinds := [.sentinel], laidTests := true, laidLooks := .later }
def FnAnyDescribeConfigsResponseUptoCardSaid : Prop := Claim7.holds Tryd.pinned (.plain (OpenSpec.upto fnAnyDescribeConfigsResponseSpec)) fnAnyDescribeConfigsResponseUptoCard

/-- THE SECOND FORM's CARD OF 'laws.FnAnyDescribeTopicPartitionsRequest'. -/
def fnAnyDescribeTopicPartitionsRequestUptoCard : Claim7 := { stood := { row := fnAnyDescribeTopicPartitionsRequestUptoRow, standIns := [], harness := (true, "9c3764a3d6e196402cff68cde867f429ec3958db1d116487917d65fe27810ac3"), looks := false }, kinds := [], alts := [], laidByText := true, laidKinds := [.sentinel], laidTests := true, laidLooks := .later }
def FnAnyDescribeTopicPartitionsRequestUptoCardSaid : Prop := Claim7.holds Tryd.pinned (.plain (OpenSpec.upto fnAnyDescribeTopicPartitionsRequestSpec)) fnAnyDescribeTopicPartitionsRequestUptoCard
end Rows
end Go.Proofs.YteaoablcbhlllaaDoor
