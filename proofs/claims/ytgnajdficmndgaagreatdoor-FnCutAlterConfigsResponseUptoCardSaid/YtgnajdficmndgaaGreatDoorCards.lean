/-
  DERIVED. GIVEN WITH THE SEED: THE CARDS: each row of YtgnajdficmndgaaGreatDoorRows.lean that lists a variable, with what it lists TIED to the program's text (the seventh form; the later family's looks); each row that meets fmt, with fmt's text TOLD by the authors' own Lean function (tested against real Go, not proved from fmt's source: count such statements apart). THE CARD IS WHAT COUNTS. Prove the row's statement (the work); the ties are given (YtgnajdficmndgaaGreatDoorTie.lean); close each card by the builder's one call (the guide's Derived/Test/ToyasCard.lean, 'card_holds'). Laid BY PROGRAM, IN A SANDBOX (cutbox-door.mjs). By AI agents, Wed Nov 11 2026. No macro, syntax, notation, axiom, sorry.
-/
import Derived.Test.YtgnajdficmndgaaGreatDoorRows
import GoSem.ClaimSeven
namespace Go.Proofs.YtgnajdficmndgaaGreatDoor
namespace Rows

/-- THE TIED CARD OF 'laws.FnCutDeleteGroupsRequest'. -/
def fnCutDeleteGroupsRequestCard : Claim7 := { stood := { row := fnCutDeleteGroupsRequestRow, standIns := [], harness := (true, "323daa67eaa82f0ca312dc0fb12be71a29afabf6dd42cc1daa970fa38a03537f"), looks := false }, kinds := [], alts := [], laidByText := true, laidKinds := [.sentinel], laidTests := true, laidLooks := .later }
def FnCutDeleteGroupsRequestCardSaid : Prop := Claim7.holds Tryz.pinned (.plain (OpenSpec.ofChange fnCutDeleteGroupsRequestSpec)) fnCutDeleteGroupsRequestCard

/-- THE TIED CARD OF 'laws.FnCutControlledShutdownResponse'. -/
def fnCutControlledShutdownResponseCard : Claim7 := { stood := { row := fnCutControlledShutdownResponseRow, standIns := [], harness := (true, "323daa67eaa82f0ca312dc0fb12be71a29afabf6dd42cc1daa970fa38a03537f"), looks := false }, kinds := [], alts := [], laidByText := true, laidKinds := [.sentinel], laidTests := true, laidLooks := .later }
def FnCutControlledShutdownResponseCardSaid : Prop := Claim7.holds Tryz.pinned (.plain (OpenSpec.ofChange fnCutControlledShutdownResponseSpec)) fnCutControlledShutdownResponseCard

/-- THE TIED CARD OF 'laws.FnAgainStopReplicaResponse'. -/
def fnAgainStopReplicaResponseCard : Claim7 := { stood := { row := fnAgainStopReplicaResponseRow, standIns := [], harness := (true, "323daa67eaa82f0ca312dc0fb12be71a29afabf6dd42cc1daa970fa38a03537f"), looks := false }, kinds := [], alts := [], laidByText := true, laidKinds := [.sentinel], laidTests := true, laidLooks := .later }
def FnAgainStopReplicaResponseCardSaid : Prop := Claim7.holds Tryz.pinned (.plain (OpenSpec.ofChange fnAgainStopReplicaResponseSpec)) fnAgainStopReplicaResponseCard

/-- THE TIED CARD OF 'laws.FnAgainDescribeLogDirsRequest'. -/
def fnAgainDescribeLogDirsRequestCard : Claim7 := { stood := { row := fnAgainDescribeLogDirsRequestRow, standIns := [], harness := (true, "323daa67eaa82f0ca312dc0fb12be71a29afabf6dd42cc1daa970fa38a03537f"), looks := false }, kinds := [], alts := [], laidByText := true, laidKinds := [.sentinel], laidTests := true, laidLooks := .later }
def FnAgainDescribeLogDirsRequestCardSaid : Prop := Claim7.holds Tryz.pinned (.plain (OpenSpec.ofChange fnAgainDescribeLogDirsRequestSpec)) fnAgainDescribeLogDirsRequestCard

/-- THE TIED CARD OF 'laws.FnCutDescribeQuorumRequest'. -/
def fnCutDescribeQuorumRequestCard : Claim7 := { stood := { row := fnCutDescribeQuorumRequestRow, standIns := [], harness := (true, "323daa67eaa82f0ca312dc0fb12be71a29afabf6dd42cc1daa970fa38a03537f"), looks := false }, kinds := [], alts := [], laidByText := true, laidKinds := [.sentinel], laidTests := true, laidLooks := .later }
def FnCutDescribeQuorumRequestCardSaid : Prop := Claim7.holds Tryz.pinned (.plain (OpenSpec.ofChange fnCutDescribeQuorumRequestSpec)) fnCutDescribeQuorumRequestCard

/-- THE TIED CARD OF 'laws.FnAgainListPartitionReassignmentsRequest'. -/
def fnAgainListPartitionReassignmentsRequestCard : Claim7 := { stood := { row := fnAgainListPartitionReassignmentsRequestRow, standIns := [], harness := (true, "323daa67eaa82f0ca312dc0fb12be71a29afabf6dd42cc1daa970fa38a03537f"), looks := false }, kinds := [], alts := [], laidByText := true, laidKinds := [.sentinel], laidTests := true, laidLooks := .later }
def FnAgainListPartitionReassignmentsRequestCardSaid : Prop := Claim7.holds Tryz.pinned (.plain (OpenSpec.ofChange fnAgainListPartitionReassignmentsRequestSpec)) fnAgainListPartitionReassignmentsRequestCard

/-- THE TIED CARD OF 'laws.FnCutAssignReplicasToDirsRequest'. -/
def fnCutAssignReplicasToDirsRequestCard : Claim7 := { stood := { row := fnCutAssignReplicasToDirsRequestRow, standIns := [], harness := (true, "323daa67eaa82f0ca312dc0fb12be71a29afabf6dd42cc1daa970fa38a03537f"), looks := false }, kinds := [], alts := [], laidByText := true, laidKinds := [.sentinel], laidTests := true, laidLooks := .later }
def FnCutAssignReplicasToDirsRequestCardSaid : Prop := Claim7.holds Tryz.pinned (.plain (OpenSpec.ofChange fnCutAssignReplicasToDirsRequestSpec)) fnCutAssignReplicasToDirsRequestCard

/-- THE TIED CARD OF 'laws.FnAgainInitializeShareGroupStateResponse'. -/
def fnAgainInitializeShareGroupStateResponseCard : Claim7 := { stood := { row := fnAgainInitializeShareGroupStateResponseRow, standIns := [], harness := (true, "323daa67eaa82f0ca312dc0fb12be71a29afabf6dd42cc1daa970fa38a03537f"), looks := false }, kinds := [], alts := [], laidByText := true, laidKinds := [.sentinel], laidTests := true, laidLooks := .later }
def FnAgainInitializeShareGroupStateResponseCardSaid : Prop := Claim7.holds Tryz.pinned (.plain (OpenSpec.ofChange fnAgainInitializeShareGroupStateResponseSpec)) fnAgainInitializeShareGroupStateResponseCard

/-- THE TIED CARD OF 'laws.FnAgainOffsetForLeaderEpochResponse'. -/
def fnAgainOffsetForLeaderEpochResponseCard : Claim7 := { stood := { row := fnAgainOffsetForLeaderEpochResponseRow, standIns := [], harness := (true, "323daa67eaa82f0ca312dc0fb12be71a29afabf6dd42cc1daa970fa38a03537f"), looks := false }, kinds := [], alts := [], laidByText := true, laidKinds := [.sentinel], laidTests := true, laidLooks := .later }
def FnAgainOffsetForLeaderEpochResponseCardSaid : Prop := Claim7.holds Tryz.pinned (.plain (OpenSpec.ofChange fnAgainOffsetForLeaderEpochResponseSpec)) fnAgainOffsetForLeaderEpochResponseCard

/-- THE TIED CARD OF 'laws.FnCutAlterConfigsResponse'. -/
def fnCutAlterConfigsResponseCard : Claim7 := { stood := { row := fnCutAlterConfigsResponseRow, standIns := [], harness := (true, "323daa67eaa82f0ca312dc0fb12be71a29afabf6dd42cc1daa970fa38a03537f"), looks := false }, kinds := [], alts := [], laidByText := true, laidKinds := [.sentinel], laidTests := true, laidLooks := .later }
def FnCutAlterConfigsResponseCardSaid : Prop := Claim7.holds Tryz.pinned (.plain (OpenSpec.ofChange fnCutAlterConfigsResponseSpec)) fnCutAlterConfigsResponseCard

/-- THE TIED CARD OF 'laws.FnAgainDeleteTopicsResponse'. -/
def fnAgainDeleteTopicsResponseCard : Claim7 := { stood := { row := fnAgainDeleteTopicsResponseRow, standIns := [], harness := (true, "323daa67eaa82f0ca312dc0fb12be71a29afabf6dd42cc1daa970fa38a03537f"), looks := false }, kinds := [], alts := [], laidByText := true, laidKinds := [.sentinel], laidTests := true, laidLooks := .later }
def FnAgainDeleteTopicsResponseCardSaid : Prop := Claim7.holds Tryz.pinned (.plain (OpenSpec.ofChange fnAgainDeleteTopicsResponseSpec)) fnAgainDeleteTopicsResponseCard

/-- THE SECOND FORM's CARD OF 'laws.FnCutDeleteGroupsRequest'. -/
def fnCutDeleteGroupsRequestUptoCard : Claim7 := { stood := { row := fnCutDeleteGroupsRequestUptoRow, standIns := [], harness := (true, "323daa67eaa82f0ca312dc0fb12be71a29afabf6dd42cc1daa970fa38a03537f"), looks := false }, kinds := [], alts := [], laidByText := true, laidKinds := [.sentinel], laidTests := true, laidLooks := .later }
def FnCutDeleteGroupsRequestUptoCardSaid : Prop := Claim7.holds Tryz.pinned (.plain (OpenSpec.upto fnCutDeleteGroupsRequestSpec)) fnCutDeleteGroupsRequestUptoCard

/-- THE SECOND FORM's CARD OF 'laws.FnCutControlledShutdownResponse'. -/
def fnCutControlledShutdownResponseUptoCard : Claim7 := { stood := { row := fnCutControlledShutdownResponseUptoRow, standIns := [], harness := (true, "323daa67eaa82f0ca312dc0fb12be71a29afabf6dd42cc1daa970fa38a03537f"), looks := false }, kinds := [], alts := [], laidByText := true, laidKinds := [.sentinel], laidTests := true, laidLooks := .later }
def FnCutControlledShutdownResponseUptoCardSaid : Prop := Claim7.holds Tryz.pinned (.plain (OpenSpec.upto fnCutControlledShutdownResponseSpec)) fnCutControlledShutdownResponseUptoCard

/-- THE SECOND FORM's CARD OF 'laws.FnAgainStopReplicaResponse'. -/
def fnAgainStopReplicaResponseUptoCard : Claim7 := { stood := { row := fnAgainStopReplicaResponseUptoRow, standIns := [], harness := (true, "323daa67eaa82f0ca312dc0fb12be71a29afabf6dd42cc1daa970fa38a03537f"), looks := false }, kinds := [], alts := [], laidByText := true, laidKinds := [.sentinel], laidTests := true, laidLooks := .later }
def FnAgainStopReplicaResponseUptoCardSaid : Prop := Claim7.holds Tryz.pinned (.plain (OpenSpec.upto fnAgainStopReplicaResponseSpec)) fnAgainStopReplicaResponseUptoCard

/-- THE SECOND FORM's CARD OF 'laws.FnAgainDescribeLogDirsRequest'. -/
def fnAgainDescribeLogDirsRequestUptoCard : Claim7 := { stood := { row := fnAgainDescribeLogDirsRequestUptoRow, standIns := [], harness := (true, "323daa67eaa82f0ca312dc0fb12be71a29afabf6dd42cc1daa970fa38a03537f"), looks := false }, kinds := [], alts := [], laidByText := true, laidKinds := [.sentinel], laidTests := true, laidLooks := .later }
def FnAgainDescribeLogDirsRequestUptoCardSaid : Prop := Claim7.holds Tryz.pinned (.plain (OpenSpec.upto fnAgainDescribeLogDirsRequestSpec)) fnAgainDescribeLogDirsRequestUptoCard

/-- THE SECOND FORM's CARD OF 'laws.FnCutDescribeQuorumRequest'. -/
def fnCutDescribeQuorumRequestUptoCard : Claim7 := { stood := { row := fnCutDescribeQuorumRequestUptoRow, standIns := [], harness := (true, "323daa67eaa82f0ca312dc0fb12be71a29afabf6dd42cc1daa970fa38a03537f"), looks := false }, kinds := [], alts := [], laidByText := true, laidKinds := [.sentinel], laidTests := true, laidLooks := .later }
def FnCutDescribeQuorumRequestUptoCardSaid : Prop := Claim7.holds Tryz.pinned (.plain (OpenSpec.upto fnCutDescribeQuorumRequestSpec)) fnCutDescribeQuorumRequestUptoCard

/-- THE SECOND FORM's CARD OF 'laws.FnAgainListPartitionReassignmentsRequest'. -/
def fnAgainListPartitionReassignmentsRequestUptoCard : Claim7 := { stood := { row := fnAgainListPartitionReassignmentsRequestUptoRow, standIns := [], harness := (true, "323daa67eaa82f0ca312dc0fb12be71a29afabf6dd42cc1daa970fa38a03537f"), looks := false }, kinds := [], alts := [], laidByText := true, laidKinds := [.sentinel], laidTests := true, laidLooks := .later }
def FnAgainListPartitionReassignmentsRequestUptoCardSaid : Prop := Claim7.holds Tryz.pinned (.plain (OpenSpec.upto fnAgainListPartitionReassignmentsRequestSpec)) fnAgainListPartitionReassignmentsRequestUptoCard

/-- THE SECOND FORM's CARD OF 'laws.FnCutAssignReplicasToDirsRequest'. -/
def fnCutAssignReplicasToDirsRequestUptoCard : Claim7 := { stood := { row := fnCutAssignReplicasToDirsRequestUptoRow, standIns := [], harness := (true, "323daa67eaa82f0ca312dc0fb12be71a29afabf6dd42cc1daa970fa38a03537f"), looks := false }, kinds := [], alts := [], laidByText := true, laidKinds := [.sentinel], laidTests := true, laidLooks := .later }
def FnCutAssignReplicasToDirsRequestUptoCardSaid : Prop := Claim7.holds Tryz.pinned (.plain (OpenSpec.upto fnCutAssignReplicasToDirsRequestSpec)) fnCutAssignReplicasToDirsRequestUptoCard

/-- THE SECOND FORM's CARD OF 'laws.FnAgainInitializeShareGroupStateResponse'. -/
def fnAgainInitializeShareGroupStateResponseUptoCard : Claim7 := { stood := { row := fnAgainInitializeShareGroupStateResponseUptoRow, standIns := [], harness := (true, "323daa67eaa82f0ca312dc0fb12be71a29afabf6dd42cc1daa970fa38a03537f"), looks := false }, kinds := [], alts := [], laidByText := true, laidKinds := [.sentinel], laidTests := true, laidLooks := .later }
def FnAgainInitializeShareGroupStateResponseUptoCardSaid : Prop := Claim7.holds Tryz.pinned (.plain (OpenSpec.upto fnAgainInitializeShareGroupStateResponseSpec)) fnAgainInitializeShareGroupStateResponseUptoCard

/-- THE SECOND FORM's CARD OF 'laws.FnAgainOffsetForLeaderEpochResponse'. -/
def fnAgainOffsetForLeaderEpochResponseUptoCard : Claim7 := { stood := { row := fnAgainOffsetForLeaderEpochResponseUptoRow, standIns := [], harness := (true, "323daa67eaa82f0ca312dc0fb12be71a29afabf6dd42cc1daa970fa38a03537f"), looks := false }, kinds := [], alts := [], laidByText := true, laidKinds := [.sentinel], laidTests := true, laidLooks := .later }
def FnAgainOffsetForLeaderEpochResponseUptoCardSaid : Prop := Claim7.holds Tryz.pinned (.plain (OpenSpec.upto fnAgainOffsetForLeaderEpochResponseSpec)) fnAgainOffsetForLeaderEpochResponseUptoCard

/-- THE SECOND FORM's CARD OF 'laws.FnCutAlterConfigsResponse'. -/
def fnCutAlterConfigsResponseUptoCard : Claim7 := { stood := { row := fnCutAlterConfigsResponseUptoRow, standIns := [], harness := (true, "323daa67eaa82f0ca312dc0fb12be71a29afabf6dd42cc1daa970fa38a03537f"), looks := false }, kinds := [], alts := [], laidByText := true, laidKinds := [.sentinel], laidTests := true, laidLooks := .later }
def FnCutAlterConfigsResponseUptoCardSaid : Prop := Claim7.holds Tryz.pinned (.plain (OpenSpec.upto fnCutAlterConfigsResponseSpec)) fnCutAlterConfigsResponseUptoCard

/-- THE SECOND FORM's CARD OF 'laws.FnAgainDeleteTopicsResponse'. -/
def fnAgainDeleteTopicsResponseUptoCard : Claim7 := { stood := { row := fnAgainDeleteTopicsResponseUptoRow, standIns := [], harness := (true, "323daa67eaa82f0ca312dc0fb12be71a29afabf6dd42cc1daa970fa38a03537f"), looks := false }, kinds := [], alts := [], laidByText := true, laidKinds := [.sentinel], laidTests := true, laidLooks := .later }
def FnAgainDeleteTopicsResponseUptoCardSaid : Prop := Claim7.holds Tryz.pinned (.plain (OpenSpec.upto fnAgainDeleteTopicsResponseSpec)) fnAgainDeleteTopicsResponseUptoCard
end Rows
end Go.Proofs.YtgnajdficmndgaaGreatDoor
