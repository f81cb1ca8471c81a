/-
  NARROWER THAN 'FOR EVERY INPUT', by the rows' own cells (each row's printed sentence says how): FnCutDeleteGroupsRequest: loops, laid · FnCutControlledShutdownResponse: loops, laid · FnAgainStopReplicaResponse: loops, laid · FnAgainDescribeLogDirsRequest: loops, laid · FnCutDescribeQuorumRequest: loops, laid · FnAgainListPartitionReassignmentsRequest: loops, laid · FnCutAssignReplicasToDirsRequest: loops, laid · FnAgainInitializeShareGroupStateResponse: loops, laid · FnAgainOffsetForLeaderEpochResponse: loops, laid · FnCutAlterConfigsResponse: loops, laid · FnAgainDeleteTopicsResponse: loops, laid.
  DERIVED. THE GIVEN ROWS OF THIS SEAT. 11 by the template 'for every input the law returns true; each argument reads behind the call as it read before'; 0 by the template 'total and deterministic' (their statements: YtgnajdficmndgaaGreatDoorTotals.lean).
  GIVEN WITH THE SEED: the statements are not yours to turn. If you find one false, say at which input.
  Laid BY PROGRAM, IN A SANDBOX (cutbox-rows.mjs): the forced cells as the released guide's own fill.sh prints them over the translation f49029c80fcd76ee… (all of the seat's roots in one cut). By AI agents, Wed Nov 11 2026. No macro, syntax, notation, axiom, sorry.
-/
import Derived.Test.YtgnajdficmndgaaGreatDoorChecked
import GoSem.Claim
import GoSem.ClaimJoined
import GoSem.ClaimMapViews
import Derived.JoinedTies
import Derived.KernelRfl
namespace Go.Proofs.YtgnajdficmndgaaGreatDoor
/- THE CELL 'sum', in the pinned program and in every row, IS THE sha256 OF THE DUMP (.gsa) THAT YtgnajdficmndgaaGreatDoorProg.lean LOADS. Nothing in Lean hashes anything: it is a label: what it is worth is what the hold of that sum in a sandbox is worth. -/
noncomputable def Tryz.pinned : Pinned := { name := "ytgnajdficmndgaagreatdoor", sum := "f49029c80fcd76eeb6524c6f97d30a5182d8d7abec04b630c2bf7b692d7a2764", checked := Tryz.checked }
namespace Rows
def none {H : Type} : Left H := { results := [], args := [] }

/- WHAT THE LISTED PACKAGE-LEVEL VARIABLES READ AS WHEN THE CALL BEGINS. Each datum BY PROGRAM (the guide's laid-datum.mjs) off the statement by which the dump's own 'gosem.cut.vars' lays the variable. In a bare row this is a premise. The card (YtgnajdficmndgaaGreatDoorCards.lean) ties it to the program's text. -/
def laid_pub_kmsg_pub_kmsg_inner_kbin_ErrNotEnoughData {H : Type} : DataW H := .iface "*errors.errorString" (.ptr (.agg [.lit (.string [114, 101, 115, 112, 111, 110, 115, 101, 32, 100, 105, 100, 32, 110, 111, 116, 32, 99, 111, 110, 116, 97, 105, 110, 32, 101, 110, 111, 117, 103, 104, 32, 100, 97, 116, 97, 32, 116, 111, 32, 98, 101, 32, 118, 97, 108, 105, 100])]))

/-- 'laws.FnCutDeleteGroupsRequest': WHATEVER THE INPUT: true; the input reads as it did. -/
def fnCutDeleteGroupsRequestSpec : ChangeSpec := { name := "fnCutDeleteGroupsRequest", fn := fun _ => fun
  | [d1, d2, d3] => { results := [.lit (.bool true)], args := [d1, d2, d3] }
  | _ => none }
def fnCutDeleteGroupsRequestRow : OpenClaim := { program := "ytgnajdficmndgaagreatdoor", sum := "f49029c80fcd76eeb6524c6f97d30a5182d8d7abec04b630c2bf7b692d7a2764", func := "pub-kmsg/laws.FnCutDeleteGroupsRequest", spec := "fnCutDeleteGroupsRequest", inPlace := ["internal/reflectlite.ValueOf", "internal/reflectlite.Swapper", "(internal/reflectlite.Value).Len"], unfollowed := true, recurses := true, named := ["encoding/binary.BigEndian", "pub-kmsg/pub/kmsg/inner/kbin.ErrNotEnoughData"], loops := true, apart := false, laid := [("pub-kmsg/pub/kmsg/inner/kbin.ErrNotEnoughData", laid_pub_kmsg_pub_kmsg_inner_kbin_ErrNotEnoughData)] }
def FnCutDeleteGroupsRequestSaid : Prop := fnCutDeleteGroupsRequestRow.holds Tryz.pinned (OpenSpec.ofChange fnCutDeleteGroupsRequestSpec)

/-- ITS FALSE NEIGHBOUR: 'it returns false'. Refute it at one input. -/
def fnCutDeleteGroupsRequestWrong : ChangeSpec := { name := "fnCutDeleteGroupsRequest", fn := fun _ => fun
  | [d1, d2, d3] => { results := [.lit (.bool false)], args := [d1, d2, d3] }
  | _ => none }
def FnCutDeleteGroupsRequestWrongFalsely : Prop := fnCutDeleteGroupsRequestRow.holds Tryz.pinned (OpenSpec.ofChange fnCutDeleteGroupsRequestWrong)

/-- 'laws.FnCutControlledShutdownResponse': WHATEVER THE INPUT: true; the input reads as it did. -/
def fnCutControlledShutdownResponseSpec : ChangeSpec := { name := "fnCutControlledShutdownResponse", fn := fun _ => fun
  | [d1, d2, d3] => { results := [.lit (.bool true)], args := [d1, d2, d3] }
  | _ => none }
def fnCutControlledShutdownResponseRow : OpenClaim := { program := "ytgnajdficmndgaagreatdoor", sum := "f49029c80fcd76eeb6524c6f97d30a5182d8d7abec04b630c2bf7b692d7a2764", func := "pub-kmsg/laws.FnCutControlledShutdownResponse", spec := "fnCutControlledShutdownResponse", inPlace := ["internal/reflectlite.ValueOf", "internal/reflectlite.Swapper", "(internal/reflectlite.Value).Len"], unfollowed := true, recurses := true, named := ["encoding/binary.BigEndian", "pub-kmsg/pub/kmsg/inner/kbin.ErrNotEnoughData"], loops := true, apart := false, laid := [("pub-kmsg/pub/kmsg/inner/kbin.ErrNotEnoughData", laid_pub_kmsg_pub_kmsg_inner_kbin_ErrNotEnoughData)] }
def FnCutControlledShutdownResponseSaid : Prop := fnCutControlledShutdownResponseRow.holds Tryz.pinned (OpenSpec.ofChange fnCutControlledShutdownResponseSpec)

/-- ITS FALSE NEIGHBOUR: 'it returns false'. Refute it at one input. -/
def fnCutControlledShutdownResponseWrong : ChangeSpec := { name := "fnCutControlledShutdownResponse", fn := fun _ => fun
  | [d1, d2, d3] => { results := [.lit (.bool false)], args := [d1, d2, d3] }
  | _ => none }
def FnCutControlledShutdownResponseWrongFalsely : Prop := fnCutControlledShutdownResponseRow.holds Tryz.pinned (OpenSpec.ofChange fnCutControlledShutdownResponseWrong)

/-- 'laws.FnAgainStopReplicaResponse': WHATEVER THE INPUT: true; the input reads as it did. -/
def fnAgainStopReplicaResponseSpec : ChangeSpec := { name := "fnAgainStopReplicaResponse", fn := fun _ => fun
  | [d1, d2] => { results := [.lit (.bool true)], args := [d1, d2] }
  | _ => none }
def fnAgainStopReplicaResponseRow : OpenClaim := { program := "ytgnajdficmndgaagreatdoor", sum := "f49029c80fcd76eeb6524c6f97d30a5182d8d7abec04b630c2bf7b692d7a2764", func := "pub-kmsg/laws.FnAgainStopReplicaResponse", spec := "fnAgainStopReplicaResponse", inPlace := ["internal/reflectlite.ValueOf", "internal/reflectlite.Swapper", "(internal/reflectlite.Value).Len"], unfollowed := true, recurses := true, named := ["encoding/binary.BigEndian", "pub-kmsg/pub/kmsg/inner/kbin.ErrNotEnoughData"], loops := true, apart := false, laid := [("pub-kmsg/pub/kmsg/inner/kbin.ErrNotEnoughData", laid_pub_kmsg_pub_kmsg_inner_kbin_ErrNotEnoughData)] }
def FnAgainStopReplicaResponseSaid : Prop := fnAgainStopReplicaResponseRow.holds Tryz.pinned (OpenSpec.ofChange fnAgainStopReplicaResponseSpec)

/-- ITS FALSE NEIGHBOUR: 'it returns false'. Refute it at one input. -/
def fnAgainStopReplicaResponseWrong : ChangeSpec := { name := "fnAgainStopReplicaResponse", fn := fun _ => fun
  | [d1, d2] => { results := [.lit (.bool false)], args := [d1, d2] }
  | _ => none }
def FnAgainStopReplicaResponseWrongFalsely : Prop := fnAgainStopReplicaResponseRow.holds Tryz.pinned (OpenSpec.ofChange fnAgainStopReplicaResponseWrong)

/-- 'laws.FnAgainDescribeLogDirsRequest': WHATEVER THE INPUT: true; the input reads as it did. -/
def fnAgainDescribeLogDirsRequestSpec : ChangeSpec := { name := "fnAgainDescribeLogDirsRequest", fn := fun _ => fun
  | [d1, d2] => { results := [.lit (.bool true)], args := [d1, d2] }
  | _ => none }
def fnAgainDescribeLogDirsRequestRow : OpenClaim := { program := "ytgnajdficmndgaagreatdoor", sum := "f49029c80fcd76eeb6524c6f97d30a5182d8d7abec04b630c2bf7b692d7a2764", func := "pub-kmsg/laws.FnAgainDescribeLogDirsRequest", spec := "fnAgainDescribeLogDirsRequest", inPlace := ["internal/reflectlite.ValueOf", "internal/reflectlite.Swapper", "(internal/reflectlite.Value).Len"], unfollowed := true, recurses := true, named := ["encoding/binary.BigEndian", "pub-kmsg/pub/kmsg/inner/kbin.ErrNotEnoughData"], loops := true, apart := false, laid := [("pub-kmsg/pub/kmsg/inner/kbin.ErrNotEnoughData", laid_pub_kmsg_pub_kmsg_inner_kbin_ErrNotEnoughData)] }
def FnAgainDescribeLogDirsRequestSaid : Prop := fnAgainDescribeLogDirsRequestRow.holds Tryz.pinned (OpenSpec.ofChange fnAgainDescribeLogDirsRequestSpec)

/-- ITS FALSE NEIGHBOUR: 'it returns false'. Refute it at one input. -/
def fnAgainDescribeLogDirsRequestWrong : ChangeSpec := { name := "fnAgainDescribeLogDirsRequest", fn := fun _ => fun
  | [d1, d2] => { results := [.lit (.bool false)], args := [d1, d2] }
  | _ => none }
def FnAgainDescribeLogDirsRequestWrongFalsely : Prop := fnAgainDescribeLogDirsRequestRow.holds Tryz.pinned (OpenSpec.ofChange fnAgainDescribeLogDirsRequestWrong)

/-- 'laws.FnCutDescribeQuorumRequest': WHATEVER THE INPUT: true; the input reads as it did. -/
def fnCutDescribeQuorumRequestSpec : ChangeSpec := { name := "fnCutDescribeQuorumRequest", fn := fun _ => fun
  | [d1, d2, d3] => { results := [.lit (.bool true)], args := [d1, d2, d3] }
  | _ => none }
def fnCutDescribeQuorumRequestRow : OpenClaim := { program := "ytgnajdficmndgaagreatdoor", sum := "f49029c80fcd76eeb6524c6f97d30a5182d8d7abec04b630c2bf7b692d7a2764", func := "pub-kmsg/laws.FnCutDescribeQuorumRequest", spec := "fnCutDescribeQuorumRequest", inPlace := ["internal/reflectlite.ValueOf", "internal/reflectlite.Swapper", "(internal/reflectlite.Value).Len"], unfollowed := true, recurses := true, named := ["encoding/binary.BigEndian", "pub-kmsg/pub/kmsg/inner/kbin.ErrNotEnoughData"], loops := true, apart := false, laid := [("pub-kmsg/pub/kmsg/inner/kbin.ErrNotEnoughData", laid_pub_kmsg_pub_kmsg_inner_kbin_ErrNotEnoughData)] }
def FnCutDescribeQuorumRequestSaid : Prop := fnCutDescribeQuorumRequestRow.holds Tryz.pinned (OpenSpec.ofChange fnCutDescribeQuorumRequestSpec)

/-- ITS FALSE NEIGHBOUR: 'it returns false'. Refute it at one input. -/
def fnCutDescribeQuorumRequestWrong : ChangeSpec := { name := "fnCutDescribeQuorumRequest", fn := fun _ => fun
  | [d1, d2, d3] => { results := [.lit (.bool false)], args := [d1, d2, d3] }
  | _ => none }
def FnCutDescribeQuorumRequestWrongFalsely : Prop := fnCutDescribeQuorumRequestRow.holds Tryz.pinned (OpenSpec.ofChange fnCutDescribeQuorumRequestWrong)

/-- 'laws.FnAgainListPartitionReassignmentsRequest': WHATEVER THE INPUT: true; the input reads as it did. -/
def fnAgainListPartitionReassignmentsRequestSpec : ChangeSpec := { name := "fnAgainListPartitionReassignmentsRequest", fn := fun _ => fun
  | [d1, d2] => { results := [.lit (.bool true)], args := [d1, d2] }
  | _ => none }
def fnAgainListPartitionReassignmentsRequestRow : OpenClaim := { program := "ytgnajdficmndgaagreatdoor", sum := "f49029c80fcd76eeb6524c6f97d30a5182d8d7abec04b630c2bf7b692d7a2764", func := "pub-kmsg/laws.FnAgainListPartitionReassignmentsRequest", spec := "fnAgainListPartitionReassignmentsRequest", inPlace := ["internal/reflectlite.ValueOf", "internal/reflectlite.Swapper", "(internal/reflectlite.Value).Len"], unfollowed := true, recurses := true, named := ["encoding/binary.BigEndian", "pub-kmsg/pub/kmsg/inner/kbin.ErrNotEnoughData"], loops := true, apart := false, laid := [("pub-kmsg/pub/kmsg/inner/kbin.ErrNotEnoughData", laid_pub_kmsg_pub_kmsg_inner_kbin_ErrNotEnoughData)] }
def FnAgainListPartitionReassignmentsRequestSaid : Prop := fnAgainListPartitionReassignmentsRequestRow.holds Tryz.pinned (OpenSpec.ofChange fnAgainListPartitionReassignmentsRequestSpec)

/-- ITS FALSE NEIGHBOUR: 'it returns false'. Refute it at one input. -/
def fnAgainListPartitionReassignmentsRequestWrong : ChangeSpec := { name := "fnAgainListPartitionReassignmentsRequest", fn := fun _ => fun
  | [d1, d2] => { results := [.lit (.bool false)], args := [d1, d2] }
  | _ => none }
def FnAgainListPartitionReassignmentsRequestWrongFalsely : Prop := fnAgainListPartitionReassignmentsRequestRow.holds Tryz.pinned (OpenSpec.ofChange fnAgainListPartitionReassignmentsRequestWrong)

/-- 'laws.FnCutAssignReplicasToDirsRequest': WHATEVER THE INPUT: true; the input reads as it did. -/
def fnCutAssignReplicasToDirsRequestSpec : ChangeSpec := { name := "fnCutAssignReplicasToDirsRequest", fn := fun _ => fun
  | [d1, d2, d3] => { results := [.lit (.bool true)], args := [d1, d2, d3] }
  | _ => none }
def fnCutAssignReplicasToDirsRequestRow : OpenClaim := { program := "ytgnajdficmndgaagreatdoor", sum := "f49029c80fcd76eeb6524c6f97d30a5182d8d7abec04b630c2bf7b692d7a2764", func := "pub-kmsg/laws.FnCutAssignReplicasToDirsRequest", spec := "fnCutAssignReplicasToDirsRequest", inPlace := ["internal/reflectlite.ValueOf", "internal/reflectlite.Swapper", "(internal/reflectlite.Value).Len"], unfollowed := true, recurses := true, named := ["encoding/binary.BigEndian", "pub-kmsg/pub/kmsg/inner/kbin.ErrNotEnoughData"], loops := true, apart := false, laid := [("pub-kmsg/pub/kmsg/inner/kbin.ErrNotEnoughData", laid_pub_kmsg_pub_kmsg_inner_kbin_ErrNotEnoughData)] }
def FnCutAssignReplicasToDirsRequestSaid : Prop := fnCutAssignReplicasToDirsRequestRow.holds Tryz.pinned (OpenSpec.ofChange fnCutAssignReplicasToDirsRequestSpec)

/-- ITS FALSE NEIGHBOUR: 'it returns false'. Refute it at one input. -/
def fnCutAssignReplicasToDirsRequestWrong : ChangeSpec := { name := "fnCutAssignReplicasToDirsRequest", fn := fun _ => fun
  | [d1, d2, d3] => { results := [.lit (.bool false)], args := [d1, d2, d3] }
  | _ => none }
def FnCutAssignReplicasToDirsRequestWrongFalsely : Prop := fnCutAssignReplicasToDirsRequestRow.holds Tryz.pinned (OpenSpec.ofChange fnCutAssignReplicasToDirsRequestWrong)

/-- 'laws.FnAgainInitializeShareGroupStateResponse': WHATEVER THE INPUT: true; the input reads as it did. -/
def fnAgainInitializeShareGroupStateResponseSpec : ChangeSpec := { name := "fnAgainInitializeShareGroupStateResponse", fn := fun _ => fun
  | [d1, d2] => { results := [.lit (.bool true)], args := [d1, d2] }
  | _ => none }
def fnAgainInitializeShareGroupStateResponseRow : OpenClaim := { program := "ytgnajdficmndgaagreatdoor", sum := "f49029c80fcd76eeb6524c6f97d30a5182d8d7abec04b630c2bf7b692d7a2764", func := "pub-kmsg/laws.FnAgainInitializeShareGroupStateResponse", spec := "fnAgainInitializeShareGroupStateResponse", inPlace := ["internal/reflectlite.ValueOf", "internal/reflectlite.Swapper", "(internal/reflectlite.Value).Len"], unfollowed := true, recurses := true, named := ["encoding/binary.BigEndian", "pub-kmsg/pub/kmsg/inner/kbin.ErrNotEnoughData"], loops := true, apart := false, laid := [("pub-kmsg/pub/kmsg/inner/kbin.ErrNotEnoughData", laid_pub_kmsg_pub_kmsg_inner_kbin_ErrNotEnoughData)] }
def FnAgainInitializeShareGroupStateResponseSaid : Prop := fnAgainInitializeShareGroupStateResponseRow.holds Tryz.pinned (OpenSpec.ofChange fnAgainInitializeShareGroupStateResponseSpec)

/-- ITS FALSE NEIGHBOUR: 'it returns false'. Refute it at one input. -/
def fnAgainInitializeShareGroupStateResponseWrong : ChangeSpec := { name := "fnAgainInitializeShareGroupStateResponse", fn := fun _ => fun
  | [d1, d2] => { results := [.lit (.bool false)], args := [d1, d2] }
  | _ => none }
def FnAgainInitializeShareGroupStateResponseWrongFalsely : Prop := fnAgainInitializeShareGroupStateResponseRow.holds Tryz.pinned (OpenSpec.ofChange fnAgainInitializeShareGroupStateResponseWrong)

/-- 'laws.FnAgainOffsetForLeaderEpochResponse': WHATEVER THE INPUT: true; the input reads as it did. -/
def fnAgainOffsetForLeaderEpochResponseSpec : ChangeSpec := { name := "fnAgainOffsetForLeaderEpochResponse", fn := fun _ => fun
  | [d1, d2] => { results := [.lit (.bool true)], args := [d1, d2] }
  | _ => none }
def fnAgainOffsetForLeaderEpochResponseRow : OpenClaim := { program := "ytgnajdficmndgaagreatdoor", sum := "f49029c80fcd76eeb6524c6f97d30a5182d8d7abec04b630c2bf7b692d7a2764", func := "pub-kmsg/laws.FnAgainOffsetForLeaderEpochResponse", spec := "fnAgainOffsetForLeaderEpochResponse", inPlace := ["internal/reflectlite.ValueOf", "internal/reflectlite.Swapper", "(internal/reflectlite.Value).Len"], unfollowed := true, recurses := true, named := ["encoding/binary.BigEndian", "pub-kmsg/pub/kmsg/inner/kbin.ErrNotEnoughData"], loops := true, apart := false, laid := [("pub-kmsg/pub/kmsg/inner/kbin.ErrNotEnoughData", laid_pub_kmsg_pub_kmsg_inner_kbin_ErrNotEnoughData)] }
def FnAgainOffsetForLeaderEpochResponseSaid : Prop := fnAgainOffsetForLeaderEpochResponseRow.holds Tryz.pinned (OpenSpec.ofChange fnAgainOffsetForLeaderEpochResponseSpec)

/-- ITS FALSE NEIGHBOUR: 'it returns false'. Refute it at one input. -/
def fnAgainOffsetForLeaderEpochResponseWrong : ChangeSpec := { name := "fnAgainOffsetForLeaderEpochResponse", fn := fun _ => fun
  | [d1, d2] => { results := [.lit (.bool false)], args := [d1, d2] }
  | _ => none }
def FnAgainOffsetForLeaderEpochResponseWrongFalsely : Prop := fnAgainOffsetForLeaderEpochResponseRow.holds Tryz.pinned (OpenSpec.ofChange fnAgainOffsetForLeaderEpochResponseWrong)

/-- 'laws.FnCutAlterConfigsResponse': WHATEVER THE INPUT: true; the input reads as it did. -/
def fnCutAlterConfigsResponseSpec : ChangeSpec := { name := "fnCutAlterConfigsResponse", fn := fun _ => fun
  | [d1, d2, d3] => { results := [.lit (.bool true)], args := [d1, d2, d3] }
  | _ => none }
def fnCutAlterConfigsResponseRow : OpenClaim := { program := "ytgnajdficmndgaagreatdoor", sum := "f49029c80fcd76eeb6524c6f97d30a5182d8d7abec04b630c2bf7b692d7a2764", func := "pub-kmsg/laws.FnCutAlterConfigsResponse", spec := "fnCutAlterConfigsResponse", inPlace := ["internal/reflectlite.ValueOf", "internal/reflectlite.Swapper", "(internal/reflectlite.Value).Len"], unfollowed := true, recurses := true, named := ["encoding/binary.BigEndian", "pub-kmsg/pub/kmsg/inner/kbin.ErrNotEnoughData"], loops := true, apart := false, laid := [("pub-kmsg/pub/kmsg/inner/kbin.ErrNotEnoughData", laid_pub_kmsg_pub_kmsg_inner_kbin_ErrNotEnoughData)] }
def FnCutAlterConfigsResponseSaid : Prop := fnCutAlterConfigsResponseRow.holds Tryz.pinned (OpenSpec.ofChange fnCutAlterConfigsResponseSpec)

/-- ITS FALSE NEIGHBOUR: 'it returns false'. Refute it at one input. -/
def fnCutAlterConfigsResponseWrong : ChangeSpec := { name := "fnCutAlterConfigsResponse", fn := fun _ => fun
  | [d1, d2, d3] => { results := [.lit (.bool false)], args := [d1, d2, d3] }
  | _ => none }
def FnCutAlterConfigsResponseWrongFalsely : Prop := fnCutAlterConfigsResponseRow.holds Tryz.pinned (OpenSpec.ofChange fnCutAlterConfigsResponseWrong)

/-- 'laws.FnAgainDeleteTopicsResponse': WHATEVER THE INPUT: true; the input reads as it did. -/
def fnAgainDeleteTopicsResponseSpec : ChangeSpec := { name := "fnAgainDeleteTopicsResponse", fn := fun _ => fun
  | [d1, d2] => { results := [.lit (.bool true)], args := [d1, d2] }
  | _ => none }
def fnAgainDeleteTopicsResponseRow : OpenClaim := { program := "ytgnajdficmndgaagreatdoor", sum := "f49029c80fcd76eeb6524c6f97d30a5182d8d7abec04b630c2bf7b692d7a2764", func := "pub-kmsg/laws.FnAgainDeleteTopicsResponse", spec := "fnAgainDeleteTopicsResponse", inPlace := ["internal/reflectlite.ValueOf", "internal/reflectlite.Swapper", "(internal/reflectlite.Value).Len"], unfollowed := true, recurses := true, named := ["encoding/binary.BigEndian", "pub-kmsg/pub/kmsg/inner/kbin.ErrNotEnoughData"], loops := true, apart := false, laid := [("pub-kmsg/pub/kmsg/inner/kbin.ErrNotEnoughData", laid_pub_kmsg_pub_kmsg_inner_kbin_ErrNotEnoughData)] }
def FnAgainDeleteTopicsResponseSaid : Prop := fnAgainDeleteTopicsResponseRow.holds Tryz.pinned (OpenSpec.ofChange fnAgainDeleteTopicsResponseSpec)

/-- ITS FALSE NEIGHBOUR: 'it returns false'. Refute it at one input. -/
def fnAgainDeleteTopicsResponseWrong : ChangeSpec := { name := "fnAgainDeleteTopicsResponse", fn := fun _ => fun
  | [d1, d2] => { results := [.lit (.bool false)], args := [d1, d2] }
  | _ => none }
def FnAgainDeleteTopicsResponseWrongFalsely : Prop := fnAgainDeleteTopicsResponseRow.holds Tryz.pinned (OpenSpec.ofChange fnAgainDeleteTopicsResponseWrong)

/- THE SECOND FORM. 'bulk': how many values and letters a reading holds, each counted each time it is reached (what is shared counts as often as it is met; a slice's spare places count too). A statement '..UptoSaid' is the law's where the arguments, and the package variables that the reading takes, are together of bulk at most 1048576: NARROWER than '..Said'. Prove '..Said' where nothing that the law and all that it calls make is longer than what came in: it says more and counts as full. Else prove '..UptoSaid'. A law counts once. -/
mutual
def uptoBulk {H : Type} : DataW H → Nat
  | .lit (.string bytes) => bytes.length + 1
  | .lit _ => 1
  | .nil => 1
  | .ptr d => uptoBulk d + 1
  | .slice elems spare => uptoBulkAll elems + uptoBulkAll spare + 1
  | .agg parts => uptoBulkAll parts + 1
  | .iface _ d => uptoBulk d + 1
  | .map entries => uptoBulkEntries entries + 1
  | .held _ => 1
def uptoBulkAll {H : Type} : List (DataW H) → Nat
  | [] => 0
  | d :: r => uptoBulk d + uptoBulkAll r
def uptoBulkEntries {H : Type} : List (Lit × DataW H) → Nat
  | [] => 0
  | x :: r => uptoBulkEntry x + uptoBulkEntries r
def uptoBulkEntry {H : Type} : Lit × DataW H → Nat
  | (.string bytes, d) => bytes.length + uptoBulk d + 1
  | (_, d) => uptoBulk d + 1
 end
def uptoSmall : (H : Type) → List (DataW H) → Bool := fun _ ds => decide (uptoBulkAll ds ≤ 1048576)
def OpenSpec.upto (s : _root_.Go.ChangeSpec) : _root_.Go.OpenSpec := { _root_.Go.OpenSpec.ofChange s with cond := some uptoSmall }

/-- 'laws.FnCutDeleteGroupsRequest', WHERE WHAT IT READS IS OF BULK AT MOST 1048576: true; the input reads as it did. -/
def fnCutDeleteGroupsRequestUptoRow : OpenClaim := { program := "ytgnajdficmndgaagreatdoor", sum := "f49029c80fcd76eeb6524c6f97d30a5182d8d7abec04b630c2bf7b692d7a2764", func := "pub-kmsg/laws.FnCutDeleteGroupsRequest", spec := "fnCutDeleteGroupsRequest", inPlace := ["internal/reflectlite.ValueOf", "internal/reflectlite.Swapper", "(internal/reflectlite.Value).Len"], unfollowed := true, recurses := true, named := ["encoding/binary.BigEndian", "pub-kmsg/pub/kmsg/inner/kbin.ErrNotEnoughData"], loops := true, apart := false, laid := [("pub-kmsg/pub/kmsg/inner/kbin.ErrNotEnoughData", laid_pub_kmsg_pub_kmsg_inner_kbin_ErrNotEnoughData)], narrowed := true }
def FnCutDeleteGroupsRequestUptoSaid : Prop := fnCutDeleteGroupsRequestUptoRow.holds Tryz.pinned (OpenSpec.upto fnCutDeleteGroupsRequestSpec)

/-- 'laws.FnCutControlledShutdownResponse', WHERE WHAT IT READS IS OF BULK AT MOST 1048576: true; the input reads as it did. -/
def fnCutControlledShutdownResponseUptoRow : OpenClaim := { program := "ytgnajdficmndgaagreatdoor", sum := "f49029c80fcd76eeb6524c6f97d30a5182d8d7abec04b630c2bf7b692d7a2764", func := "pub-kmsg/laws.FnCutControlledShutdownResponse", spec := "fnCutControlledShutdownResponse", inPlace := ["internal/reflectlite.ValueOf", "internal/reflectlite.Swapper", "(internal/reflectlite.Value).Len"], unfollowed := true, recurses := true, named := ["encoding/binary.BigEndian", "pub-kmsg/pub/kmsg/inner/kbin.ErrNotEnoughData"], loops := true, apart := false, laid := [("pub-kmsg/pub/kmsg/inner/kbin.ErrNotEnoughData", laid_pub_kmsg_pub_kmsg_inner_kbin_ErrNotEnoughData)], narrowed := true }
def FnCutControlledShutdownResponseUptoSaid : Prop := fnCutControlledShutdownResponseUptoRow.holds Tryz.pinned (OpenSpec.upto fnCutControlledShutdownResponseSpec)

/-- 'laws.FnAgainStopReplicaResponse', WHERE WHAT IT READS IS OF BULK AT MOST 1048576: true; the input reads as it did. -/
def fnAgainStopReplicaResponseUptoRow : OpenClaim := { program := "ytgnajdficmndgaagreatdoor", sum := "f49029c80fcd76eeb6524c6f97d30a5182d8d7abec04b630c2bf7b692d7a2764", func := "pub-kmsg/laws.FnAgainStopReplicaResponse", spec := "fnAgainStopReplicaResponse", inPlace := ["internal/reflectlite.ValueOf", "internal/reflectlite.Swapper", "(internal/reflectlite.Value).Len"], unfollowed := true, recurses := true, named := ["encoding/binary.BigEndian", "pub-kmsg/pub/kmsg/inner/kbin.ErrNotEnoughData"], loops := true, apart := false, laid := [("pub-kmsg/pub/kmsg/inner/kbin.ErrNotEnoughData", laid_pub_kmsg_pub_kmsg_inner_kbin_ErrNotEnoughData)], narrowed := true }
def FnAgainStopReplicaResponseUptoSaid : Prop := fnAgainStopReplicaResponseUptoRow.holds Tryz.pinned (OpenSpec.upto fnAgainStopReplicaResponseSpec)

/-- 'laws.FnAgainDescribeLogDirsRequest', WHERE WHAT IT READS IS OF BULK AT MOST 1048576: true; the input reads as it did. -/
def fnAgainDescribeLogDirsRequestUptoRow : OpenClaim := { program := "ytgnajdficmndgaagreatdoor", sum := "f49029c80fcd76eeb6524c6f97d30a5182d8d7abec04b630c2bf7b692d7a2764", func := "pub-kmsg/laws.FnAgainDescribeLogDirsRequest", spec := "fnAgainDescribeLogDirsRequest", inPlace := ["internal/reflectlite.ValueOf", "internal/reflectlite.Swapper", "(internal/reflectlite.Value).Len"], unfollowed := true, recurses := true, named := ["encoding/binary.BigEndian", "pub-kmsg/pub/kmsg/inner/kbin.ErrNotEnoughData"], loops := true, apart := false, laid := [("pub-kmsg/pub/kmsg/inner/kbin.ErrNotEnoughData", laid_pub_kmsg_pub_kmsg_inner_kbin_ErrNotEnoughData)], narrowed := true }
def FnAgainDescribeLogDirsRequestUptoSaid : Prop := fnAgainDescribeLogDirsRequestUptoRow.holds Tryz.pinned (OpenSpec.upto fnAgainDescribeLogDirsRequestSpec)

/-- 'laws.FnCutDescribeQuorumRequest', WHERE WHAT IT READS IS OF BULK AT MOST 1048576: true; the input reads as it did. -/
def fnCutDescribeQuorumRequestUptoRow : OpenClaim := { program := "ytgnajdficmndgaagreatdoor", sum := "f49029c80fcd76eeb6524c6f97d30a5182d8d7abec04b630c2bf7b692d7a2764", func := "pub-kmsg/laws.FnCutDescribeQuorumRequest", spec := "fnCutDescribeQuorumRequest", inPlace := ["internal/reflectlite.ValueOf", "internal/reflectlite.Swapper", "(internal/reflectlite.Value).Len"], unfollowed := true, recurses := true, named := ["encoding/binary.BigEndian", "pub-kmsg/pub/kmsg/inner/kbin.ErrNotEnoughData"], loops := true, apart := false, laid := [("pub-kmsg/pub/kmsg/inner/kbin.ErrNotEnoughData", laid_pub_kmsg_pub_kmsg_inner_kbin_ErrNotEnoughData)], narrowed := true }
def FnCutDescribeQuorumRequestUptoSaid : Prop := fnCutDescribeQuorumRequestUptoRow.holds Tryz.pinned (OpenSpec.upto fnCutDescribeQuorumRequestSpec)

/-- 'laws.FnAgainListPartitionReassignmentsRequest', WHERE WHAT IT READS IS OF BULK AT MOST 1048576: true; the input reads as it did. -/
def fnAgainListPartitionReassignmentsRequestUptoRow : OpenClaim := { program := "ytgnajdficmndgaagreatdoor", sum := "f49029c80fcd76eeb6524c6f97d30a5182d8d7abec04b630c2bf7b692d7a2764", func := "pub-kmsg/laws.FnAgainListPartitionReassignmentsRequest", spec := "fnAgainListPartitionReassignmentsRequest", inPlace := ["internal/reflectlite.ValueOf", "internal/reflectlite.Swapper", "(internal/reflectlite.Value).Len"], unfollowed := true, recurses := true, named := ["encoding/binary.BigEndian", "pub-kmsg/pub/kmsg/inner/kbin.ErrNotEnoughData"], loops := true, apart := false, laid := [("pub-kmsg/pub/kmsg/inner/kbin.ErrNotEnoughData", laid_pub_kmsg_pub_kmsg_inner_kbin_ErrNotEnoughData)], narrowed := true }
def FnAgainListPartitionReassignmentsRequestUptoSaid : Prop := fnAgainListPartitionReassignmentsRequestUptoRow.holds Tryz.pinned (OpenSpec.upto fnAgainListPartitionReassignmentsRequestSpec)

/-- 'laws.FnCutAssignReplicasToDirsRequest', WHERE WHAT IT READS IS OF BULK AT MOST 1048576: true; the input reads as it did. -/
def fnCutAssignReplicasToDirsRequestUptoRow : OpenClaim := { program := "ytgnajdficmndgaagreatdoor", sum := "f49029c80fcd76eeb6524c6f97d30a5182d8d7abec04b630c2bf7b692d7a2764", func := "pub-kmsg/laws.FnCutAssignReplicasToDirsRequest", spec := "fnCutAssignReplicasToDirsRequest", inPlace := ["internal/reflectlite.ValueOf", "internal/reflectlite.Swapper", "(internal/reflectlite.Value).Len"], unfollowed := true, recurses := true, named := ["encoding/binary.BigEndian", "pub-kmsg/pub/kmsg/inner/kbin.ErrNotEnoughData"], loops := true, apart := false, laid := [("pub-kmsg/pub/kmsg/inner/kbin.ErrNotEnoughData", laid_pub_kmsg_pub_kmsg_inner_kbin_ErrNotEnoughData)], narrowed := true }
def FnCutAssignReplicasToDirsRequestUptoSaid : Prop := fnCutAssignReplicasToDirsRequestUptoRow.holds Tryz.pinned (OpenSpec.upto fnCutAssignReplicasToDirsRequestSpec)

/-- 'laws.FnAgainInitializeShareGroupStateResponse', WHERE WHAT IT READS IS OF BULK AT MOST 1048576: true; the input reads as it did. -/
def fnAgainInitializeShareGroupStateResponseUptoRow : OpenClaim := { program := "ytgnajdficmndgaagreatdoor", sum := "f49029c80fcd76eeb6524c6f97d30a5182d8d7abec04b630c2bf7b692d7a2764", func := "pub-kmsg/laws.FnAgainInitializeShareGroupStateResponse", spec := "fnAgainInitializeShareGroupStateResponse", inPlace := ["internal/reflectlite.ValueOf", "internal/reflectlite.Swapper", "(internal/reflectlite.Value).Len"], unfollowed := true, recurses := true, named := ["encoding/binary.BigEndian", "pub-kmsg/pub/kmsg/inner/kbin.ErrNotEnoughData"], loops := true, apart := false, laid := [("pub-kmsg/pub/kmsg/inner/kbin.ErrNotEnoughData", laid_pub_kmsg_pub_kmsg_inner_kbin_ErrNotEnoughData)], narrowed := true }
def FnAgainInitializeShareGroupStateResponseUptoSaid : Prop := fnAgainInitializeShareGroupStateResponseUptoRow.holds Tryz.pinned (OpenSpec.upto fnAgainInitializeShareGroupStateResponseSpec)

/-- 'laws.FnAgainOffsetForLeaderEpochResponse', WHERE WHAT IT READS IS OF BULK AT MOST 1048576: true; the input reads as it did. -/
def fnAgainOffsetForLeaderEpochResponseUptoRow : OpenClaim := { program := "ytgnajdficmndgaagreatdoor", sum := "f49029c80fcd76eeb6524c6f97d30a5182d8d7abec04b630c2bf7b692d7a2764", func := "pub-kmsg/laws.FnAgainOffsetForLeaderEpochResponse", spec := "fnAgainOffsetForLeaderEpochResponse", inPlace := ["internal/reflectlite.ValueOf", "internal/reflectlite.Swapper", "(internal/reflectlite.Value).Len"], unfollowed := true, recurses := true, named := ["encoding/binary.BigEndian", "pub-kmsg/pub/kmsg/inner/kbin.ErrNotEnoughData"], loops := true, apart := false, laid := [("pub-kmsg/pub/kmsg/inner/kbin.ErrNotEnoughData", laid_pub_kmsg_pub_kmsg_inner_kbin_ErrNotEnoughData)], narrowed := true }
def FnAgainOffsetForLeaderEpochResponseUptoSaid : Prop := fnAgainOffsetForLeaderEpochResponseUptoRow.holds Tryz.pinned (OpenSpec.upto fnAgainOffsetForLeaderEpochResponseSpec)

/-- 'laws.FnCutAlterConfigsResponse', WHERE WHAT IT READS IS OF BULK AT MOST 1048576: true; the input reads as it did. -/
def fnCutAlterConfigsResponseUptoRow : OpenClaim := { program := "ytgnajdficmndgaagreatdoor", sum := "f49029c80fcd76eeb6524c6f97d30a5182d8d7abec04b630c2bf7b692d7a2764", func := "pub-kmsg/laws.FnCutAlterConfigsResponse", spec := "fnCutAlterConfigsResponse", inPlace := ["internal/reflectlite.ValueOf", "internal/reflectlite.Swapper", "(internal/reflectlite.Value).Len"], unfollowed := true, recurses := true, named := ["encoding/binary.BigEndian", "pub-kmsg/pub/kmsg/inner/kbin.ErrNotEnoughData"], loops := true, apart := false, laid := [("pub-kmsg/pub/kmsg/inner/kbin.ErrNotEnoughData", laid_pub_kmsg_pub_kmsg_inner_kbin_ErrNotEnoughData)], narrowed := true }
def FnCutAlterConfigsResponseUptoSaid : Prop := fnCutAlterConfigsResponseUptoRow.holds Tryz.pinned (OpenSpec.upto fnCutAlterConfigsResponseSpec)

/-- 'laws.FnAgainDeleteTopicsResponse', WHERE WHAT IT READS IS OF BULK AT MOST 1048576: true; the input reads as it did. -/
def fnAgainDeleteTopicsResponseUptoRow : OpenClaim := { program := "ytgnajdficmndgaagreatdoor", sum := "f49029c80fcd76eeb6524c6f97d30a5182d8d7abec04b630c2bf7b692d7a2764", func := "pub-kmsg/laws.FnAgainDeleteTopicsResponse", spec := "fnAgainDeleteTopicsResponse", inPlace := ["internal/reflectlite.ValueOf", "internal/reflectlite.Swapper", "(internal/reflectlite.Value).Len"], unfollowed := true, recurses := true, named := ["encoding/binary.BigEndian", "pub-kmsg/pub/kmsg/inner/kbin.ErrNotEnoughData"], loops := true, apart := false, laid := [("pub-kmsg/pub/kmsg/inner/kbin.ErrNotEnoughData", laid_pub_kmsg_pub_kmsg_inner_kbin_ErrNotEnoughData)], narrowed := true }
def FnAgainDeleteTopicsResponseUptoSaid : Prop := fnAgainDeleteTopicsResponseUptoRow.holds Tryz.pinned (OpenSpec.upto fnAgainDeleteTopicsResponseSpec)

end Rows
end Go.Proofs.YtgnajdficmndgaaGreatDoor
