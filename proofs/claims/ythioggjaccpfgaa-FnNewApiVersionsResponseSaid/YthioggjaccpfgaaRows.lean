/-
  No cell of these rows narrows 'for every input' (looked for: loops, veiled, ifaces, maps, wideKeys, modest, calm, conditions, laid).
  DERIVED. THE GIVEN ROWS OF THIS SEAT. 9 by the template 'for every input the law returns true; each argument reads behind the call as it read before'; 0 by the template 'total and deterministic' (their statements: YthioggjaccpfgaaTotals.lean).
  GIVEN WITH THE SEED: the statements are not yours to turn. If you find one false, say at which input.
  Laid BY PROGRAM, IN A SANDBOX (cutbox-rows.mjs): the forced cells as the released guide's own fill.sh prints them over the translation 0ed65dde3ea37369… (all of the seat's roots in one cut). By AI agents, Wed Nov 11 2026. No macro, syntax, notation, axiom, sorry.
-/
import Derived.Test.YthioggjaccpfgaaChecked
import GoSem.Claim
import GoSem.ClaimJoined
import GoSem.ClaimMapViews
import Derived.JoinedTies
import Derived.KernelRfl
namespace Go.Proofs.Ythioggjaccpfgaa
/- THE CELL 'sum', in the pinned program and in every row, IS THE sha256 OF THE DUMP (.gsa) THAT YthioggjaccpfgaaProg.lean LOADS. Nothing in Lean hashes anything: it is a label: what it is worth is what the hold of that sum in a sandbox is worth. -/
noncomputable def Try.pinned : Pinned := { name := "ythioggjaccpfgaa", sum := "0ed65dde3ea37369657e02c05f2b4c3236018856a3d08a25ae067c2084184564", checked := Try.checked }
namespace Rows
def none {H : Type} : Left H := { results := [], args := [] }

/-- 'laws.FnNewDescribeClientQuotasRequest': WHATEVER THE INPUT: true; the input reads as it did. -/
def fnNewDescribeClientQuotasRequestSpec : ChangeSpec := { name := "fnNewDescribeClientQuotasRequest", fn := fun _ => fun
  | [d] => { results := [.lit (.bool true)], args := [d] }
  | _ => none }
def fnNewDescribeClientQuotasRequestRow : OpenClaim := { program := "ythioggjaccpfgaa", sum := "0ed65dde3ea37369657e02c05f2b4c3236018856a3d08a25ae067c2084184564", func := "pub-kmsg/laws.FnNewDescribeClientQuotasRequest", spec := "fnNewDescribeClientQuotasRequest", inPlace := ["internal/reflectlite.ValueOf", "internal/reflectlite.Swapper", "(internal/reflectlite.Value).Len"], unfollowed := true, recurses := true, apart := false }
def FnNewDescribeClientQuotasRequestSaid : Prop := fnNewDescribeClientQuotasRequestRow.holds Try.pinned (OpenSpec.ofChange fnNewDescribeClientQuotasRequestSpec)

/-- ITS FALSE NEIGHBOUR: 'it returns false'. Refute it at one input. -/
def fnNewDescribeClientQuotasRequestWrong : ChangeSpec := { name := "fnNewDescribeClientQuotasRequest", fn := fun _ => fun
  | [d] => { results := [.lit (.bool false)], args := [d] }
  | _ => none }
def FnNewDescribeClientQuotasRequestWrongFalsely : Prop := fnNewDescribeClientQuotasRequestRow.holds Try.pinned (OpenSpec.ofChange fnNewDescribeClientQuotasRequestWrong)

/-- 'laws.FnNewListTransactionsResponse': WHATEVER THE INPUT: true; the input reads as it did. -/
def fnNewListTransactionsResponseSpec : ChangeSpec := { name := "fnNewListTransactionsResponse", fn := fun _ => fun
  | [d] => { results := [.lit (.bool true)], args := [d] }
  | _ => none }
def fnNewListTransactionsResponseRow : OpenClaim := { program := "ythioggjaccpfgaa", sum := "0ed65dde3ea37369657e02c05f2b4c3236018856a3d08a25ae067c2084184564", func := "pub-kmsg/laws.FnNewListTransactionsResponse", spec := "fnNewListTransactionsResponse", inPlace := ["internal/reflectlite.ValueOf", "internal/reflectlite.Swapper", "(internal/reflectlite.Value).Len"], unfollowed := true, recurses := true, apart := false }
def FnNewListTransactionsResponseSaid : Prop := fnNewListTransactionsResponseRow.holds Try.pinned (OpenSpec.ofChange fnNewListTransactionsResponseSpec)

/-- ITS FALSE NEIGHBOUR: 'it returns false'. Refute it at one input. -/
def fnNewListTransactionsResponseWrong : ChangeSpec := { name := "fnNewListTransactionsResponse", fn := fun _ => fun
  | [d] => { results := [.lit (.bool false)], args := [d] }
  | _ => none }
def FnNewListTransactionsResponseWrongFalsely : Prop := fnNewListTransactionsResponseRow.holds Try.pinned (OpenSpec.ofChange fnNewListTransactionsResponseWrong)

/-- 'laws.FnNewAlterConfigsRequest': WHATEVER THE INPUT: true; the input reads as it did. -/
def fnNewAlterConfigsRequestSpec : ChangeSpec := { name := "fnNewAlterConfigsRequest", fn := fun _ => fun
  | [d] => { results := [.lit (.bool true)], args := [d] }
  | _ => none }
def fnNewAlterConfigsRequestRow : OpenClaim := { program := "ythioggjaccpfgaa", sum := "0ed65dde3ea37369657e02c05f2b4c3236018856a3d08a25ae067c2084184564", func := "pub-kmsg/laws.FnNewAlterConfigsRequest", spec := "fnNewAlterConfigsRequest", inPlace := ["internal/reflectlite.ValueOf", "internal/reflectlite.Swapper", "(internal/reflectlite.Value).Len"], unfollowed := true, recurses := true, apart := false }
def FnNewAlterConfigsRequestSaid : Prop := fnNewAlterConfigsRequestRow.holds Try.pinned (OpenSpec.ofChange fnNewAlterConfigsRequestSpec)

/-- ITS FALSE NEIGHBOUR: 'it returns false'. Refute it at one input. -/
def fnNewAlterConfigsRequestWrong : ChangeSpec := { name := "fnNewAlterConfigsRequest", fn := fun _ => fun
  | [d] => { results := [.lit (.bool false)], args := [d] }
  | _ => none }
def FnNewAlterConfigsRequestWrongFalsely : Prop := fnNewAlterConfigsRequestRow.holds Try.pinned (OpenSpec.ofChange fnNewAlterConfigsRequestWrong)

/-- 'laws.FnNewFindCoordinatorResponse': WHATEVER THE INPUT: true; the input reads as it did. -/
def fnNewFindCoordinatorResponseSpec : ChangeSpec := { name := "fnNewFindCoordinatorResponse", fn := fun _ => fun
  | [d] => { results := [.lit (.bool true)], args := [d] }
  | _ => none }
def fnNewFindCoordinatorResponseRow : OpenClaim := { program := "ythioggjaccpfgaa", sum := "0ed65dde3ea37369657e02c05f2b4c3236018856a3d08a25ae067c2084184564", func := "pub-kmsg/laws.FnNewFindCoordinatorResponse", spec := "fnNewFindCoordinatorResponse", inPlace := ["internal/reflectlite.ValueOf", "internal/reflectlite.Swapper", "(internal/reflectlite.Value).Len"], unfollowed := true, recurses := true, apart := false }
def FnNewFindCoordinatorResponseSaid : Prop := fnNewFindCoordinatorResponseRow.holds Try.pinned (OpenSpec.ofChange fnNewFindCoordinatorResponseSpec)

/-- ITS FALSE NEIGHBOUR: 'it returns false'. Refute it at one input. -/
def fnNewFindCoordinatorResponseWrong : ChangeSpec := { name := "fnNewFindCoordinatorResponse", fn := fun _ => fun
  | [d] => { results := [.lit (.bool false)], args := [d] }
  | _ => none }
def FnNewFindCoordinatorResponseWrongFalsely : Prop := fnNewFindCoordinatorResponseRow.holds Try.pinned (OpenSpec.ofChange fnNewFindCoordinatorResponseWrong)

/-- 'laws.FnNewDescribeProducersResponse': WHATEVER THE INPUT: true; the input reads as it did. -/
def fnNewDescribeProducersResponseSpec : ChangeSpec := { name := "fnNewDescribeProducersResponse", fn := fun _ => fun
  | [d] => { results := [.lit (.bool true)], args := [d] }
  | _ => none }
def fnNewDescribeProducersResponseRow : OpenClaim := { program := "ythioggjaccpfgaa", sum := "0ed65dde3ea37369657e02c05f2b4c3236018856a3d08a25ae067c2084184564", func := "pub-kmsg/laws.FnNewDescribeProducersResponse", spec := "fnNewDescribeProducersResponse", inPlace := ["internal/reflectlite.ValueOf", "internal/reflectlite.Swapper", "(internal/reflectlite.Value).Len"], unfollowed := true, recurses := true, apart := false }
def FnNewDescribeProducersResponseSaid : Prop := fnNewDescribeProducersResponseRow.holds Try.pinned (OpenSpec.ofChange fnNewDescribeProducersResponseSpec)

/-- ITS FALSE NEIGHBOUR: 'it returns false'. Refute it at one input. -/
def fnNewDescribeProducersResponseWrong : ChangeSpec := { name := "fnNewDescribeProducersResponse", fn := fun _ => fun
  | [d] => { results := [.lit (.bool false)], args := [d] }
  | _ => none }
def FnNewDescribeProducersResponseWrongFalsely : Prop := fnNewDescribeProducersResponseRow.holds Try.pinned (OpenSpec.ofChange fnNewDescribeProducersResponseWrong)

/-- 'laws.FnNewDeleteACLsResponse': WHATEVER THE INPUT: true; the input reads as it did. -/
def fnNewDeleteACLsResponseSpec : ChangeSpec := { name := "fnNewDeleteACLsResponse", fn := fun _ => fun
  | [d] => { results := [.lit (.bool true)], args := [d] }
  | _ => none }
def fnNewDeleteACLsResponseRow : OpenClaim := { program := "ythioggjaccpfgaa", sum := "0ed65dde3ea37369657e02c05f2b4c3236018856a3d08a25ae067c2084184564", func := "pub-kmsg/laws.FnNewDeleteACLsResponse", spec := "fnNewDeleteACLsResponse", inPlace := ["internal/reflectlite.ValueOf", "internal/reflectlite.Swapper", "(internal/reflectlite.Value).Len"], unfollowed := true, recurses := true, apart := false }
def FnNewDeleteACLsResponseSaid : Prop := fnNewDeleteACLsResponseRow.holds Try.pinned (OpenSpec.ofChange fnNewDeleteACLsResponseSpec)

/-- ITS FALSE NEIGHBOUR: 'it returns false'. Refute it at one input. -/
def fnNewDeleteACLsResponseWrong : ChangeSpec := { name := "fnNewDeleteACLsResponse", fn := fun _ => fun
  | [d] => { results := [.lit (.bool false)], args := [d] }
  | _ => none }
def FnNewDeleteACLsResponseWrongFalsely : Prop := fnNewDeleteACLsResponseRow.holds Try.pinned (OpenSpec.ofChange fnNewDeleteACLsResponseWrong)

/-- 'laws.FnNewEndQuorumEpochRequest': WHATEVER THE INPUT: true; the input reads as it did. -/
def fnNewEndQuorumEpochRequestSpec : ChangeSpec := { name := "fnNewEndQuorumEpochRequest", fn := fun _ => fun
  | [d] => { results := [.lit (.bool true)], args := [d] }
  | _ => none }
def fnNewEndQuorumEpochRequestRow : OpenClaim := { program := "ythioggjaccpfgaa", sum := "0ed65dde3ea37369657e02c05f2b4c3236018856a3d08a25ae067c2084184564", func := "pub-kmsg/laws.FnNewEndQuorumEpochRequest", spec := "fnNewEndQuorumEpochRequest", inPlace := ["internal/reflectlite.ValueOf", "internal/reflectlite.Swapper", "(internal/reflectlite.Value).Len"], unfollowed := true, recurses := true, apart := false }
def FnNewEndQuorumEpochRequestSaid : Prop := fnNewEndQuorumEpochRequestRow.holds Try.pinned (OpenSpec.ofChange fnNewEndQuorumEpochRequestSpec)

/-- ITS FALSE NEIGHBOUR: 'it returns false'. Refute it at one input. -/
def fnNewEndQuorumEpochRequestWrong : ChangeSpec := { name := "fnNewEndQuorumEpochRequest", fn := fun _ => fun
  | [d] => { results := [.lit (.bool false)], args := [d] }
  | _ => none }
def FnNewEndQuorumEpochRequestWrongFalsely : Prop := fnNewEndQuorumEpochRequestRow.holds Try.pinned (OpenSpec.ofChange fnNewEndQuorumEpochRequestWrong)

/-- 'laws.FnNewApiVersionsResponse': WHATEVER THE INPUT: true; the input reads as it did. -/
def fnNewApiVersionsResponseSpec : ChangeSpec := { name := "fnNewApiVersionsResponse", fn := fun _ => fun
  | [d] => { results := [.lit (.bool true)], args := [d] }
  | _ => none }
def fnNewApiVersionsResponseRow : OpenClaim := { program := "ythioggjaccpfgaa", sum := "0ed65dde3ea37369657e02c05f2b4c3236018856a3d08a25ae067c2084184564", func := "pub-kmsg/laws.FnNewApiVersionsResponse", spec := "fnNewApiVersionsResponse", inPlace := ["internal/reflectlite.ValueOf", "internal/reflectlite.Swapper", "(internal/reflectlite.Value).Len"], unfollowed := true, recurses := true, apart := false }
def FnNewApiVersionsResponseSaid : Prop := fnNewApiVersionsResponseRow.holds Try.pinned (OpenSpec.ofChange fnNewApiVersionsResponseSpec)

/-- ITS FALSE NEIGHBOUR: 'it returns false'. Refute it at one input. -/
def fnNewApiVersionsResponseWrong : ChangeSpec := { name := "fnNewApiVersionsResponse", fn := fun _ => fun
  | [d] => { results := [.lit (.bool false)], args := [d] }
  | _ => none }
def FnNewApiVersionsResponseWrongFalsely : Prop := fnNewApiVersionsResponseRow.holds Try.pinned (OpenSpec.ofChange fnNewApiVersionsResponseWrong)

/-- 'laws.FnNewLeaderAndISRRequest': WHATEVER THE INPUT: true; the input reads as it did. -/
def fnNewLeaderAndISRRequestSpec : ChangeSpec := { name := "fnNewLeaderAndISRRequest", fn := fun _ => fun
  | [d] => { results := [.lit (.bool true)], args := [d] }
  | _ => none }
def fnNewLeaderAndISRRequestRow : OpenClaim := { program := "ythioggjaccpfgaa", sum := "0ed65dde3ea37369657e02c05f2b4c3236018856a3d08a25ae067c2084184564", func := "pub-kmsg/laws.FnNewLeaderAndISRRequest", spec := "fnNewLeaderAndISRRequest", inPlace := ["internal/reflectlite.ValueOf", "internal/reflectlite.Swapper", "(internal/reflectlite.Value).Len"], unfollowed := true, recurses := true, apart := false }
def FnNewLeaderAndISRRequestSaid : Prop := fnNewLeaderAndISRRequestRow.holds Try.pinned (OpenSpec.ofChange fnNewLeaderAndISRRequestSpec)

/-- ITS FALSE NEIGHBOUR: 'it returns false'. Refute it at one input. -/
def fnNewLeaderAndISRRequestWrong : ChangeSpec := { name := "fnNewLeaderAndISRRequest", fn := fun _ => fun
  | [d] => { results := [.lit (.bool false)], args := [d] }
  | _ => none }
def FnNewLeaderAndISRRequestWrongFalsely : Prop := fnNewLeaderAndISRRequestRow.holds Try.pinned (OpenSpec.ofChange fnNewLeaderAndISRRequestWrong)

/- THE SECOND FORM. 'bulk': how many values and letters a reading holds, each counted each time it is reached (what is shared counts as often as it is met; a slice's spare places count too). A statement '..UptoSaid' is the law's where the arguments, and the package variables that the reading takes, are together of bulk at most 1048576: NARROWER than '..Said'. Prove '..Said' where nothing that the law and all that it calls make is longer than what came in: it says more and counts as full. Else prove '..UptoSaid'. A law counts once. -/
mutual
def uptoBulk {H : Type} : DataW H → Nat
  | .lit (.string bytes) => bytes.length + 1
  | .lit _ => 1
  | .nil => 1
  | .ptr d => uptoBulk d + 1
  | .slice elems spare => uptoBulkAll elems + uptoBulkAll spare + 1
  | .agg parts => uptoBulkAll parts + 1
  | .iface _ d => uptoBulk d + 1
  | .map entries => uptoBulkEntries entries + 1
  | .held _ => 1
def uptoBulkAll {H : Type} : List (DataW H) → Nat
  | [] => 0
  | d :: r => uptoBulk d + uptoBulkAll r
def uptoBulkEntries {H : Type} : List (Lit × DataW H) → Nat
  | [] => 0
  | x :: r => uptoBulkEntry x + uptoBulkEntries r
def uptoBulkEntry {H : Type} : Lit × DataW H → Nat
  | (.string bytes, d) => bytes.length + uptoBulk d + 1
  | (_, d) => uptoBulk d + 1
 end
def uptoSmall : (H : Type) → List (DataW H) → Bool := fun _ ds => decide (uptoBulkAll ds ≤ 1048576)
def OpenSpec.upto (s : _root_.Go.ChangeSpec) : _root_.Go.OpenSpec := { _root_.Go.OpenSpec.ofChange s with cond := some uptoSmall }

/-- 'laws.FnNewDescribeClientQuotasRequest', WHERE WHAT IT READS IS OF BULK AT MOST 1048576: true; the input reads as it did. -/
def fnNewDescribeClientQuotasRequestUptoRow : OpenClaim := { program := "ythioggjaccpfgaa", sum := "0ed65dde3ea37369657e02c05f2b4c3236018856a3d08a25ae067c2084184564", func := "pub-kmsg/laws.FnNewDescribeClientQuotasRequest", spec := "fnNewDescribeClientQuotasRequest", inPlace := ["internal/reflectlite.ValueOf", "internal/reflectlite.Swapper", "(internal/reflectlite.Value).Len"], unfollowed := true, recurses := true, apart := false, narrowed := true }
def FnNewDescribeClientQuotasRequestUptoSaid : Prop := fnNewDescribeClientQuotasRequestUptoRow.holds Try.pinned (OpenSpec.upto fnNewDescribeClientQuotasRequestSpec)

/-- 'laws.FnNewListTransactionsResponse', WHERE WHAT IT READS IS OF BULK AT MOST 1048576: true; the input reads as it did. -/
def fnNewListTransactionsResponseUptoRow : OpenClaim := { program := "ythioggjaccpfgaa", sum := "0ed65dde3ea37369657e02c05f2b4c3236018856a3d08a25ae067c2084184564", func := "pub-kmsg/laws.FnNewListTransactionsResponse", spec := "fnNewListTransactionsResponse", inPlace := ["internal/reflectlite.ValueOf", "internal/reflectlite.Swapper", "(internal/reflectlite.Value).Len"], unfollowed := true, recurses := true, apart := false, narrowed := true }
def FnNewListTransactionsResponseUptoSaid : Prop := fnNewListTransactionsResponseUptoRow.holds Try.pinned (OpenSpec.upto fnNewListTransactionsResponseSpec)

/-- 'laws.FnNewAlterConfigsRequest', WHERE WHAT IT READS IS OF BULK AT MOST 1048576: true; the input reads as it did. -/
def fnNewAlterConfigsRequestUptoRow : OpenClaim := { program := "ythioggjaccpfgaa", sum := "0ed65dde3ea37369657e02c05f2b4c3236018856a3d08a25ae067c2084184564", func := "pub-kmsg/laws.FnNewAlterConfigsRequest", spec := "fnNewAlterConfigsRequest", inPlace := ["internal/reflectlite.ValueOf", "internal/reflectlite.Swapper", "(internal/reflectlite.Value).Len"], unfollowed := true, recurses := true, apart := false, narrowed := true }
def FnNewAlterConfigsRequestUptoSaid : Prop := fnNewAlterConfigsRequestUptoRow.holds Try.pinned (OpenSpec.upto fnNewAlterConfigsRequestSpec)

/-- 'laws.FnNewFindCoordinatorResponse', WHERE WHAT IT READS IS OF BULK AT MOST 1048576: true; the input reads as it did. -/
def fnNewFindCoordinatorResponseUptoRow : OpenClaim := { program := "ythioggjaccpfgaa", sum := "0ed65dde3ea37369657e02c05f2b4c3236018856a3d08a25ae067c2084184564", func := "pub-kmsg/laws.FnNewFindCoordinatorResponse", spec := "fnNewFindCoordinatorResponse", inPlace := ["internal/reflectlite.ValueOf", "internal/reflectlite.Swapper", "(internal/reflectlite.Value).Len"], unfollowed := true, recurses := true, apart := false, narrowed := true }
def FnNewFindCoordinatorResponseUptoSaid : Prop := fnNewFindCoordinatorResponseUptoRow.holds Try.pinned (OpenSpec.upto fnNewFindCoordinatorResponseSpec)

/-- 'laws.FnNewDescribeProducersResponse', WHERE WHAT IT READS IS OF BULK AT MOST 1048576: true; the input reads as it did. -/
def fnNewDescribeProducersResponseUptoRow : OpenClaim := { program := "ythioggjaccpfgaa", sum := "0ed65dde3ea37369657e02c05f2b4c3236018856a3d08a25ae067c2084184564", func := "pub-kmsg/laws.FnNewDescribeProducersResponse", spec := "fnNewDescribeProducersResponse", inPlace := ["internal/reflectlite.ValueOf", "internal/reflectlite.Swapper", "(internal/reflectlite.Value).Len"], unfollowed := true, recurses := true, apart := false, narrowed := true }
def FnNewDescribeProducersResponseUptoSaid : Prop := fnNewDescribeProducersResponseUptoRow.holds Try.pinned (OpenSpec.upto fnNewDescribeProducersResponseSpec)

/-- 'laws.FnNewDeleteACLsResponse', WHERE WHAT IT READS IS OF BULK AT MOST 1048576: true; the input reads as it did. -/
def fnNewDeleteACLsResponseUptoRow : OpenClaim := { program := "ythioggjaccpfgaa", sum := "0ed65dde3ea37369657e02c05f2b4c3236018856a3d08a25ae067c2084184564", func := "pub-kmsg/laws.FnNewDeleteACLsResponse", spec := "fnNewDeleteACLsResponse", inPlace := ["internal/reflectlite.ValueOf", "internal/reflectlite.Swapper", "(internal/reflectlite.Value).Len"], unfollowed := true, recurses := true, apart := false, narrowed := true }
def FnNewDeleteACLsResponseUptoSaid : Prop := fnNewDeleteACLsResponseUptoRow.holds Try.pinned (OpenSpec.upto fnNewDeleteACLsResponseSpec)

/-- 'laws.FnNewEndQuorumEpochRequest', WHERE WHAT IT READS IS OF BULK AT MOST 1048576: true; the input reads as it did. -/
def fnNewEndQuorumEpochRequestUptoRow : OpenClaim := { program := "ythioggjaccpfgaa", sum := "0ed65dde3ea37369657e02c05f2b4c3236018856a3d08a25ae067c2084184564", func := "pub-kmsg/laws.FnNewEndQuorumEpochRequest", spec := "fnNewEndQuorumEpochRequest", inPlace := ["internal/reflectlite.ValueOf", "internal/reflectlite.Swapper", "(internal/reflectlite.Value).Len"], unfollowed := true, recurses := true, apart := false, narrowed := true }
def FnNewEndQuorumEpochRequestUptoSaid : Prop := fnNewEndQuorumEpochRequestUptoRow.holds Try.pinned (OpenSpec.upto fnNewEndQuorumEpochRequestSpec)

/-- 'laws.FnNewApiVersionsResponse', WHERE WHAT IT READS IS OF BULK AT MOST 1048576: true; the input reads as it did. -/
def fnNewApiVersionsResponseUptoRow : OpenClaim := { program := "ythioggjaccpfgaa", sum := "0ed65dde3ea37369657e02c05f2b4c3236018856a3d08a25ae067c2084184564", func := "pub-kmsg/laws.FnNewApiVersionsResponse", spec := "fnNewApiVersionsResponse", inPlace := ["internal/reflectlite.ValueOf", "internal/reflectlite.Swapper", "(internal/reflectlite.Value).Len"], unfollowed := true, recurses := true, apart := false, narrowed := true }
def FnNewApiVersionsResponseUptoSaid : Prop := fnNewApiVersionsResponseUptoRow.holds Try.pinned (OpenSpec.upto fnNewApiVersionsResponseSpec)

/-- 'laws.FnNewLeaderAndISRRequest', WHERE WHAT IT READS IS OF BULK AT MOST 1048576: true; the input reads as it did. -/
def fnNewLeaderAndISRRequestUptoRow : OpenClaim := { program := "ythioggjaccpfgaa", sum := "0ed65dde3ea37369657e02c05f2b4c3236018856a3d08a25ae067c2084184564", func := "pub-kmsg/laws.FnNewLeaderAndISRRequest", spec := "fnNewLeaderAndISRRequest", inPlace := ["internal/reflectlite.ValueOf", "internal/reflectlite.Swapper", "(internal/reflectlite.Value).Len"], unfollowed := true, recurses := true, apart := false, narrowed := true }
def FnNewLeaderAndISRRequestUptoSaid : Prop := fnNewLeaderAndISRRequestUptoRow.holds Try.pinned (OpenSpec.upto fnNewLeaderAndISRRequestSpec)

end Rows
end Go.Proofs.Ythioggjaccpfgaa
