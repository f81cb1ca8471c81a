/-
  NARROWER THAN 'FOR EVERY INPUT', by the rows' own cells (each row's printed sentence says how): FnAnyVoteRequest: laid · FnAnySyncGroupResponse: laid · FnAnyCreateACLsResponse: laid · FnAnyListConfigResourcesResponse: laid · FnAnyDeleteShareGroupOffsetsRequest: laid · FnAnyReadShareGroupStateSummaryResponse: laid · FnAnyAlterPartitionResponse: laid · FnAnyIncrementalAlterConfigsRequest: laid · FnAnyAddPartitionsToTxnRequest: laid · FnAnyDescribeConfigsResponse: laid · FnAnyDescribeTopicPartitionsRequest: laid.
  DERIVED. THE GIVEN ROWS OF THIS SEAT. 11 by the template 'for every input the law returns true; each argument reads behind the call as it read before'; 0 by the template 'total and deterministic' (their statements: YteaoablcbhlllaaDoorTotals.lean).
  GIVEN WITH THE SEED: the statements are not yours to turn. If you find one false, say at which input.
  Laid BY PROGRAM, IN A SANDBOX (cutbox-rows.mjs): the forced cells as the released guide's own fill.sh prints them over the translation b495993c079ecc89… (all of the seat's roots in one cut). By AI agents, Wed Nov 11 2026. No macro, syntax, notation, axiom, sorry.
-/
import Derived.Test.YteaoablcbhlllaaDoorChecked
import GoSem.Claim
import GoSem.ClaimJoined
import GoSem.ClaimMapViews
import Derived.JoinedTies
import Derived.KernelRfl
namespace Go.Proofs.YteaoablcbhlllaaDoor
/- THE CELL 'sum', in the pinned program and in every row, IS THE sha256 OF THE DUMP (.gsa) THAT YteaoablcbhlllaaDoorProg.lean LOADS. Nothing in Lean hashes anything: it is a label: what it is worth is what the hold of that sum in a sandbox is worth. -/
noncomputable def Tryd.pinned : Pinned := { name := "yteaoablcbhlllaadoor", sum := "b495993c079ecc890b2be932a3a0359e56eb0012aa15fda9477a932a7507f521", checked := Tryd.checked }
namespace Rows
def none {H : Type} : Left H := { results := [], args := [] }

/- WHAT THE LISTED PACKAGE-LEVEL VARIABLES READ AS WHEN THE CALL BEGINS. Each datum BY PROGRAM (the guide's laid-datum.mjs) off the statement by which the dump's own 'gosem.cut.vars' lays the variable. In a bare row this is a premise. The card (YteaoablcbhlllaaDoorCards.lean) ties it to the program's text. -/
def laid_pub_kmsg_pub_kmsg_inner_kbin_ErrNotEnoughData {H : Type} : DataW H := .iface "*errors.errorString" (.ptr (.agg [.lit (.string [114, 101, 115, 112, 111, 110, 115, 101, 32, 100, 105, 100, 32, 110, 111, 116, 32, 99, 111, 110, 116, 97, 105, 110, 32, 101, 110, 111, 117, 103, 104, 32, 100, 97, 116, 97, 32, 116, 111, 32, 98, 101, 32, 118, 97, 108, 105, 100])]))

/-- 'laws.FnAnyVoteRequest': WHATEVER THE INPUT: true; the input reads as it did. -/
def fnAnyVoteRequestSpec : ChangeSpec := { name := "fnAnyVoteRequest", fn := fun _ => fun
  | [d1, d2] => { results := [.lit (.bool true)], args := [d1, d2] }
  | _ => none }
def fnAnyVoteRequestRow : OpenClaim := { program := "yteaoablcbhlllaadoor", sum := "b495993c079ecc890b2be932a3a0359e56eb0012aa15fda9477a932a7507f521", func := "pub-kmsg/laws.FnAnyVoteRequest", spec := "fnAnyVoteRequest", inPlace := ["internal/reflectlite.ValueOf", "internal/reflectlite.Swapper", "(internal/reflectlite.Value).Len"], unfollowed := true, recurses := true, named := ["encoding/binary.BigEndian", "pub-kmsg/pub/kmsg/inner/kbin.ErrNotEnoughData"], apart := false, laid := [("pub-kmsg/pub/kmsg/inner/kbin.ErrNotEnoughData", laid_pub_kmsg_pub_kmsg_inner_kbin_ErrNotEnoughData)] }
def FnAnyVoteRequestSaid : Prop := fnAnyVoteRequestRow.holds Tryd.pinned (OpenSpec.ofChange fnAnyVoteRequestSpec)

/-- ITS FALSE NEIGHBOUR: 'it returns false'. Refute it at one input. -/
def fnAnyVoteRequestWrong : ChangeSpec := { name := "fnAnyVoteRequest", fn := fun _ => fun
  | [d1, d2] => { results := [.lit (.bool false)], args := [d1, d2] }
  | _ => none }
def FnAnyVoteRequestWrongFalsely : Prop := fnAnyVoteRequestRow.holds Tryd.pinned (OpenSpec.ofChange fnAnyVoteRequestWrong)

/-- 'laws.FnAnySyncGroupResponse': WHATEVER THE INPUT: true; the input reads as it did. -/
def fnAnySyncGroupResponseSpec : ChangeSpec := { name := "fnAnySyncGroupResponse", fn := fun _ => fun
  | [d1, d2] => { results := [.lit (.bool true)], args := [d1, d2] }
  | _ => none }
def fnAnySyncGroupResponseRow : OpenClaim := { program := "yteaoablcbhlllaadoor", sum := "b495993c079ecc890b2be932a3a0359e56eb0012aa15fda9477a932a7507f521", func := "pub-kmsg/laws.FnAnySyncGroupResponse", spec := "fnAnySyncGroupResponse", inPlace := ["internal/reflectlite.ValueOf", "internal/reflectlite.Swapper", "(internal/reflectlite.Value).Len"], unfollowed := true, recurses := true, named := ["encoding/binary.BigEndian", "pub-kmsg/pub/kmsg/inner/kbin.ErrNotEnoughData"], apart := false, laid := [("pub-kmsg/pub/kmsg/inner/kbin.ErrNotEnoughData", laid_pub_kmsg_pub_kmsg_inner_kbin_ErrNotEnoughData)] }
def FnAnySyncGroupResponseSaid : Prop := fnAnySyncGroupResponseRow.holds Tryd.pinned (OpenSpec.ofChange fnAnySyncGroupResponseSpec)

/-- ITS FALSE NEIGHBOUR: 'it returns false'. Refute it at one input. -/
def fnAnySyncGroupResponseWrong : ChangeSpec := { name := "fnAnySyncGroupResponse", fn := fun _ => fun
  | [d1, d2] => { results := [.lit (.bool false)], args := [d1, d2] }
  | _ => none }
def FnAnySyncGroupResponseWrongFalsely : Prop := fnAnySyncGroupResponseRow.holds Tryd.pinned (OpenSpec.ofChange fnAnySyncGroupResponseWrong)

/-- 'laws.FnAnyCreateACLsResponse': WHATEVER THE INPUT: true; the input reads as it did. -/
def fnAnyCreateACLsResponseSpec : ChangeSpec := { name := "fnAnyCreateACLsResponse", fn := fun _ => fun
  | [d1, d2] => { results := [.lit (.bool true)], args := [d1, d2] }
  | _ => none }
def fnAnyCreateACLsResponseRow : OpenClaim := { program := "yteaoablcbhlllaadoor", sum := "b495993c079ecc890b2be932a3a0359e56eb0012aa15fda9477a932a7507f521", func := "pub-kmsg/laws.FnAnyCreateACLsResponse", spec := "fnAnyCreateACLsResponse", inPlace := ["internal/reflectlite.ValueOf", "internal/reflectlite.Swapper", "(internal/reflectlite.Value).Len"], unfollowed := true, recurses := true, named := ["encoding/binary.BigEndian", "pub-kmsg/pub/kmsg/inner/kbin.ErrNotEnoughData"], apart := false, laid := [("pub-kmsg/pub/kmsg/inner/kbin.ErrNotEnoughData", laid_pub_kmsg_pub_kmsg_inner_kbin_ErrNotEnoughData)] }
def FnAnyCreateACLsResponseSaid : Prop := fnAnyCreateACLsResponseRow.holds Tryd.pinned (OpenSpec.ofChange fnAnyCreateACLsResponseSpec)

/-- ITS FALSE NEIGHBOUR: 'it returns false'. Refute it at one input. -/
def fnAnyCreateACLsResponseWrong : ChangeSpec := { name := "fnAnyCreateACLsResponse", fn := fun _ => fun
  | [d1, d2] => { results := [.lit (.bool false)], args := [d1, d2] }
  | _ => none }
def FnAnyCreateACLsResponseWrongFalsely : Prop := fnAnyCreateACLsResponseRow.holds Tryd.pinned (OpenSpec.ofChange fnAnyCreateACLsResponseWrong)

/-- 'laws.FnAnyListConfigResourcesResponse': WHATEVER THE INPUT: true; the input reads as it did. -/
def fnAnyListConfigResourcesResponseSpec : ChangeSpec := { name := "fnAnyListConfigResourcesResponse", fn := fun _ => fun
  | [d1, d2] => { results := [.lit (.bool true)], args := [d1, d2] }
  | _ => none }
def fnAnyListConfigResourcesResponseRow : OpenClaim := { program := "yteaoablcbhlllaadoor", sum := "b495993c079ecc890b2be932a3a0359e56eb0012aa15fda9477a932a7507f521", func := "pub-kmsg/laws.FnAnyListConfigResourcesResponse", spec := "fnAnyListConfigResourcesResponse", inPlace := ["internal/reflectlite.ValueOf", "internal/reflectlite.Swapper", "(internal/reflectlite.Value).Len"], unfollowed := true, recurses := true, named := ["encoding/binary.BigEndian", "pub-kmsg/pub/kmsg/inner/kbin.ErrNotEnoughData"], apart := false, laid := [("pub-kmsg/pub/kmsg/inner/kbin.ErrNotEnoughData", laid_pub_kmsg_pub_kmsg_inner_kbin_ErrNotEnoughData)] }
def FnAnyListConfigResourcesResponseSaid : Prop := fnAnyListConfigResourcesResponseRow.holds Tryd.pinned (OpenSpec.ofChange fnAnyListConfigResourcesResponseSpec)

/-- ITS FALSE NEIGHBOUR: 'it returns false'. Refute it at one input. -/
def fnAnyListConfigResourcesResponseWrong : ChangeSpec := { name := "fnAnyListConfigResourcesResponse", fn := fun _ => fun
  | [d1, d2] => { results := [.lit (.bool false)], args := [d1, d2] }
  | _ => none }
def FnAnyListConfigResourcesResponseWrongFalsely : Prop := fnAnyListConfigResourcesResponseRow.holds Tryd.pinned (OpenSpec.ofChange fnAnyListConfigResourcesResponseWrong)

/-- 'laws.FnAnyDeleteShareGroupOffsetsRequest': WHATEVER THE INPUT: true; the input reads as it did. -/
def fnAnyDeleteShareGroupOffsetsRequestSpec : ChangeSpec := { name := "fnAnyDeleteShareGroupOffsetsRequest", fn := fun _ => fun
  | [d1, d2] => { results := [.lit (.bool true)], args := [d1, d2] }
  | _ => none }
def fnAnyDeleteShareGroupOffsetsRequestRow : OpenClaim := { program := "yteaoablcbhlllaadoor", sum := "b495993c079ecc890b2be932a3a0359e56eb0012aa15fda9477a932a7507f521", func := "pub-kmsg/laws.FnAnyDeleteShareGroupOffsetsRequest", spec := "fnAnyDeleteShareGroupOffsetsRequest", inPlace := ["internal/reflectlite.ValueOf", "internal/reflectlite.Swapper", "(internal/reflectlite.Value).Len"], unfollowed := true, recurses := true, named := ["encoding/binary.BigEndian", "pub-kmsg/pub/kmsg/inner/kbin.ErrNotEnoughData"], apart := false, laid := [("pub-kmsg/pub/kmsg/inner/kbin.ErrNotEnoughData", laid_pub_kmsg_pub_kmsg_inner_kbin_ErrNotEnoughData)] }
def FnAnyDeleteShareGroupOffsetsRequestSaid : Prop := fnAnyDeleteShareGroupOffsetsRequestRow.holds Tryd.pinned (OpenSpec.ofChange fnAnyDeleteShareGroupOffsetsRequestSpec)

/-- ITS FALSE NEIGHBOUR: 'it returns false'. Refute it at one input. -/
def fnAnyDeleteShareGroupOffsetsRequestWrong : ChangeSpec := { name := "fnAnyDeleteShareGroupOffsetsRequest", fn := fun _ => fun
  | [d1, d2] => { results := [.lit (.bool false)], args := [d1, d2] }
  | _ => none }
def FnAnyDeleteShareGroupOffsetsRequestWrongFalsely : Prop := fnAnyDeleteShareGroupOffsetsRequestRow.holds Tryd.pinned (OpenSpec.ofChange fnAnyDeleteShareGroupOffsetsRequestWrong)

/-- 'laws.FnAnyReadShareGroupStateSummaryResponse': WHATEVER THE INPUT: true; the input reads as it did. -/
def fnAnyReadShareGroupStateSummaryResponseSpec : ChangeSpec := { name := "fnAnyReadShareGroupStateSummaryResponse", fn := fun _ => fun
  | [d1, d2] => { results := [.lit (.bool true)], args := [d1, d2] }
  | _ => none }
def fnAnyReadShareGroupStateSummaryResponseRow : OpenClaim := { program := "yteaoablcbhlllaadoor", sum := "b495993c079ecc890b2be932a3a0359e56eb0012aa15fda9477a932a7507f521", func := "pub-kmsg/laws.FnAnyReadShareGroupStateSummaryResponse", spec := "fnAnyReadShareGroupStateSummaryResponse", inPlace := ["internal/reflectlite.ValueOf", "internal/reflectlite.Swapper", "(internal/reflectlite.Value).Len"], unfollowed := true, recurses := true, named := ["encoding/binary.BigEndian", "pub-kmsg/pub/kmsg/inner/kbin.ErrNotEnoughData"], apart := false, laid := [("pub-kmsg/pub/kmsg/inner/kbin.ErrNotEnoughData", laid_pub_kmsg_pub_kmsg_inner_kbin_ErrNotEnoughData)] }
def FnAnyReadShareGroupStateSummaryResponseSaid : Prop := fnAnyReadShareGroupStateSummaryResponseRow.holds Tryd.pinned (OpenSpec.ofChange fnAnyReadShareGroupStateSummaryResponseSpec)

/-- ITS FALSE NEIGHBOUR: 'it returns false'. Refute it at one input. -/
def fnAnyReadShareGroupStateSummaryResponseWrong : ChangeSpec := { name := "fnAnyReadShareGroupStateSummaryResponse", fn := fun _ => fun
  | [d1, d2] => { results := [.lit (.bool false)], args := [d1, d2] }
  | _ => none }
def FnAnyReadShareGroupStateSummaryResponseWrongFalsely : Prop := fnAnyReadShareGroupStateSummaryResponseRow.holds Tryd.pinned (OpenSpec.ofChange fnAnyReadShareGroupStateSummaryResponseWrong)

/-- 'laws.FnAnyAlterPartitionResponse': WHATEVER THE INPUT: true; the input reads as it did. -/
def fnAnyAlterPartitionResponseSpec : ChangeSpec := { name := "fnAnyAlterPartitionResponse", fn := fun _ => fun
  | [d1, d2] => { results := [.lit (.bool true)], args := [d1, d2] }
  | _ => none }
def fnAnyAlterPartitionResponseRow : OpenClaim := { program := "yteaoablcbhlllaadoor", sum := "b495993c079ecc890b2be932a3a0359e56eb0012aa15fda9477a932a7507f521", func := "pub-kmsg/laws.FnAnyAlterPartitionResponse", spec := "fnAnyAlterPartitionResponse", inPlace := ["internal/reflectlite.ValueOf", "internal/reflectlite.Swapper", "(internal/reflectlite.Value).Len"], unfollowed := true, recurses := true, named := ["encoding/binary.BigEndian", "pub-kmsg/pub/kmsg/inner/kbin.ErrNotEnoughData"], apart := false, laid := [("pub-kmsg/pub/kmsg/inner/kbin.ErrNotEnoughData", laid_pub_kmsg_pub_kmsg_inner_kbin_ErrNotEnoughData)] }
def FnAnyAlterPartitionResponseSaid : Prop := fnAnyAlterPartitionResponseRow.holds Tryd.pinned (OpenSpec.ofChange fnAnyAlterPartitionResponseSpec)

/-- ITS FALSE NEIGHBOUR: 'it returns false'. Refute it at one input. -/
def fnAnyAlterPartitionResponseWrong : ChangeSpec := { name := "fnAnyAlterPartitionResponse", fn := fun _ => fun
  | [d1, d2] => { results := [.lit (.bool false)], args := [d1, d2] }
  | _ => none }
def FnAnyAlterPartitionResponseWrongFalsely : Prop := fnAnyAlterPartitionResponseRow.holds Tryd.pinned (OpenSpec.ofChange fnAnyAlterPartitionResponseWrong)

/-- 'laws.FnAnyIncrementalAlterConfigsRequest': WHATEVER THE INPUT: true; the input reads as it did. -/
def fnAnyIncrementalAlterConfigsRequestSpec : ChangeSpec := { name := "fnAnyIncrementalAlterConfigsRequest", fn := fun _ => fun
  | [d1, d2] => { results := [.lit (.bool true)], args := [d1, d2] }
  | _ => none }
def fnAnyIncrementalAlterConfigsRequestRow : OpenClaim := { program := "yteaoablcbhlllaadoor", sum := "b495993c079ecc890b2be932a3a0359e56eb0012aa15fda9477a932a7507f521", func := "pub-kmsg/laws.FnAnyIncrementalAlterConfigsRequest", spec := "fnAnyIncrementalAlterConfigsRequest", inPlace := ["internal/reflectlite.ValueOf", "internal/reflectlite.Swapper", "(internal/reflectlite.Value).Len"], unfollowed := true, recurses := true, named := ["encoding/binary.BigEndian", "pub-kmsg/pub/kmsg/inner/kbin.ErrNotEnoughData"], apart := false, laid := [("pub-kmsg/pub/kmsg/inner/kbin.ErrNotEnoughData", laid_pub_kmsg_pub_kmsg_inner_kbin_ErrNotEnoughData)] }
def FnAnyIncrementalAlterConfigsRequestSaid : Prop := fnAnyIncrementalAlterConfigsRequestRow.holds Tryd.pinned (OpenSpec.ofChange fnAnyIncrementalAlterConfigsRequestSpec)

/-- ITS FALSE NEIGHBOUR: 'it returns false'. Refute it at one input. -/
def fnAnyIncrementalAlterConfigsRequestWrong : ChangeSpec := { name := "fnAnyIncrementalAlterConfigsRequest", fn := fun _ => fun
  | [d1, d2] => { results := [.lit (.bool false)], args := [d1, d2] }
  | _ => none }
def FnAnyIncrementalAlterConfigsRequestWrongFalsely : Prop := fnAnyIncrementalAlterConfigsRequestRow.holds Tryd.pinned (OpenSpec.ofChange fnAnyIncrementalAlterConfigsRequestWrong)

/-- 'laws.FnAnyAddPartitionsToTxnRequest': WHATEVER THE INPUT: true; the input reads as it did. -/
def fnAnyAddPartitionsToTxnRequestSpec : ChangeSpec := { name := "fnAnyAddPartitionsToTxnRequest", fn := fun _ => fun
  | [d1, d2] => { results := [.lit (.bool true)], args := [d1, d2] }
  | _ => none }
def fnAnyAddPartitionsToTxnRequestRow : OpenClaim := { program := "yteaoablcbhlllaadoor", sum := "b495993c079ecc890b2be932a3a0359e56eb0012aa15fda9477a932a7507f521", func := "pub-kmsg/laws.FnAnyAddPartitionsToTxnRequest", spec := "fnAnyAddPartitionsToTxnRequest", inPlace := ["internal/reflectlite.ValueOf", "internal/reflectlite.Swapper", "(internal/reflectlite.Value).Len"], unfollowed := true, recurses := true, named := ["encoding/binary.BigEndian", "pub-kmsg/pub/kmsg/inner/kbin.ErrNotEnoughData"], apart := false, laid := [("pub-kmsg/pub/kmsg/inner/kbin.ErrNotEnoughData", laid_pub_kmsg_pub_kmsg_inner_kbin_ErrNotEnoughData)] }
def FnAnyAddPartitionsToTxnRequestSaid : Prop := fnAnyAddPartitionsToTxnRequestRow.holds Tryd.pinned (OpenSpec.ofChange fnAnyAddPartitionsToTxnRequestSpec)

/-- ITS FALSE NEIGHBOUR: 'it returns false'. Refute it at one input. -/
def fnAnyAddPartitionsToTxnRequestWrong : ChangeSpec := { name := "fnAnyAddPartitionsToTxnRequest", fn := fun _ => fun
  | [d1, d2] => { results := [.lit (.bool false)], args := [d1, d2] }
  | _ => none }
def FnAnyAddPartitionsToTxnRequestWrongFalsely : Prop := fnAnyAddPartitionsToTxnRequestRow.holds Tryd.pinned (OpenSpec.ofChange fnAnyAddPartitionsToTxnRequestWrong)

/-- 'laws.FnAnyDescribeConfigsResponse': WHATEVER THE INPUT: true; the input reads as it did. -/
def fnAnyDescribeConfigsResponseSpec : ChangeSpec := { name := "fnAnyDescribeConfigsResponse", fn := fun _ => fun
  | [d1, d2] => { results := [.lit (.bool true)], args := [d1, d2] }
  | _ => none }
def fnAnyDescribeConfigsResponseRow : OpenClaim := { program := "yteaoablcbhlllaadoor", sum := "b495993c079ecc890b2be932a3a0359e56eb0012aa15fda9477a932a7507f521", func := "pub-kmsg/laws.FnAnyDescribeConfigsResponse", spec := "fnAnyDescribeConfigsResponse", inPlace := ["internal/reflectlite.ValueOf", "internal/reflectlite.Swapper", "(internal/reflectlite.Value).Len"], unfollowed := true, recurses := true, named := ["encoding/binary.BigEndian", "pub-kmsg/pub/kmsg/inner/kbin.ErrNotEnoughData"], apart := false, laid := [("pub-kmsg/pub/kmsg/inner/kbin.ErrNotEnoughData", laid_pub_kmsg_pub_kmsg_inner_kbin_ErrNotEnoughData)] }
def FnAnyDescribeConfigsResponseSaid : Prop := fnAnyDescribeConfigsResponseRow.holds Tryd.pinned (OpenSpec.ofChange fnAnyDescribeConfigsResponseSpec)

/-- ITS FALSE NEIGHBOUR: 'it returns false'. Refute it at one input. -/
def fnAnyDescribeConfigsResponseWrong : ChangeSpec := { name := "fnAnyDescribeConfigsResponse", fn := fun _ => fun
  | [d1, d2] => { results := [.lit (.bool false)], args := [d1, d2] }
  | _ => none }
def FnAnyDescribeConfigsResponseWrongFalsely : Prop := fnAnyDescribeConfigsResponseRow.holds Tryd.pinned (OpenSpec.ofChange fnAnyDescribeConfigsResponseWrong)

/-- 'laws.FnAnyDescribeTopicPartitionsRequest': WHATEVER THE INPUT: true; the input reads as it did. -/
def fnAnyDescribeTopicPartitionsRequestSpec : ChangeSpec := { name := "fnAnyDescribeTopicPartitionsRequest", fn := fun _ => fun
  | [d1, d2] => { results := [.lit (.bool true)], args := [d1, d2] }
  | _ => none }
def fnAnyDescribeTopicPartitionsRequestRow : OpenClaim := { program := "yteaoablcbhlllaadoor", sum := "b495993c079ecc890b2be932a3a0359e56eb0012aa15fda9477a932a7507f521", func := "pub-kmsg/laws.FnAnyDescribeTopicPartitionsRequest", spec := "fnAnyDescribeTopicPartitionsRequest", inPlace := ["internal/reflectlite.ValueOf", "internal/reflectlite.Swapper", "(internal/reflectlite.Value).Len"], unfollowed := true, recurses := true, named := ["encoding/binary.BigEndian", "pub-kmsg/pub/kmsg/inner/kbin.ErrNotEnoughData"], apart := false, laid := [("pub-kmsg/pub/kmsg/inner/kbin.ErrNotEnoughData", laid_pub_kmsg_pub_kmsg_inner_kbin_ErrNotEnoughData)] }
def FnAnyDescribeTopicPartitionsRequestSaid : Prop := fnAnyDescribeTopicPartitionsRequestRow.holds Tryd.pinned (OpenSpec.ofChange fnAnyDescribeTopicPartitionsRequestSpec)

/-- ITS FALSE NEIGHBOUR: 'it returns false'. Refute it at one input. -/
def fnAnyDescribeTopicPartitionsRequestWrong : ChangeSpec := { name := "fnAnyDescribeTopicPartitionsRequest", fn := fun _ => fun
  | [d1, d2] => { results := [.lit (.bool false)], args := [d1, d2] }
  | _ => none }
def FnAnyDescribeTopicPartitionsRequestWrongFalsely : Prop := fnAnyDescribeTopicPartitionsRequestRow.holds Tryd.pinned (OpenSpec.ofChange fnAnyDescribeTopicPartitionsRequestWrong)

/- THE SECOND FORM. 'bulk': how many values and letters a reading holds, each counted each time it is reached (what is shared counts as often as it is met; a slice's spare places count too). A statement '..UptoSaid' is the law's where the arguments, and the package variables that the reading takes, are together of bulk at most 1048576: NARROWER than '..Said'. Prove '..Said' where nothing that the law and all that it calls make is longer than what came in: it says more and counts as full. Else prove '..UptoSaid'. A law counts once. -/
mutual
def uptoBulk {H : Type} : DataW H → Nat
  | .lit (.string bytes) => bytes.length + 1
  | .lit _ => 1
  | .nil => 1
  | .ptr d => uptoBulk d + 1
  | .slice elems spare => uptoBulkAll elems + uptoBulkAll spare + 1
  | .agg parts => uptoBulkAll parts + 1
  | .iface _ d => uptoBulk d + 1
  | .map entries => uptoBulkEntries entries + 1
  | .held _ => 1
def uptoBulkAll {H : Type} : List (DataW H) → Nat
  | [] => 0
  | d :: r => uptoBulk d + uptoBulkAll r
def uptoBulkEntries {H : Type} : List (Lit × DataW H) → Nat
  | [] => 0
  | x :: r => uptoBulkEntry x + uptoBulkEntries r
def uptoBulkEntry {H : Type} : Lit × DataW H → Nat
  | (.string bytes, d) => bytes.length + uptoBulk d + 1
  | (_, d) => uptoBulk d + 1
 end
def uptoSmall : (H : Type) → List (DataW H) → Bool := fun _ ds => decide (uptoBulkAll ds ≤ 1048576)
def OpenSpec.upto (s : _root_.Go.ChangeSpec) : _root_.Go.OpenSpec := { _root_.Go.OpenSpec.ofChange s with cond := some uptoSmall }

/-- 'laws.FnAnyVoteRequest', WHERE WHAT IT READS IS OF BULK AT MOST 1048576: true; the input reads as it did. -/
def fnAnyVoteRequestUptoRow : OpenClaim := { program := "yteaoablcbhlllaadoor", sum := "b495993c079ecc890b2be932a3a0359e56eb0012aa15fda9477a932a7507f521", func := "pub-kmsg/laws.FnAnyVoteRequest", spec := "fnAnyVoteRequest", inPlace := ["internal/reflectlite.ValueOf", "internal/reflectlite.Swapper", "(internal/reflectlite.Value).Len"], unfollowed := true, recurses := true, named := ["encoding/binary.BigEndian", "pub-kmsg/pub/kmsg/inner/kbin.ErrNotEnoughData"], apart := false, laid := [("pub-kmsg/pub/kmsg/inner/kbin.ErrNotEnoughData", laid_pub_kmsg_pub_kmsg_inner_kbin_ErrNotEnoughData)], narrowed := true }
def FnAnyVoteRequestUptoSaid : Prop := fnAnyVoteRequestUptoRow.holds Tryd.pinned (OpenSpec.upto fnAnyVoteRequestSpec)

/-- 'laws.FnAnySyncGroupResponse', WHERE WHAT IT READS IS OF BULK AT MOST 1048576: true; the input reads as it did. -/
def fnAnySyncGroupResponseUptoRow : OpenClaim := { program := "yteaoablcbhlllaadoor", sum := "b495993c079ecc890b2be932a3a0359e56eb0012aa15fda9477a932a7507f521", func := "pub-kmsg/laws.FnAnySyncGroupResponse", spec := "fnAnySyncGroupResponse", inPlace := ["internal/reflectlite.ValueOf", "internal/reflectlite.Swapper", "(internal/reflectlite.Value).Len"], unfollowed := true, recurses := true, named := ["encoding/binary.BigEndian", "pub-kmsg/pub/kmsg/inner/kbin.ErrNotEnoughData"], apart := false, laid := [("pub-kmsg/pub/kmsg/inner/kbin.ErrNotEnoughData", laid_pub_kmsg_pub_kmsg_inner_kbin_ErrNotEnoughData)], narrowed := true }
def FnAnySyncGroupResponseUptoSaid : Prop := fnAnySyncGroupResponseUptoRow.holds Tryd.pinned (OpenSpec.upto fnAnySyncGroupResponseSpec)

/-- 'laws.FnAnyCreateACLsResponse', WHERE WHAT IT READS IS OF BULK AT MOST 1048576: true; the input reads as it did. -/
def fnAnyCreateACLsResponseUptoRow : OpenClaim := { program := "yteaoablcbhlllaadoor", sum := "b495993c079ecc890b2be932a3a0359e56eb0012aa15fda9477a932a7507f521", func := "pub-kmsg/laws.FnAnyCreateACLsResponse", spec := "fnAnyCreateACLsResponse", inPlace := ["internal/reflectlite.ValueOf", "internal/reflectlite.Swapper", "(internal/reflectlite.Value).Len"], unfollowed := true, recurses := true, named := ["encoding/binary.BigEndian", "pub-kmsg/pub/kmsg/inner/kbin.ErrNotEnoughData"], apart := false, laid := [("pub-kmsg/pub/kmsg/inner/kbin.ErrNotEnoughData", laid_pub_kmsg_pub_kmsg_inner_kbin_ErrNotEnoughData)], narrowed := true }
def FnAnyCreateACLsResponseUptoSaid : Prop := fnAnyCreateACLsResponseUptoRow.holds Tryd.pinned (OpenSpec.upto fnAnyCreateACLsResponseSpec)

/-- 'laws.FnAnyListConfigResourcesResponse', WHERE WHAT IT READS IS OF BULK AT MOST 1048576: true; the input reads as it did. -/
def fnAnyListConfigResourcesResponseUptoRow : OpenClaim := { program := "yteaoablcbhlllaadoor", sum := "b495993c079ecc890b2be932a3a0359e56eb0012aa15fda9477a932a7507f521", func := "pub-kmsg/laws.FnAnyListConfigResourcesResponse", spec := "fnAnyListConfigResourcesResponse", inPlace := ["internal/reflectlite.ValueOf", "internal/reflectlite.Swapper", "(internal/reflectlite.Value).Len"], unfollowed := true, recurses := true, named := ["encoding/binary.BigEndian", "pub-kmsg/pub/kmsg/inner/kbin.ErrNotEnoughData"], apart := false, laid := [("pub-kmsg/pub/kmsg/inner/kbin.ErrNotEnoughData", laid_pub_kmsg_pub_kmsg_inner_kbin_ErrNotEnoughData)], narrowed := true }
def FnAnyListConfigResourcesResponseUptoSaid : Prop := fnAnyListConfigResourcesResponseUptoRow.holds Tryd.pinned (OpenSpec.upto fnAnyListConfigResourcesResponseSpec)

/-- 'laws.FnAnyDeleteShareGroupOffsetsRequest', WHERE WHAT IT READS IS OF BULK AT MOST 1048576: true; the input reads as it did. -/
def fnAnyDeleteShareGroupOffsetsRequestUptoRow : OpenClaim := { program := "yteaoablcbhlllaadoor", sum := "b495993c079ecc890b2be932a3a0359e56eb0012aa15fda9477a932a7507f521", func := "pub-kmsg/laws.FnAnyDeleteShareGroupOffsetsRequest", spec := "fnAnyDeleteShareGroupOffsetsRequest", inPlace := ["internal/reflectlite.ValueOf", "internal/reflectlite.Swapper", "(internal/reflectlite.Value).Len"], unfollowed := true, recurses := true, named := ["encoding/binary.BigEndian", "pub-kmsg/pub/kmsg/inner/kbin.ErrNotEnoughData"], apart := false, laid := [("pub-kmsg/pub/kmsg/inner/kbin.ErrNotEnoughData", laid_pub_kmsg_pub_kmsg_inner_kbin_ErrNotEnoughData)], narrowed := true }
def FnAnyDeleteShareGroupOffsetsRequestUptoSaid : Prop := fnAnyDeleteShareGroupOffsetsRequestUptoRow.holds Tryd.pinned (OpenSpec.upto fnAnyDeleteShareGroupOffsetsRequestSpec)

/-- 'laws.FnAnyReadShareGroupStateSummaryResponse', WHERE WHAT IT READS IS OF BULK AT MOST 1048576: true; the input reads as it did. -/
def fnAnyReadShareGroupStateSummaryResponseUptoRow : OpenClaim := { program := "yteaoablcbhlllaadoor", sum := "b495993c079ecc890b2be932a3a0359e56eb0012aa15fda9477a932a7507f521", func := "pub-kmsg/laws.FnAnyReadShareGroupStateSummaryResponse", spec := "fnAnyReadShareGroupStateSummaryResponse", inPlace := ["internal/reflectlite.ValueOf", "internal/reflectlite.Swapper", "(internal/reflectlite.Value).Len"], unfollowed := true, recurses := true, named := ["encoding/binary.BigEndian", "pub-kmsg/pub/kmsg/inner/kbin.ErrNotEnoughData"], apart := false, laid := [("pub-kmsg/pub/kmsg/inner/kbin.ErrNotEnoughData", laid_pub_kmsg_pub_kmsg_inner_kbin_ErrNotEnoughData)], narrowed := true }
def FnAnyReadShareGroupStateSummaryResponseUptoSaid : Prop := fnAnyReadShareGroupStateSummaryResponseUptoRow.holds Tryd.pinned (OpenSpec.upto fnAnyReadShareGroupStateSummaryResponseSpec)

/-- 'laws.FnAnyAlterPartitionResponse', WHERE WHAT IT READS IS OF BULK AT MOST 1048576: true; the input reads as it did. -/
def fnAnyAlterPartitionResponseUptoRow : OpenClaim := { program := "yteaoablcbhlllaadoor", sum := "b495993c079ecc890b2be932a3a0359e56eb0012aa15fda9477a932a7507f521", func := "pub-kmsg/laws.FnAnyAlterPartitionResponse", spec := "fnAnyAlterPartitionResponse", inPlace := ["internal/reflectlite.ValueOf", "internal/reflectlite.Swapper", "(internal/reflectlite.Value).Len"], unfollowed := true, recurses := true, named := ["encoding/binary.BigEndian", "pub-kmsg/pub/kmsg/inner/kbin.ErrNotEnoughData"], apart := false, laid := [("pub-kmsg/pub/kmsg/inner/kbin.ErrNotEnoughData", laid_pub_kmsg_pub_kmsg_inner_kbin_ErrNotEnoughData)], narrowed := true }
def FnAnyAlterPartitionResponseUptoSaid : Prop := fnAnyAlterPartitionResponseUptoRow.holds Tryd.pinned (OpenSpec.upto fnAnyAlterPartitionResponseSpec)

/-- 'laws.FnAnyIncrementalAlterConfigsRequest', WHERE WHAT IT READS IS OF BULK AT MOST 1048576: true; the input reads as it did. -/
def fnAnyIncrementalAlterConfigsRequestUptoRow : OpenClaim := { program := "yteaoablcbhlllaadoor", sum := "b495993c079ecc890b2be932a3a0359e56eb0012aa15fda9477a932a7507f521", func := "pub-kmsg/laws.FnAnyIncrementalAlterConfigsRequest", spec := "fnAnyIncrementalAlterConfigsRequest", inPlace := ["internal/reflectlite.ValueOf", "internal/reflectlite.Swapper", "(internal/reflectlite.Value).Len"], unfollowed := true, recurses := true, named := ["encoding/binary.BigEndian", "pub-kmsg/pub/kmsg/inner/kbin.ErrNotEnoughData"], apart := false, laid := [("pub-kmsg/pub/kmsg/inner/kbin.ErrNotEnoughData", laid_pub_kmsg_pub_kmsg_inner_kbin_ErrNotEnoughData)], narrowed := true }
def FnAnyIncrementalAlterConfigsRequestUptoSaid : Prop := fnAnyIncrementalAlterConfigsRequestUptoRow.holds Tryd.pinned (OpenSpec.upto fnAnyIncrementalAlterConfigsRequestSpec)

/-- 'laws.FnAnyAddPartitionsToTxnRequest', WHERE WHAT IT READS IS OF BULK AT MOST 1048576: true; the input reads as it did. -/
def fnAnyAddPartitionsToTxnRequestUptoRow : OpenClaim := { program := "yteaoablcbhlllaadoor", sum := "b495993c079ecc890b2be932a3a0359e56eb0012aa15fda9477a932a7507f521", func := "pub-kmsg/laws.FnAnyAddPartitionsToTxnRequest", spec := "fnAnyAddPartitionsToTxnRequest", inPlace := ["internal/reflectlite.ValueOf", "internal/reflectlite.Swapper", "(internal/reflectlite.Value).Len"], unfollowed := true, recurses := true, named := ["encoding/binary.BigEndian", "pub-kmsg/pub/kmsg/inner/kbin.ErrNotEnoughData"], apart := false, laid := [("pub-kmsg/pub/kmsg/inner/kbin.ErrNotEnoughData", laid_pub_kmsg_pub_kmsg_inner_kbin_ErrNotEnoughData)], narrowed := true }
def FnAnyAddPartitionsToTxnRequestUptoSaid : Prop := fnAnyAddPartitionsToTxnRequestUptoRow.holds Tryd.pinned (OpenSpec.upto fnAnyAddPartitionsToTxnRequestSpec)

/-- 'laws.FnAnyDescribeConfigsResponse', WHERE WHAT IT READS IS OF BULK AT MOST 1048576: true; the input reads as it did. -/
def fnAnyDescribeConfigsResponseUptoRow : OpenClaim := { program := "yteaoablcbhlllaadoor", sum := "b495993c079ecc890b2be932a3a0359e56eb0012aa15fda9477a932a7507f521", func := "pub-kmsg/laws.FnAnyDescribeConfigsResponse", spec := "fnAnyDescribeConfigsResponse", inPlace := ["internal/reflectlite.ValueOf", "internal/reflectlite.Swapper", "(internal/reflectlite.Value).Len"], unfollowed := true, recurses := true, named := ["encoding/binary.BigEndian", "pub-kmsg/pub/kmsg/inner/kbin.ErrNotEnoughData"], apart := false, laid := [("pub-kmsg/pub/kmsg/inner/kbin.ErrNotEnoughData", laid_pub_kmsg_pub_kmsg_inner_kbin_ErrNotEnoughData)], narrowed := true }
def FnAnyDescribeConfigsResponseUptoSaid : Prop := fnAnyDescribeConfigsResponseUptoRow.holds Tryd.pinned (OpenSpec.upto fnAnyDescribeConfigsResponseSpec)

/-- 'laws.FnAnyDescribeTopicPartitionsRequest', WHERE WHAT IT READS IS OF BULK AT MOST 1048576: true; the input reads as it did. -/
def fnAnyDescribeTopicPartitionsRequestUptoRow : OpenClaim := { program := "yteaoablcbhlllaadoor", sum := "b495993c079ecc890b2be932a3a0359e56eb0012aa15fda9477a932a7507f521", func := "pub-kmsg/laws.FnAnyDescribeTopicPartitionsRequest", spec := "fnAnyDescribeTopicPartitionsRequest", inPlace := ["internal/reflectlite.ValueOf", "internal/reflectlite.Swapper", "(internal/reflectlite.Value).Len"], unfollowed := true, recurses := true, named := ["encoding/binary.BigEndian", "pub-kmsg/pub/kmsg/inner/kbin.ErrNotEnoughData"], apart := false, laid := [("pub-kmsg/pub/kmsg/inner/kbin.ErrNotEnoughData", laid_pub_kmsg_pub_kmsg_inner_kbin_ErrNotEnoughData)], narrowed := true }
def FnAnyDescribeTopicPartitionsRequestUptoSaid : Prop := fnAnyDescribeTopicPartitionsRequestUptoRow.holds Tryd.pinned (OpenSpec.upto fnAnyDescribeTopicPartitionsRequestSpec)

end Rows
end Go.Proofs.YteaoablcbhlllaaDoor
