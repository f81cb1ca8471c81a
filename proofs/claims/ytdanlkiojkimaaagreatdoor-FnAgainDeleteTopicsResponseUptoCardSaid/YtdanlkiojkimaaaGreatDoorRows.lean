/-
  NARROWER THAN 'FOR EVERY INPUT', by the rows' own cells (each row's printed sentence says how): FnCutAssignReplicasToDirsRequest: loops, laid · FnAgainDeleteTopicsResponse: loops, laid · FnCutMetadataRequest: loops, laid · FnAgainCreateTopicsRequest: loops, laid · FnAgainGroupMetadataValue: loops, laid · FnCutDescribeClientQuotasResponse: loops, laid.
  DERIVED. THE GIVEN ROWS OF THIS SEAT. 6 by the template 'for every input the law returns true; each argument reads behind the call as it read before'; 0 by the template 'total and deterministic' (their statements: YtdanlkiojkimaaaGreatDoorTotals.lean).
  GIVEN WITH THE SEED: the statements are not yours to turn. If you find one false, say at which input.
  Laid BY PROGRAM, IN A SANDBOX (cutbox-rows.mjs): the forced cells as the released guide's own fill.sh prints them over the translation 1fbb162802409040… (all of the seat's roots in one cut). By AI agents, Wed Nov 11 2026. No macro, syntax, notation, axiom, sorry.
-/
import Derived.Test.YtdanlkiojkimaaaGreatDoorChecked
import GoSem.Claim
import GoSem.ClaimJoined
import GoSem.ClaimMapViews
import Derived.JoinedTies
import Derived.KernelRfl
namespace Go.Proofs.YtdanlkiojkimaaaGreatDoor
/- THE CELL 'sum', in the pinned program and in every row, IS THE sha256 OF THE DUMP (.gsa) THAT YtdanlkiojkimaaaGreatDoorProg.lean LOADS. Nothing in Lean hashes anything: it is a label: what it is worth is what the hold of that sum in a sandbox is worth. -/
noncomputable def Tryz.pinned : Pinned := { name := "ytdanlkiojkimaaagreatdoor", sum := "1fbb162802409040911e8bd79f28d3a1b94a525aca98501ef7ba97db433f8bc9", checked := Tryz.checked }
namespace Rows
def none {H : Type} : Left H := { results := [], args := [] }

/- WHAT THE LISTED PACKAGE-LEVEL VARIABLES READ AS WHEN THE CALL BEGINS. Each datum BY PROGRAM (the guide's laid-datum.mjs) off the statement by which the dump's own 'gosem.cut.vars' lays the variable. In a bare row this is a premise. The card (YtdanlkiojkimaaaGreatDoorCards.lean) ties it to the program's text. -/
def laid_pub_kmsg_pub_kmsg_inner_kbin_ErrNotEnoughData {H : Type} : DataW H := .iface "*errors.errorString" (.ptr (.agg [.lit (.string [114, 101, 115, 112, 111, 110, 115, 101, 32, 100, 105, 100, 32, 110, 111, 116, 32, 99, 111, 110, 116, 97, 105, 110, 32, 101, 110, 111, 117, 103, 104, 32, 100, 97, 116, 97, 32, 116, 111, 32, 98, 101, 32, 118, 97, 108, 105, 100])]))

/-- 'laws.FnCutAssignReplicasToDirsRequest': WHATEVER THE INPUT: true; the input reads as it did. -/
def fnCutAssignReplicasToDirsRequestSpec : ChangeSpec := { name := "fnCutAssignReplicasToDirsRequest", fn := fun _ => fun
  | [d1, d2, d3] => { results := [.lit (.bool true)], args := [d1, d2, d3] }
  | _ => none }
def fnCutAssignReplicasToDirsRequestRow : OpenClaim := { program := "ytdanlkiojkimaaagreatdoor", sum := "1fbb162802409040911e8bd79f28d3a1b94a525aca98501ef7ba97db433f8bc9", func := "pub-kmsg/laws.FnCutAssignReplicasToDirsRequest", spec := "fnCutAssignReplicasToDirsRequest", inPlace := ["internal/reflectlite.ValueOf", "internal/reflectlite.Swapper", "(internal/reflectlite.Value).Len"], unfollowed := true, recurses := true, named := ["encoding/binary.BigEndian", "pub-kmsg/pub/kmsg/inner/kbin.ErrNotEnoughData"], loops := true, apart := false, laid := [("pub-kmsg/pub/kmsg/inner/kbin.ErrNotEnoughData", laid_pub_kmsg_pub_kmsg_inner_kbin_ErrNotEnoughData)] }
def FnCutAssignReplicasToDirsRequestSaid : Prop := fnCutAssignReplicasToDirsRequestRow.holds Tryz.pinned (OpenSpec.ofChange fnCutAssignReplicasToDirsRequestSpec)

/-- ITS FALSE NEIGHBOUR: 'it returns false'. Refute it at one input. -/
def fnCutAssignReplicasToDirsRequestWrong : ChangeSpec := { name := "fnCutAssignReplicasToDirsRequest", fn := fun _ => fun
  | [d1, d2, d3] => { results := [.lit (.bool false)], args := [d1, d2, d3] }
  | _ => none }
def FnCutAssignReplicasToDirsRequestWrongFalsely : Prop := fnCutAssignReplicasToDirsRequestRow.holds Tryz.pinned (OpenSpec.ofChange fnCutAssignReplicasToDirsRequestWrong)

/-- 'laws.FnAgainDeleteTopicsResponse': WHATEVER THE INPUT: true; the input reads as it did. -/
def fnAgainDeleteTopicsResponseSpec : ChangeSpec := { name := "fnAgainDeleteTopicsResponse", fn := fun _ => fun
  | [d1, d2] => { results := [.lit (.bool true)], args := [d1, d2] }
  | _ => none }
def fnAgainDeleteTopicsResponseRow : OpenClaim := { program := "ytdanlkiojkimaaagreatdoor", sum := "1fbb162802409040911e8bd79f28d3a1b94a525aca98501ef7ba97db433f8bc9", func := "pub-kmsg/laws.FnAgainDeleteTopicsResponse", spec := "fnAgainDeleteTopicsResponse", inPlace := ["internal/reflectlite.ValueOf", "internal/reflectlite.Swapper", "(internal/reflectlite.Value).Len"], unfollowed := true, recurses := true, named := ["encoding/binary.BigEndian", "pub-kmsg/pub/kmsg/inner/kbin.ErrNotEnoughData"], loops := true, apart := false, laid := [("pub-kmsg/pub/kmsg/inner/kbin.ErrNotEnoughData", laid_pub_kmsg_pub_kmsg_inner_kbin_ErrNotEnoughData)] }
def FnAgainDeleteTopicsResponseSaid : Prop := fnAgainDeleteTopicsResponseRow.holds Tryz.pinned (OpenSpec.ofChange fnAgainDeleteTopicsResponseSpec)

/-- ITS FALSE NEIGHBOUR: 'it returns false'. Refute it at one input. -/
def fnAgainDeleteTopicsResponseWrong : ChangeSpec := { name := "fnAgainDeleteTopicsResponse", fn := fun _ => fun
  | [d1, d2] => { results := [.lit (.bool false)], args := [d1, d2] }
  | _ => none }
def FnAgainDeleteTopicsResponseWrongFalsely : Prop := fnAgainDeleteTopicsResponseRow.holds Tryz.pinned (OpenSpec.ofChange fnAgainDeleteTopicsResponseWrong)

/-- 'laws.FnCutMetadataRequest': WHATEVER THE INPUT: true; the input reads as it did. -/
def fnCutMetadataRequestSpec : ChangeSpec := { name := "fnCutMetadataRequest", fn := fun _ => fun
  | [d1, d2, d3] => { results := [.lit (.bool true)], args := [d1, d2, d3] }
  | _ => none }
def fnCutMetadataRequestRow : OpenClaim := { program := "ytdanlkiojkimaaagreatdoor", sum := "1fbb162802409040911e8bd79f28d3a1b94a525aca98501ef7ba97db433f8bc9", func := "pub-kmsg/laws.FnCutMetadataRequest", spec := "fnCutMetadataRequest", inPlace := ["internal/reflectlite.ValueOf", "internal/reflectlite.Swapper", "(internal/reflectlite.Value).Len"], unfollowed := true, recurses := true, named := ["encoding/binary.BigEndian", "pub-kmsg/pub/kmsg/inner/kbin.ErrNotEnoughData"], loops := true, apart := false, laid := [("pub-kmsg/pub/kmsg/inner/kbin.ErrNotEnoughData", laid_pub_kmsg_pub_kmsg_inner_kbin_ErrNotEnoughData)] }
def FnCutMetadataRequestSaid : Prop := fnCutMetadataRequestRow.holds Tryz.pinned (OpenSpec.ofChange fnCutMetadataRequestSpec)

/-- ITS FALSE NEIGHBOUR: 'it returns false'. Refute it at one input. -/
def fnCutMetadataRequestWrong : ChangeSpec := { name := "fnCutMetadataRequest", fn := fun _ => fun
  | [d1, d2, d3] => { results := [.lit (.bool false)], args := [d1, d2, d3] }
  | _ => none }
def FnCutMetadataRequestWrongFalsely : Prop := fnCutMetadataRequestRow.holds Tryz.pinned (OpenSpec.ofChange fnCutMetadataRequestWrong)

/-- 'laws.FnAgainCreateTopicsRequest': WHATEVER THE INPUT: true; the input reads as it did. -/
def fnAgainCreateTopicsRequestSpec : ChangeSpec := { name := "fnAgainCreateTopicsRequest", fn := fun _ => fun
  | [d1, d2] => { results := [.lit (.bool true)], args := [d1, d2] }
  | _ => none }
def fnAgainCreateTopicsRequestRow : OpenClaim := { program := "ytdanlkiojkimaaagreatdoor", sum := "1fbb162802409040911e8bd79f28d3a1b94a525aca98501ef7ba97db433f8bc9", func := "pub-kmsg/laws.FnAgainCreateTopicsRequest", spec := "fnAgainCreateTopicsRequest", inPlace := ["internal/reflectlite.ValueOf", "internal/reflectlite.Swapper", "(internal/reflectlite.Value).Len"], unfollowed := true, recurses := true, named := ["encoding/binary.BigEndian", "pub-kmsg/pub/kmsg/inner/kbin.ErrNotEnoughData"], loops := true, apart := false, laid := [("pub-kmsg/pub/kmsg/inner/kbin.ErrNotEnoughData", laid_pub_kmsg_pub_kmsg_inner_kbin_ErrNotEnoughData)] }
def FnAgainCreateTopicsRequestSaid : Prop := fnAgainCreateTopicsRequestRow.holds Tryz.pinned (OpenSpec.ofChange fnAgainCreateTopicsRequestSpec)

/-- ITS FALSE NEIGHBOUR: 'it returns false'. Refute it at one input. -/
def fnAgainCreateTopicsRequestWrong : ChangeSpec := { name := "fnAgainCreateTopicsRequest", fn := fun _ => fun
  | [d1, d2] => { results := [.lit (.bool false)], args := [d1, d2] }
  | _ => none }
def FnAgainCreateTopicsRequestWrongFalsely : Prop := fnAgainCreateTopicsRequestRow.holds Tryz.pinned (OpenSpec.ofChange fnAgainCreateTopicsRequestWrong)

/-- 'laws.FnAgainGroupMetadataValue': WHATEVER THE INPUT: true; the input reads as it did. -/
def fnAgainGroupMetadataValueSpec : ChangeSpec := { name := "fnAgainGroupMetadataValue", fn := fun _ => fun
  | [d1, d2] => { results := [.lit (.bool true)], args := [d1, d2] }
  | _ => none }
def fnAgainGroupMetadataValueRow : OpenClaim := { program := "ytdanlkiojkimaaagreatdoor", sum := "1fbb162802409040911e8bd79f28d3a1b94a525aca98501ef7ba97db433f8bc9", func := "pub-kmsg/laws.FnAgainGroupMetadataValue", spec := "fnAgainGroupMetadataValue", inPlace := ["internal/reflectlite.ValueOf", "internal/reflectlite.Swapper", "(internal/reflectlite.Value).Len"], unfollowed := true, recurses := true, named := ["encoding/binary.BigEndian", "pub-kmsg/pub/kmsg/inner/kbin.ErrNotEnoughData"], loops := true, apart := false, laid := [("pub-kmsg/pub/kmsg/inner/kbin.ErrNotEnoughData", laid_pub_kmsg_pub_kmsg_inner_kbin_ErrNotEnoughData)] }
def FnAgainGroupMetadataValueSaid : Prop := fnAgainGroupMetadataValueRow.holds Tryz.pinned (OpenSpec.ofChange fnAgainGroupMetadataValueSpec)

/-- ITS FALSE NEIGHBOUR: 'it returns false'. Refute it at one input. -/
def fnAgainGroupMetadataValueWrong : ChangeSpec := { name := "fnAgainGroupMetadataValue", fn := fun _ => fun
  | [d1, d2] => { results := [.lit (.bool false)], args := [d1, d2] }
  | _ => none }
def FnAgainGroupMetadataValueWrongFalsely : Prop := fnAgainGroupMetadataValueRow.holds Tryz.pinned (OpenSpec.ofChange fnAgainGroupMetadataValueWrong)

/-- 'laws.FnCutDescribeClientQuotasResponse': WHATEVER THE INPUT: true; the input reads as it did. -/
def fnCutDescribeClientQuotasResponseSpec : ChangeSpec := { name := "fnCutDescribeClientQuotasResponse", fn := fun _ => fun
  | [d1, d2, d3] => { results := [.lit (.bool true)], args := [d1, d2, d3] }
  | _ => none }
def fnCutDescribeClientQuotasResponseRow : OpenClaim := { program := "ytdanlkiojkimaaagreatdoor", sum := "1fbb162802409040911e8bd79f28d3a1b94a525aca98501ef7ba97db433f8bc9", func := "pub-kmsg/laws.FnCutDescribeClientQuotasResponse", spec := "fnCutDescribeClientQuotasResponse", inPlace := ["math.Float64frombits", "internal/reflectlite.ValueOf", "internal/reflectlite.Swapper", "(internal/reflectlite.Value).Len", "math.Float64bits"], unfollowed := true, recurses := true, named := ["encoding/binary.BigEndian", "pub-kmsg/pub/kmsg/inner/kbin.ErrNotEnoughData"], loops := true, apart := false, laid := [("pub-kmsg/pub/kmsg/inner/kbin.ErrNotEnoughData", laid_pub_kmsg_pub_kmsg_inner_kbin_ErrNotEnoughData)] }
def FnCutDescribeClientQuotasResponseSaid : Prop := fnCutDescribeClientQuotasResponseRow.holds Tryz.pinned (OpenSpec.ofChange fnCutDescribeClientQuotasResponseSpec)

/-- ITS FALSE NEIGHBOUR: 'it returns false'. Refute it at one input. -/
def fnCutDescribeClientQuotasResponseWrong : ChangeSpec := { name := "fnCutDescribeClientQuotasResponse", fn := fun _ => fun
  | [d1, d2, d3] => { results := [.lit (.bool false)], args := [d1, d2, d3] }
  | _ => none }
def FnCutDescribeClientQuotasResponseWrongFalsely : Prop := fnCutDescribeClientQuotasResponseRow.holds Tryz.pinned (OpenSpec.ofChange fnCutDescribeClientQuotasResponseWrong)

/- THE SECOND FORM. 'bulk': how many values and letters a reading holds, each counted each time it is reached (what is shared counts as often as it is met; a slice's spare places count too). A statement '..UptoSaid' is the law's where the arguments, and the package variables that the reading takes, are together of bulk at most 1048576: NARROWER than '..Said'. Prove '..Said' where nothing that the law and all that it calls make is longer than what came in: it says more and counts as full. Else prove '..UptoSaid'. A law counts once. -/
mutual
def uptoBulk {H : Type} : DataW H → Nat
  | .lit (.string bytes) => bytes.length + 1
  | .lit _ => 1
  | .nil => 1
  | .ptr d => uptoBulk d + 1
  | .slice elems spare => uptoBulkAll elems + uptoBulkAll spare + 1
  | .agg parts => uptoBulkAll parts + 1
  | .iface _ d => uptoBulk d + 1
  | .map entries => uptoBulkEntries entries + 1
  | .held _ => 1
def uptoBulkAll {H : Type} : List (DataW H) → Nat
  | [] => 0
  | d :: r => uptoBulk d + uptoBulkAll r
def uptoBulkEntries {H : Type} : List (Lit × DataW H) → Nat
  | [] => 0
  | x :: r => uptoBulkEntry x + uptoBulkEntries r
def uptoBulkEntry {H : Type} : Lit × DataW H → Nat
  | (.string bytes, d) => bytes.length + uptoBulk d + 1
  | (_, d) => uptoBulk d + 1
 end
def uptoSmall : (H : Type) → List (DataW H) → Bool := fun _ ds => decide (uptoBulkAll ds ≤ 1048576)
def OpenSpec.upto (s : _root_.Go.ChangeSpec) : _root_.Go.OpenSpec := { _root_.Go.OpenSpec.ofChange s with cond := some uptoSmall }

/-- 'laws.FnCutAssignReplicasToDirsRequest', WHERE WHAT IT READS IS OF BULK AT MOST 1048576: true; the input reads as it did. -/
def fnCutAssignReplicasToDirsRequestUptoRow : OpenClaim := { program := "ytdanlkiojkimaaagreatdoor", sum := "1fbb162802409040911e8bd79f28d3a1b94a525aca98501ef7ba97db433f8bc9", func := "pub-kmsg/laws.FnCutAssignReplicasToDirsRequest", spec := "fnCutAssignReplicasToDirsRequest", inPlace := ["internal/reflectlite.ValueOf", "internal/reflectlite.Swapper", "(internal/reflectlite.Value).Len"], unfollowed := true, recurses := true, named := ["encoding/binary.BigEndian", "pub-kmsg/pub/kmsg/inner/kbin.ErrNotEnoughData"], loops := true, apart := false, laid := [("pub-kmsg/pub/kmsg/inner/kbin.ErrNotEnoughData", laid_pub_kmsg_pub_kmsg_inner_kbin_ErrNotEnoughData)], narrowed := true }
def FnCutAssignReplicasToDirsRequestUptoSaid : Prop := fnCutAssignReplicasToDirsRequestUptoRow.holds Tryz.pinned (OpenSpec.upto fnCutAssignReplicasToDirsRequestSpec)

/-- 'laws.FnAgainDeleteTopicsResponse', WHERE WHAT IT READS IS OF BULK AT MOST 1048576: true; the input reads as it did. -/
def fnAgainDeleteTopicsResponseUptoRow : OpenClaim := { program := "ytdanlkiojkimaaagreatdoor", sum := "1fbb162802409040911e8bd79f28d3a1b94a525aca98501ef7ba97db433f8bc9", func := "pub-kmsg/laws.FnAgainDeleteTopicsResponse", spec := "fnAgainDeleteTopicsResponse", inPlace := ["internal/reflectlite.ValueOf", "internal/reflectlite.Swapper", "(internal/reflectlite.Value).Len"], unfollowed := true, recurses := true, named := ["encoding/binary.BigEndian", "pub-kmsg/pub/kmsg/inner/kbin.ErrNotEnoughData"], loops := true, apart := false, laid := [("pub-kmsg/pub/kmsg/inner/kbin.ErrNotEnoughData", laid_pub_kmsg_pub_kmsg_inner_kbin_ErrNotEnoughData)], narrowed := true }
def FnAgainDeleteTopicsResponseUptoSaid : Prop := fnAgainDeleteTopicsResponseUptoRow.holds Tryz.pinned (OpenSpec.upto fnAgainDeleteTopicsResponseSpec)

/-- 'laws.FnCutMetadataRequest', WHERE WHAT IT READS IS OF BULK AT MOST 1048576: true; the input reads as it did. -/
def fnCutMetadataRequestUptoRow : OpenClaim := { program := "ytdanlkiojkimaaagreatdoor", sum := "1fbb162802409040911e8bd79f28d3a1b94a525aca98501ef7ba97db433f8bc9", func := "pub-kmsg/laws.FnCutMetadataRequest", spec := "fnCutMetadataRequest", inPlace := ["internal/reflectlite.ValueOf", "internal/reflectlite.Swapper", "(internal/reflectlite.Value).Len"], unfollowed := true, recurses := true, named := ["encoding/binary.BigEndian", "pub-kmsg/pub/kmsg/inner/kbin.ErrNotEnoughData"], loops := true, apart := false, laid := [("pub-kmsg/pub/kmsg/inner/kbin.ErrNotEnoughData", laid_pub_kmsg_pub_kmsg_inner_kbin_ErrNotEnoughData)], narrowed := true }
def FnCutMetadataRequestUptoSaid : Prop := fnCutMetadataRequestUptoRow.holds Tryz.pinned (OpenSpec.upto fnCutMetadataRequestSpec)

/-- 'laws.FnAgainCreateTopicsRequest', WHERE WHAT IT READS IS OF BULK AT MOST 1048576: true; the input reads as it did. -/
def fnAgainCreateTopicsRequestUptoRow : OpenClaim := { program := "ytdanlkiojkimaaagreatdoor", sum := "1fbb162802409040911e8bd79f28d3a1b94a525aca98501ef7ba97db433f8bc9", func := "pub-kmsg/laws.FnAgainCreateTopicsRequest", spec := "fnAgainCreateTopicsRequest", inPlace := ["internal/reflectlite.ValueOf", "internal/reflectlite.Swapper", "(internal/reflectlite.Value).Len"], unfollowed := true, recurses := true, named := ["encoding/binary.BigEndian", "pub-kmsg/pub/kmsg/inner/kbin.ErrNotEnoughData"], loops := true, apart := false, laid := [("pub-kmsg/pub/kmsg/inner/kbin.ErrNotEnoughData", laid_pub_kmsg_pub_kmsg_inner_kbin_ErrNotEnoughData)], narrowed := true }
def FnAgainCreateTopicsRequestUptoSaid : Prop := fnAgainCreateTopicsRequestUptoRow.holds Tryz.pinned (OpenSpec.upto fnAgainCreateTopicsRequestSpec)

/-- 'laws.FnAgainGroupMetadataValue', WHERE WHAT IT READS IS OF BULK AT MOST 1048576: true; the input reads as it did. -/
def fnAgainGroupMetadataValueUptoRow : OpenClaim := { program := "ytdanlkiojkimaaagreatdoor", sum := "1fbb162802409040911e8bd79f28d3a1b94a525aca98501ef7ba97db433f8bc9", func := "pub-kmsg/laws.FnAgainGroupMetadataValue", spec := "fnAgainGroupMetadataValue", inPlace := ["internal/reflectlite.ValueOf", "internal/reflectlite.Swapper", "(internal/reflectlite.Value).Len"], unfollowed := true, recurses := true, named := ["encoding/binary.BigEndian", "pub-kmsg/pub/kmsg/inner/kbin.ErrNotEnoughData"], loops := true, apart := false, laid := [("pub-kmsg/pub/kmsg/inner/kbin.ErrNotEnoughData", laid_pub_kmsg_pub_kmsg_inner_kbin_ErrNotEnoughData)], narrowed := true }
def FnAgainGroupMetadataValueUptoSaid : Prop := fnAgainGroupMetadataValueUptoRow.holds Tryz.pinned (OpenSpec.upto fnAgainGroupMetadataValueSpec)

/-- 'laws.FnCutDescribeClientQuotasResponse', WHERE WHAT IT READS IS OF BULK AT MOST 1048576: true; the input reads as it did. -/
def fnCutDescribeClientQuotasResponseUptoRow : OpenClaim := { program := "ytdanlkiojkimaaagreatdoor", sum := "1fbb162802409040911e8bd79f28d3a1b94a525aca98501ef7ba97db433f8bc9", func := "pub-kmsg/laws.FnCutDescribeClientQuotasResponse", spec := "fnCutDescribeClientQuotasResponse", inPlace := ["math.Float64frombits", "internal/reflectlite.ValueOf", "internal/reflectlite.Swapper", "(internal/reflectlite.Value).Len", "math.Float64bits"], unfollowed := true, recurses := true, named := ["encoding/binary.BigEndian", "pub-kmsg/pub/kmsg/inner/kbin.ErrNotEnoughData"], loops := true, apart := false, laid := [("pub-kmsg/pub/kmsg/inner/kbin.ErrNotEnoughData", laid_pub_kmsg_pub_kmsg_inner_kbin_ErrNotEnoughData)], narrowed := true }
def FnCutDescribeClientQuotasResponseUptoSaid : Prop := fnCutDescribeClientQuotasResponseUptoRow.holds Tryz.pinned (OpenSpec.upto fnCutDescribeClientQuotasResponseSpec)

end Rows
end Go.Proofs.YtdanlkiojkimaaaGreatDoor
