/-
  NARROWER THAN 'FOR EVERY INPUT', by the rows' own cells (each row's printed sentence says how): FnAgainWriteTxnMarkersResponse: loops, laid · FnCutMetadataRequest: loops, laid · FnCutLeaderAndISRResponse: loops, laid · FnAgainAlterUserSCRAMCredentialsRequest: loops, laid · FnAgainDescribeUserSCRAMCredentialsResponse: loops, laid · FnAgainCreateTopicsRequest: loops, laid · FnCutShareAcknowledgeRequest: loops, laid.
  DERIVED. THE GIVEN ROWS OF THIS SEAT. 7 by the template 'for every input the law returns true; each argument reads behind the call as it read before'; 0 by the template 'total and deterministic' (their statements: YtgnajdficmndgabGreatDoorRTotals.lean).
  GIVEN WITH THE SEED: the statements are not yours to turn. If you find one false, say at which input.
  Laid BY PROGRAM, IN A SANDBOX (cutbox-rows.mjs): the forced cells as the released guide's own fill.sh prints them over the translation 546d18712ad7ade9… (all of the seat's roots in one cut). By AI agents, Wed Nov 11 2026. No macro, syntax, notation, axiom, sorry.
-/
import Derived.Test.YtgnajdficmndgabGreatDoorRChecked
import GoSem.Claim
import GoSem.ClaimJoined
import GoSem.ClaimMapViews
import Derived.JoinedTies
import Derived.KernelRfl
namespace Go.Proofs.YtgnajdficmndgabGreatDoorR
/- THE CELL 'sum', in the pinned program and in every row, IS THE sha256 OF THE DUMP (.gsa) THAT YtgnajdficmndgabGreatDoorRProg.lean LOADS. Nothing in Lean hashes anything: it is a label: what it is worth is what the hold of that sum in a sandbox is worth. -/
noncomputable def Tryz.pinned : Pinned := { name := "ytgnajdficmndgabgreatdoorr", sum := "546d18712ad7ade981ae4f605a8e66b6831cd24a03a4b4c89dfe82d33fb54546", checked := Tryz.checked }
namespace Rows
def none {H : Type} : Left H := { results := [], args := [] }

/- WHAT THE LISTED PACKAGE-LEVEL VARIABLES READ AS WHEN THE CALL BEGINS. Each datum BY PROGRAM (the guide's laid-datum.mjs) off the statement by which the dump's own 'gosem.cut.vars' lays the variable. In a bare row this is a premise. The card (YtgnajdficmndgabGreatDoorRCards.lean) ties it to the program's text. -/
def laid_pub_kmsg_pub_kmsg_inner_kbin_ErrNotEnoughData {H : Type} : DataW H := .iface "*errors.errorString" (.ptr (.agg [.lit (.string [114, 101, 115, 112, 111, 110, 115, 101, 32, 100, 105, 100, 32, 110, 111, 116, 32, 99, 111, 110, 116, 97, 105, 110, 32, 101, 110, 111, 117, 103, 104, 32, 100, 97, 116, 97, 32, 116, 111, 32, 98, 101, 32, 118, 97, 108, 105, 100])]))

/-- 'laws.FnAgainWriteTxnMarkersResponse': WHATEVER THE INPUT: true; the input reads as it did. -/
def fnAgainWriteTxnMarkersResponseSpec : ChangeSpec := { name := "fnAgainWriteTxnMarkersResponse", fn := fun _ => fun
  | [d1, d2] => { results := [.lit (.bool true)], args := [d1, d2] }
  | _ => none }
def fnAgainWriteTxnMarkersResponseRow : OpenClaim := { program := "ytgnajdficmndgabgreatdoorr", sum := "546d18712ad7ade981ae4f605a8e66b6831cd24a03a4b4c89dfe82d33fb54546", func := "pub-kmsg/laws.FnAgainWriteTxnMarkersResponse", spec := "fnAgainWriteTxnMarkersResponse", inPlace := ["internal/reflectlite.ValueOf", "internal/reflectlite.Swapper", "(internal/reflectlite.Value).Len"], unfollowed := true, recurses := true, named := ["encoding/binary.BigEndian", "pub-kmsg/pub/kmsg/inner/kbin.ErrNotEnoughData"], loops := true, apart := false, laid := [("pub-kmsg/pub/kmsg/inner/kbin.ErrNotEnoughData", laid_pub_kmsg_pub_kmsg_inner_kbin_ErrNotEnoughData)] }
def FnAgainWriteTxnMarkersResponseSaid : Prop := fnAgainWriteTxnMarkersResponseRow.holds Tryz.pinned (OpenSpec.ofChange fnAgainWriteTxnMarkersResponseSpec)

/-- ITS FALSE NEIGHBOUR: 'it returns false'. Refute it at one input. -/
def fnAgainWriteTxnMarkersResponseWrong : ChangeSpec := { name := "fnAgainWriteTxnMarkersResponse", fn := fun _ => fun
  | [d1, d2] => { results := [.lit (.bool false)], args := [d1, d2] }
  | _ => none }
def FnAgainWriteTxnMarkersResponseWrongFalsely : Prop := fnAgainWriteTxnMarkersResponseRow.holds Tryz.pinned (OpenSpec.ofChange fnAgainWriteTxnMarkersResponseWrong)

/-- 'laws.FnCutMetadataRequest': WHATEVER THE INPUT: true; the input reads as it did. -/
def fnCutMetadataRequestSpec : ChangeSpec := { name := "fnCutMetadataRequest", fn := fun _ => fun
  | [d1, d2, d3] => { results := [.lit (.bool true)], args := [d1, d2, d3] }
  | _ => none }
def fnCutMetadataRequestRow : OpenClaim := { program := "ytgnajdficmndgabgreatdoorr", sum := "546d18712ad7ade981ae4f605a8e66b6831cd24a03a4b4c89dfe82d33fb54546", func := "pub-kmsg/laws.FnCutMetadataRequest", spec := "fnCutMetadataRequest", inPlace := ["internal/reflectlite.ValueOf", "internal/reflectlite.Swapper", "(internal/reflectlite.Value).Len"], unfollowed := true, recurses := true, named := ["encoding/binary.BigEndian", "pub-kmsg/pub/kmsg/inner/kbin.ErrNotEnoughData"], loops := true, apart := false, laid := [("pub-kmsg/pub/kmsg/inner/kbin.ErrNotEnoughData", laid_pub_kmsg_pub_kmsg_inner_kbin_ErrNotEnoughData)] }
def FnCutMetadataRequestSaid : Prop := fnCutMetadataRequestRow.holds Tryz.pinned (OpenSpec.ofChange fnCutMetadataRequestSpec)

/-- ITS FALSE NEIGHBOUR: 'it returns false'. Refute it at one input. -/
def fnCutMetadataRequestWrong : ChangeSpec := { name := "fnCutMetadataRequest", fn := fun _ => fun
  | [d1, d2, d3] => { results := [.lit (.bool false)], args := [d1, d2, d3] }
  | _ => none }
def FnCutMetadataRequestWrongFalsely : Prop := fnCutMetadataRequestRow.holds Tryz.pinned (OpenSpec.ofChange fnCutMetadataRequestWrong)

/-- 'laws.FnCutLeaderAndISRResponse': WHATEVER THE INPUT: true; the input reads as it did. -/
def fnCutLeaderAndISRResponseSpec : ChangeSpec := { name := "fnCutLeaderAndISRResponse", fn := fun _ => fun
  | [d1, d2, d3] => { results := [.lit (.bool true)], args := [d1, d2, d3] }
  | _ => none }
def fnCutLeaderAndISRResponseRow : OpenClaim := { program := "ytgnajdficmndgabgreatdoorr", sum := "546d18712ad7ade981ae4f605a8e66b6831cd24a03a4b4c89dfe82d33fb54546", func := "pub-kmsg/laws.FnCutLeaderAndISRResponse", spec := "fnCutLeaderAndISRResponse", inPlace := ["internal/reflectlite.ValueOf", "internal/reflectlite.Swapper", "(internal/reflectlite.Value).Len"], unfollowed := true, recurses := true, named := ["encoding/binary.BigEndian", "pub-kmsg/pub/kmsg/inner/kbin.ErrNotEnoughData"], loops := true, apart := false, laid := [("pub-kmsg/pub/kmsg/inner/kbin.ErrNotEnoughData", laid_pub_kmsg_pub_kmsg_inner_kbin_ErrNotEnoughData)] }
def FnCutLeaderAndISRResponseSaid : Prop := fnCutLeaderAndISRResponseRow.holds Tryz.pinned (OpenSpec.ofChange fnCutLeaderAndISRResponseSpec)

/-- ITS FALSE NEIGHBOUR: 'it returns false'. Refute it at one input. -/
def fnCutLeaderAndISRResponseWrong : ChangeSpec := { name := "fnCutLeaderAndISRResponse", fn := fun _ => fun
  | [d1, d2, d3] => { results := [.lit (.bool false)], args := [d1, d2, d3] }
  | _ => none }
def FnCutLeaderAndISRResponseWrongFalsely : Prop := fnCutLeaderAndISRResponseRow.holds Tryz.pinned (OpenSpec.ofChange fnCutLeaderAndISRResponseWrong)

/-- 'laws.FnAgainAlterUserSCRAMCredentialsRequest': WHATEVER THE INPUT: true; the input reads as it did. -/
def fnAgainAlterUserSCRAMCredentialsRequestSpec : ChangeSpec := { name := "fnAgainAlterUserSCRAMCredentialsRequest", fn := fun _ => fun
  | [d1, d2] => { results := [.lit (.bool true)], args := [d1, d2] }
  | _ => none }
def fnAgainAlterUserSCRAMCredentialsRequestRow : OpenClaim := { program := "ytgnajdficmndgabgreatdoorr", sum := "546d18712ad7ade981ae4f605a8e66b6831cd24a03a4b4c89dfe82d33fb54546", func := "pub-kmsg/laws.FnAgainAlterUserSCRAMCredentialsRequest", spec := "fnAgainAlterUserSCRAMCredentialsRequest", inPlace := ["internal/reflectlite.ValueOf", "internal/reflectlite.Swapper", "(internal/reflectlite.Value).Len"], unfollowed := true, recurses := true, named := ["encoding/binary.BigEndian", "pub-kmsg/pub/kmsg/inner/kbin.ErrNotEnoughData"], loops := true, apart := false, laid := [("pub-kmsg/pub/kmsg/inner/kbin.ErrNotEnoughData", laid_pub_kmsg_pub_kmsg_inner_kbin_ErrNotEnoughData)] }
def FnAgainAlterUserSCRAMCredentialsRequestSaid : Prop := fnAgainAlterUserSCRAMCredentialsRequestRow.holds Tryz.pinned (OpenSpec.ofChange fnAgainAlterUserSCRAMCredentialsRequestSpec)

/-- ITS FALSE NEIGHBOUR: 'it returns false'. Refute it at one input. -/
def fnAgainAlterUserSCRAMCredentialsRequestWrong : ChangeSpec := { name := "fnAgainAlterUserSCRAMCredentialsRequest", fn := fun _ => fun
  | [d1, d2] => { results := [.lit (.bool false)], args := [d1, d2] }
  | _ => none }
def FnAgainAlterUserSCRAMCredentialsRequestWrongFalsely : Prop := fnAgainAlterUserSCRAMCredentialsRequestRow.holds Tryz.pinned (OpenSpec.ofChange fnAgainAlterUserSCRAMCredentialsRequestWrong)

/-- 'laws.FnAgainDescribeUserSCRAMCredentialsResponse': WHATEVER THE INPUT: true; the input reads as it did. -/
def fnAgainDescribeUserSCRAMCredentialsResponseSpec : ChangeSpec := { name := "fnAgainDescribeUserSCRAMCredentialsResponse", fn := fun _ => fun
  | [d1, d2] => { results := [.lit (.bool true)], args := [d1, d2] }
  | _ => none }
def fnAgainDescribeUserSCRAMCredentialsResponseRow : OpenClaim := { program := "ytgnajdficmndgabgreatdoorr", sum := "546d18712ad7ade981ae4f605a8e66b6831cd24a03a4b4c89dfe82d33fb54546", func := "pub-kmsg/laws.FnAgainDescribeUserSCRAMCredentialsResponse", spec := "fnAgainDescribeUserSCRAMCredentialsResponse", inPlace := ["internal/reflectlite.ValueOf", "internal/reflectlite.Swapper", "(internal/reflectlite.Value).Len"], unfollowed := true, recurses := true, named := ["encoding/binary.BigEndian", "pub-kmsg/pub/kmsg/inner/kbin.ErrNotEnoughData"], loops := true, apart := false, laid := [("pub-kmsg/pub/kmsg/inner/kbin.ErrNotEnoughData", laid_pub_kmsg_pub_kmsg_inner_kbin_ErrNotEnoughData)] }
def FnAgainDescribeUserSCRAMCredentialsResponseSaid : Prop := fnAgainDescribeUserSCRAMCredentialsResponseRow.holds Tryz.pinned (OpenSpec.ofChange fnAgainDescribeUserSCRAMCredentialsResponseSpec)

/-- ITS FALSE NEIGHBOUR: 'it returns false'. Refute it at one input. -/
def fnAgainDescribeUserSCRAMCredentialsResponseWrong : ChangeSpec := { name := "fnAgainDescribeUserSCRAMCredentialsResponse", fn := fun _ => fun
  | [d1, d2] => { results := [.lit (.bool false)], args := [d1, d2] }
  | _ => none }
def FnAgainDescribeUserSCRAMCredentialsResponseWrongFalsely : Prop := fnAgainDescribeUserSCRAMCredentialsResponseRow.holds Tryz.pinned (OpenSpec.ofChange fnAgainDescribeUserSCRAMCredentialsResponseWrong)

/-- 'laws.FnAgainCreateTopicsRequest': WHATEVER THE INPUT: true; the input reads as it did. -/
def fnAgainCreateTopicsRequestSpec : ChangeSpec := { name := "fnAgainCreateTopicsRequest", fn := fun _ => fun
  | [d1, d2] => { results := [.lit (.bool true)], args := [d1, d2] }
  | _ => none }
def fnAgainCreateTopicsRequestRow : OpenClaim := { program := "ytgnajdficmndgabgreatdoorr", sum := "546d18712ad7ade981ae4f605a8e66b6831cd24a03a4b4c89dfe82d33fb54546", func := "pub-kmsg/laws.FnAgainCreateTopicsRequest", spec := "fnAgainCreateTopicsRequest", inPlace := ["internal/reflectlite.ValueOf", "internal/reflectlite.Swapper", "(internal/reflectlite.Value).Len"], unfollowed := true, recurses := true, named := ["encoding/binary.BigEndian", "pub-kmsg/pub/kmsg/inner/kbin.ErrNotEnoughData"], loops := true, apart := false, laid := [("pub-kmsg/pub/kmsg/inner/kbin.ErrNotEnoughData", laid_pub_kmsg_pub_kmsg_inner_kbin_ErrNotEnoughData)] }
def FnAgainCreateTopicsRequestSaid : Prop := fnAgainCreateTopicsRequestRow.holds Tryz.pinned (OpenSpec.ofChange fnAgainCreateTopicsRequestSpec)

/-- ITS FALSE NEIGHBOUR: 'it returns false'. Refute it at one input. -/
def fnAgainCreateTopicsRequestWrong : ChangeSpec := { name := "fnAgainCreateTopicsRequest", fn := fun _ => fun
  | [d1, d2] => { results := [.lit (.bool false)], args := [d1, d2] }
  | _ => none }
def FnAgainCreateTopicsRequestWrongFalsely : Prop := fnAgainCreateTopicsRequestRow.holds Tryz.pinned (OpenSpec.ofChange fnAgainCreateTopicsRequestWrong)

/-- 'laws.FnCutShareAcknowledgeRequest': WHATEVER THE INPUT: true; the input reads as it did. -/
def fnCutShareAcknowledgeRequestSpec : ChangeSpec := { name := "fnCutShareAcknowledgeRequest", fn := fun _ => fun
  | [d1, d2, d3] => { results := [.lit (.bool true)], args := [d1, d2, d3] }
  | _ => none }
def fnCutShareAcknowledgeRequestRow : OpenClaim := { program := "ytgnajdficmndgabgreatdoorr", sum := "546d18712ad7ade981ae4f605a8e66b6831cd24a03a4b4c89dfe82d33fb54546", func := "pub-kmsg/laws.FnCutShareAcknowledgeRequest", spec := "fnCutShareAcknowledgeRequest", inPlace := ["internal/reflectlite.ValueOf", "internal/reflectlite.Swapper", "(internal/reflectlite.Value).Len"], unfollowed := true, recurses := true, named := ["encoding/binary.BigEndian", "pub-kmsg/pub/kmsg/inner/kbin.ErrNotEnoughData"], loops := true, apart := false, laid := [("pub-kmsg/pub/kmsg/inner/kbin.ErrNotEnoughData", laid_pub_kmsg_pub_kmsg_inner_kbin_ErrNotEnoughData)] }
def FnCutShareAcknowledgeRequestSaid : Prop := fnCutShareAcknowledgeRequestRow.holds Tryz.pinned (OpenSpec.ofChange fnCutShareAcknowledgeRequestSpec)

/-- ITS FALSE NEIGHBOUR: 'it returns false'. Refute it at one input. -/
def fnCutShareAcknowledgeRequestWrong : ChangeSpec := { name := "fnCutShareAcknowledgeRequest", fn := fun _ => fun
  | [d1, d2, d3] => { results := [.lit (.bool false)], args := [d1, d2, d3] }
  | _ => none }
def FnCutShareAcknowledgeRequestWrongFalsely : Prop := fnCutShareAcknowledgeRequestRow.holds Tryz.pinned (OpenSpec.ofChange fnCutShareAcknowledgeRequestWrong)

/- THE SECOND FORM. 'bulk': how many values and letters a reading holds, each counted each time it is reached (what is shared counts as often as it is met; a slice's spare places count too). A statement '..UptoSaid' is the law's where the arguments, and the package variables that the reading takes, are together of bulk at most 1048576: NARROWER than '..Said'. Prove '..Said' where nothing that the law and all that it calls make is longer than what came in: it says more and counts as full. Else prove '..UptoSaid'. A law counts once. -/
mutual
def uptoBulk {H : Type} : DataW H → Nat
  | .lit (.string bytes) => bytes.length + 1
  | .lit _ => 1
  | .nil => 1
  | .ptr d => uptoBulk d + 1
  | .slice elems spare => uptoBulkAll elems + uptoBulkAll spare + 1
  | .agg parts => uptoBulkAll parts + 1
  | .iface _ d => uptoBulk d + 1
  | .map entries => uptoBulkEntries entries + 1
  | .held _ => 1
def uptoBulkAll {H : Type} : List (DataW H) → Nat
  | [] => 0
  | d :: r => uptoBulk d + uptoBulkAll r
def uptoBulkEntries {H : Type} : List (Lit × DataW H) → Nat
  | [] => 0
  | x :: r => uptoBulkEntry x + uptoBulkEntries r
def uptoBulkEntry {H : Type} : Lit × DataW H → Nat
  | (.string bytes, d) => bytes.length + uptoBulk d + 1
  | (_, d) => uptoBulk d + 1
 end
def uptoSmall : (H : Type) → List (DataW H) → Bool := fun _ ds => decide (uptoBulkAll ds ≤ 1048576)
def OpenSpec.upto (s : _root_.Go.ChangeSpec) : _root_.Go.OpenSpec := { _root_.Go.OpenSpec.ofChange s with cond := some uptoSmall }

/-- 'laws.FnAgainWriteTxnMarkersResponse', WHERE WHAT IT READS IS OF BULK AT MOST 1048576: true; the input reads as it did. -/
def fnAgainWriteTxnMarkersResponseUptoRow : OpenClaim := { program := "ytgnajdficmndgabgreatdoorr", sum := "546d18712ad7ade981ae4f605a8e66b6831cd24a03a4b4c89dfe82d33fb54546", func := "pub-kmsg/laws.FnAgainWriteTxnMarkersResponse", spec := "fnAgainWriteTxnMarkersResponse", inPlace := ["internal/reflectlite.ValueOf", "internal/reflectlite.Swapper", "(internal/reflectlite.Value).Len"], unfollowed := true, recurses := true, named := ["encoding/binary.BigEndian", "pub-kmsg/pub/kmsg/inner/kbin.ErrNotEnoughData"], loops := true, apart := false, laid := [("pub-kmsg/pub/kmsg/inner/kbin.ErrNotEnoughData", laid_pub_kmsg_pub_kmsg_inner_kbin_ErrNotEnoughData)], narrowed := true }
def FnAgainWriteTxnMarkersResponseUptoSaid : Prop := fnAgainWriteTxnMarkersResponseUptoRow.holds Tryz.pinned (OpenSpec.upto fnAgainWriteTxnMarkersResponseSpec)

/-- 'laws.FnCutMetadataRequest', WHERE WHAT IT READS IS OF BULK AT MOST 1048576: true; the input reads as it did. -/
def fnCutMetadataRequestUptoRow : OpenClaim := { program := "ytgnajdficmndgabgreatdoorr", sum := "546d18712ad7ade981ae4f605a8e66b6831cd24a03a4b4c89dfe82d33fb54546", func := "pub-kmsg/laws.FnCutMetadataRequest", spec := "fnCutMetadataRequest", inPlace := ["internal/reflectlite.ValueOf", "internal/reflectlite.Swapper", "(internal/reflectlite.Value).Len"], unfollowed := true, recurses := true, named := ["encoding/binary.BigEndian", "pub-kmsg/pub/kmsg/inner/kbin.ErrNotEnoughData"], loops := true, apart := false, laid := [("pub-kmsg/pub/kmsg/inner/kbin.ErrNotEnoughData", laid_pub_kmsg_pub_kmsg_inner_kbin_ErrNotEnoughData)], narrowed := true }
def FnCutMetadataRequestUptoSaid : Prop := fnCutMetadataRequestUptoRow.holds Tryz.pinned (OpenSpec.upto fnCutMetadataRequestSpec)

/-- 'laws.FnCutLeaderAndISRResponse', WHERE WHAT IT READS IS OF BULK AT MOST 1048576: true; the input reads as it did. -/
def fnCutLeaderAndISRResponseUptoRow : OpenClaim := { program := "ytgnajdficmndgabgreatdoorr", sum := "546d18712ad7ade981ae4f605a8e66b6831cd24a03a4b4c89dfe82d33fb54546", func := "pub-kmsg/laws.FnCutLeaderAndISRResponse", spec := "fnCutLeaderAndISRResponse", inPlace := ["internal/reflectlite.ValueOf", "internal/reflectlite.Swapper", "(internal/reflectlite.Value).Len"], unfollowed := true, recurses := true, named := ["encoding/binary.BigEndian", "pub-kmsg/pub/kmsg/inner/kbin.ErrNotEnoughData"], loops := true, apart := false, laid := [("pub-kmsg/pub/kmsg/inner/kbin.ErrNotEnoughData", laid_pub_kmsg_pub_kmsg_inner_kbin_ErrNotEnoughData)], narrowed := true }
def FnCutLeaderAndISRResponseUptoSaid : Prop := fnCutLeaderAndISRResponseUptoRow.holds Tryz.pinned (OpenSpec.upto fnCutLeaderAndISRResponseSpec)

/-- 'laws.FnAgainAlterUserSCRAMCredentialsRequest', WHERE WHAT IT READS IS OF BULK AT MOST 1048576: true; the input reads as it did. -/
def fnAgainAlterUserSCRAMCredentialsRequestUptoRow : OpenClaim := { program := "ytgnajdficmndgabgreatdoorr", sum := "546d18712ad7ade981ae4f605a8e66b6831cd24a03a4b4c89dfe82d33fb54546", func := "pub-kmsg/laws.FnAgainAlterUserSCRAMCredentialsRequest", spec := "fnAgainAlterUserSCRAMCredentialsRequest", inPlace := ["internal/reflectlite.ValueOf", "internal/reflectlite.Swapper", "(internal/reflectlite.Value).Len"], unfollowed := true, recurses := true, named := ["encoding/binary.BigEndian", "pub-kmsg/pub/kmsg/inner/kbin.ErrNotEnoughData"], loops := true, apart := false, laid := [("pub-kmsg/pub/kmsg/inner/kbin.ErrNotEnoughData", laid_pub_kmsg_pub_kmsg_inner_kbin_ErrNotEnoughData)], narrowed := true }
def FnAgainAlterUserSCRAMCredentialsRequestUptoSaid : Prop := fnAgainAlterUserSCRAMCredentialsRequestUptoRow.holds Tryz.pinned (OpenSpec.upto fnAgainAlterUserSCRAMCredentialsRequestSpec)

/-- 'laws.FnAgainDescribeUserSCRAMCredentialsResponse', WHERE WHAT IT READS IS OF BULK AT MOST 1048576: true; the input reads as it did. -/
def fnAgainDescribeUserSCRAMCredentialsResponseUptoRow : OpenClaim := { program := "ytgnajdficmndgabgreatdoorr", sum := "546d18712ad7ade981ae4f605a8e66b6831cd24a03a4b4c89dfe82d33fb54546", func := "pub-kmsg/laws.FnAgainDescribeUserSCRAMCredentialsResponse", spec := "fnAgainDescribeUserSCRAMCredentialsResponse", inPlace := ["internal/reflectlite.ValueOf", "internal/reflectlite.Swapper", "(internal/reflectlite.Value).Len"], unfollowed := true, recurses := true, named := ["encoding/binary.BigEndian", "pub-kmsg/pub/kmsg/inner/kbin.ErrNotEnoughData"], loops := true, apart := false, laid := [("pub-kmsg/pub/kmsg/inner/kbin.ErrNotEnoughData", laid_pub_kmsg_pub_kmsg_inner_kbin_ErrNotEnoughData)], narrowed := true }
def FnAgainDescribeUserSCRAMCredentialsResponseUptoSaid : Prop := fnAgainDescribeUserSCRAMCredentialsResponseUptoRow.holds Tryz.pinned (OpenSpec.upto fnAgainDescribeUserSCRAMCredentialsResponseSpec)

/-- 'laws.FnAgainCreateTopicsRequest', WHERE WHAT IT READS IS OF BULK AT MOST 1048576: true; the input reads as it did. -/
def fnAgainCreateTopicsRequestUptoRow : OpenClaim := { program := "ytgnajdficmndgabgreatdoorr", sum := "546d18712ad7ade981ae4f605a8e66b6831cd24a03a4b4c89dfe82d33fb54546", func := "pub-kmsg/laws.FnAgainCreateTopicsRequest", spec := "fnAgainCreateTopicsRequest", inPlace := ["internal/reflectlite.ValueOf", "internal/reflectlite.Swapper", "(internal/reflectlite.Value).Len"], unfollowed := true, recurses := true, named := ["encoding/binary.BigEndian", "pub-kmsg/pub/kmsg/inner/kbin.ErrNotEnoughData"], loops := true, apart := false, laid := [("pub-kmsg/pub/kmsg/inner/kbin.ErrNotEnoughData", laid_pub_kmsg_pub_kmsg_inner_kbin_ErrNotEnoughData)], narrowed := true }
def FnAgainCreateTopicsRequestUptoSaid : Prop := fnAgainCreateTopicsRequestUptoRow.holds Tryz.pinned (OpenSpec.upto fnAgainCreateTopicsRequestSpec)

/-- 'laws.FnCutShareAcknowledgeRequest', WHERE WHAT IT READS IS OF BULK AT MOST 1048576: true; the input reads as it did. -/
def fnCutShareAcknowledgeRequestUptoRow : OpenClaim := { program := "ytgnajdficmndgabgreatdoorr", sum := "546d18712ad7ade981ae4f605a8e66b6831cd24a03a4b4c89dfe82d33fb54546", func := "pub-kmsg/laws.FnCutShareAcknowledgeRequest", spec := "fnCutShareAcknowledgeRequest", inPlace := ["internal/reflectlite.ValueOf", "internal/reflectlite.Swapper", "(internal/reflectlite.Value).Len"], unfollowed := true, recurses := true, named := ["encoding/binary.BigEndian", "pub-kmsg/pub/kmsg/inner/kbin.ErrNotEnoughData"], loops := true, apart := false, laid := [("pub-kmsg/pub/kmsg/inner/kbin.ErrNotEnoughData", laid_pub_kmsg_pub_kmsg_inner_kbin_ErrNotEnoughData)], narrowed := true }
def FnCutShareAcknowledgeRequestUptoSaid : Prop := fnCutShareAcknowledgeRequestUptoRow.holds Tryz.pinned (OpenSpec.upto fnCutShareAcknowledgeRequestSpec)

end Rows
end Go.Proofs.YtgnajdficmndgabGreatDoorR
