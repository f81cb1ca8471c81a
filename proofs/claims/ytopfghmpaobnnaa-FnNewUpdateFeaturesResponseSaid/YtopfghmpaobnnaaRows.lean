/-
  No cell of these rows narrows 'for every input' (looked for: loops, veiled, ifaces, maps, wideKeys, modest, calm, conditions, laid).
  DERIVED. THE GIVEN ROWS OF THIS SEAT. 6 by the template 'for every input the law returns true; each argument reads behind the call as it read before'; 0 by the template 'total and deterministic' (their statements: YtopfghmpaobnnaaTotals.lean).
  GIVEN WITH THE SEED: the statements are not yours to turn. If you find one false, say at which input.
  Laid BY PROGRAM, IN A SANDBOX (cutbox-rows.mjs): the forced cells as the released guide's own fill.sh prints them over the translation 7b4fb4795ad171d8… (all of the seat's roots in one cut). By AI agents, Wed Nov 11 2026. No macro, syntax, notation, axiom, sorry.
-/
import Derived.Test.YtopfghmpaobnnaaChecked
import GoSem.Claim
import GoSem.ClaimJoined
import GoSem.ClaimMapViews
import Derived.JoinedTies
import Derived.KernelRfl
namespace Go.Proofs.Ytopfghmpaobnnaa
/- THE CELL 'sum', in the pinned program and in every row, IS THE sha256 OF THE DUMP (.gsa) THAT YtopfghmpaobnnaaProg.lean LOADS. Nothing in Lean hashes anything: it is a label: what it is worth is what the hold of that sum in a sandbox is worth. -/
noncomputable def Try.pinned : Pinned := { name := "ytopfghmpaobnnaa", sum := "7b4fb4795ad171d8b3323541500c5869cf868d5054d8f332c7273642903f1299", checked := Try.checked }
namespace Rows
def none {H : Type} : Left H := { results := [], args := [] }

/-- 'laws.FnConfigResourceTypeWords': WHATEVER THE INPUT: true; the input reads as it did. -/
def fnConfigResourceTypeWordsSpec : ChangeSpec := { name := "fnConfigResourceTypeWords", fn := fun _ => fun
  | [] => { results := [.lit (.bool true)], args := [] }
  | _ => none }
def fnConfigResourceTypeWordsRow : OpenClaim := { program := "ytopfghmpaobnnaa", sum := "7b4fb4795ad171d8b3323541500c5869cf868d5054d8f332c7273642903f1299", func := "pub-kmsg/laws.FnConfigResourceTypeWords", spec := "fnConfigResourceTypeWords", apart := false }
def FnConfigResourceTypeWordsSaid : Prop := fnConfigResourceTypeWordsRow.holds Try.pinned (OpenSpec.ofChange fnConfigResourceTypeWordsSpec)

/-- ITS FALSE NEIGHBOUR: 'it returns false'. Refute it at one input. -/
def fnConfigResourceTypeWordsWrong : ChangeSpec := { name := "fnConfigResourceTypeWords", fn := fun _ => fun
  | [] => { results := [.lit (.bool false)], args := [] }
  | _ => none }
def FnConfigResourceTypeWordsWrongFalsely : Prop := fnConfigResourceTypeWordsRow.holds Try.pinned (OpenSpec.ofChange fnConfigResourceTypeWordsWrong)

/-- 'laws.FnNewSASLHandshakeResponse': WHATEVER THE INPUT: true; the input reads as it did. -/
def fnNewSASLHandshakeResponseSpec : ChangeSpec := { name := "fnNewSASLHandshakeResponse", fn := fun _ => fun
  | [d] => { results := [.lit (.bool true)], args := [d] }
  | _ => none }
def fnNewSASLHandshakeResponseRow : OpenClaim := { program := "ytopfghmpaobnnaa", sum := "7b4fb4795ad171d8b3323541500c5869cf868d5054d8f332c7273642903f1299", func := "pub-kmsg/laws.FnNewSASLHandshakeResponse", spec := "fnNewSASLHandshakeResponse", recurses := true, apart := false }
def FnNewSASLHandshakeResponseSaid : Prop := fnNewSASLHandshakeResponseRow.holds Try.pinned (OpenSpec.ofChange fnNewSASLHandshakeResponseSpec)

/-- ITS FALSE NEIGHBOUR: 'it returns false'. Refute it at one input. -/
def fnNewSASLHandshakeResponseWrong : ChangeSpec := { name := "fnNewSASLHandshakeResponse", fn := fun _ => fun
  | [d] => { results := [.lit (.bool false)], args := [d] }
  | _ => none }
def FnNewSASLHandshakeResponseWrongFalsely : Prop := fnNewSASLHandshakeResponseRow.holds Try.pinned (OpenSpec.ofChange fnNewSASLHandshakeResponseWrong)

/-- 'laws.FnNewControlledShutdownRequest': WHATEVER THE INPUT: true; the input reads as it did. -/
def fnNewControlledShutdownRequestSpec : ChangeSpec := { name := "fnNewControlledShutdownRequest", fn := fun _ => fun
  | [d] => { results := [.lit (.bool true)], args := [d] }
  | _ => none }
def fnNewControlledShutdownRequestRow : OpenClaim := { program := "ytopfghmpaobnnaa", sum := "7b4fb4795ad171d8b3323541500c5869cf868d5054d8f332c7273642903f1299", func := "pub-kmsg/laws.FnNewControlledShutdownRequest", spec := "fnNewControlledShutdownRequest", inPlace := ["internal/reflectlite.ValueOf", "internal/reflectlite.Swapper", "(internal/reflectlite.Value).Len"], unfollowed := true, recurses := true, apart := false }
def FnNewControlledShutdownRequestSaid : Prop := fnNewControlledShutdownRequestRow.holds Try.pinned (OpenSpec.ofChange fnNewControlledShutdownRequestSpec)

/-- ITS FALSE NEIGHBOUR: 'it returns false'. Refute it at one input. -/
def fnNewControlledShutdownRequestWrong : ChangeSpec := { name := "fnNewControlledShutdownRequest", fn := fun _ => fun
  | [d] => { results := [.lit (.bool false)], args := [d] }
  | _ => none }
def FnNewControlledShutdownRequestWrongFalsely : Prop := fnNewControlledShutdownRequestRow.holds Try.pinned (OpenSpec.ofChange fnNewControlledShutdownRequestWrong)

/-- 'laws.FnTagsCut': WHATEVER THE INPUT: true; the input reads as it did. -/
def fnTagsCutSpec : ChangeSpec := { name := "fnTagsCut", fn := fun _ => fun
  | [d1, d2] => { results := [.lit (.bool true)], args := [d1, d2] }
  | _ => none }
def fnTagsCutRow : OpenClaim := { program := "ytopfghmpaobnnaa", sum := "7b4fb4795ad171d8b3323541500c5869cf868d5054d8f332c7273642903f1299", func := "pub-kmsg/laws.FnTagsCut", spec := "fnTagsCut", inPlace := ["internal/reflectlite.ValueOf", "internal/reflectlite.Swapper", "(internal/reflectlite.Value).Len"], unfollowed := true, recurses := true, apart := false }
def FnTagsCutSaid : Prop := fnTagsCutRow.holds Try.pinned (OpenSpec.ofChange fnTagsCutSpec)

/-- ITS FALSE NEIGHBOUR: 'it returns false'. Refute it at one input. -/
def fnTagsCutWrong : ChangeSpec := { name := "fnTagsCut", fn := fun _ => fun
  | [d1, d2] => { results := [.lit (.bool false)], args := [d1, d2] }
  | _ => none }
def FnTagsCutWrongFalsely : Prop := fnTagsCutRow.holds Try.pinned (OpenSpec.ofChange fnTagsCutWrong)

/-- 'laws.FnNewPushTelemetryRequest': WHATEVER THE INPUT: true; the input reads as it did. -/
def fnNewPushTelemetryRequestSpec : ChangeSpec := { name := "fnNewPushTelemetryRequest", fn := fun _ => fun
  | [d] => { results := [.lit (.bool true)], args := [d] }
  | _ => none }
def fnNewPushTelemetryRequestRow : OpenClaim := { program := "ytopfghmpaobnnaa", sum := "7b4fb4795ad171d8b3323541500c5869cf868d5054d8f332c7273642903f1299", func := "pub-kmsg/laws.FnNewPushTelemetryRequest", spec := "fnNewPushTelemetryRequest", inPlace := ["internal/reflectlite.ValueOf", "internal/reflectlite.Swapper", "(internal/reflectlite.Value).Len"], unfollowed := true, recurses := true, apart := false }
def FnNewPushTelemetryRequestSaid : Prop := fnNewPushTelemetryRequestRow.holds Try.pinned (OpenSpec.ofChange fnNewPushTelemetryRequestSpec)

/-- ITS FALSE NEIGHBOUR: 'it returns false'. Refute it at one input. -/
def fnNewPushTelemetryRequestWrong : ChangeSpec := { name := "fnNewPushTelemetryRequest", fn := fun _ => fun
  | [d] => { results := [.lit (.bool false)], args := [d] }
  | _ => none }
def FnNewPushTelemetryRequestWrongFalsely : Prop := fnNewPushTelemetryRequestRow.holds Try.pinned (OpenSpec.ofChange fnNewPushTelemetryRequestWrong)

/-- 'laws.FnNewUpdateFeaturesResponse': WHATEVER THE INPUT: true; the input reads as it did. -/
def fnNewUpdateFeaturesResponseSpec : ChangeSpec := { name := "fnNewUpdateFeaturesResponse", fn := fun _ => fun
  | [d] => { results := [.lit (.bool true)], args := [d] }
  | _ => none }
def fnNewUpdateFeaturesResponseRow : OpenClaim := { program := "ytopfghmpaobnnaa", sum := "7b4fb4795ad171d8b3323541500c5869cf868d5054d8f332c7273642903f1299", func := "pub-kmsg/laws.FnNewUpdateFeaturesResponse", spec := "fnNewUpdateFeaturesResponse", inPlace := ["internal/reflectlite.ValueOf", "internal/reflectlite.Swapper", "(internal/reflectlite.Value).Len"], unfollowed := true, recurses := true, apart := false }
def FnNewUpdateFeaturesResponseSaid : Prop := fnNewUpdateFeaturesResponseRow.holds Try.pinned (OpenSpec.ofChange fnNewUpdateFeaturesResponseSpec)

/-- ITS FALSE NEIGHBOUR: 'it returns false'. Refute it at one input. -/
def fnNewUpdateFeaturesResponseWrong : ChangeSpec := { name := "fnNewUpdateFeaturesResponse", fn := fun _ => fun
  | [d] => { results := [.lit (.bool false)], args := [d] }
  | _ => none }
def FnNewUpdateFeaturesResponseWrongFalsely : Prop := fnNewUpdateFeaturesResponseRow.holds Try.pinned (OpenSpec.ofChange fnNewUpdateFeaturesResponseWrong)

/- THE SECOND FORM. 'bulk': how many values and letters a reading holds, each counted each time it is reached (what is shared counts as often as it is met; a slice's spare places count too). A statement '..UptoSaid' is the law's where the arguments, and the package variables that the reading takes, are together of bulk at most 1048576: NARROWER than '..Said'. Prove '..Said' where nothing that the law and all that it calls make is longer than what came in: it says more and counts as full. Else prove '..UptoSaid'. A law counts once. -/
mutual
def uptoBulk {H : Type} : DataW H → Nat
  | .lit (.string bytes) => bytes.length + 1
  | .lit _ => 1
  | .nil => 1
  | .ptr d => uptoBulk d + 1
  | .slice elems spare => uptoBulkAll elems + uptoBulkAll spare + 1
  | .agg parts => uptoBulkAll parts + 1
  | .iface _ d => uptoBulk d + 1
  | .map entries => uptoBulkEntries entries + 1
  | .held _ => 1
def uptoBulkAll {H : Type} : List (DataW H) → Nat
  | [] => 0
  | d :: r => uptoBulk d + uptoBulkAll r
def uptoBulkEntries {H : Type} : List (Lit × DataW H) → Nat
  | [] => 0
  | x :: r => uptoBulkEntry x + uptoBulkEntries r
def uptoBulkEntry {H : Type} : Lit × DataW H → Nat
  | (.string bytes, d) => bytes.length + uptoBulk d + 1
  | (_, d) => uptoBulk d + 1
 end
def uptoSmall : (H : Type) → List (DataW H) → Bool := fun _ ds => decide (uptoBulkAll ds ≤ 1048576)
def OpenSpec.upto (s : _root_.Go.ChangeSpec) : _root_.Go.OpenSpec := { _root_.Go.OpenSpec.ofChange s with cond := some uptoSmall }

/-- 'laws.FnConfigResourceTypeWords', WHERE WHAT IT READS IS OF BULK AT MOST 1048576: true; the input reads as it did. -/
def fnConfigResourceTypeWordsUptoRow : OpenClaim := { program := "ytopfghmpaobnnaa", sum := "7b4fb4795ad171d8b3323541500c5869cf868d5054d8f332c7273642903f1299", func := "pub-kmsg/laws.FnConfigResourceTypeWords", spec := "fnConfigResourceTypeWords", apart := false, narrowed := true }
def FnConfigResourceTypeWordsUptoSaid : Prop := fnConfigResourceTypeWordsUptoRow.holds Try.pinned (OpenSpec.upto fnConfigResourceTypeWordsSpec)

/-- 'laws.FnNewSASLHandshakeResponse', WHERE WHAT IT READS IS OF BULK AT MOST 1048576: true; the input reads as it did. -/
def fnNewSASLHandshakeResponseUptoRow : OpenClaim := { program := "ytopfghmpaobnnaa", sum := "7b4fb4795ad171d8b3323541500c5869cf868d5054d8f332c7273642903f1299", func := "pub-kmsg/laws.FnNewSASLHandshakeResponse", spec := "fnNewSASLHandshakeResponse", recurses := true, apart := false, narrowed := true }
def FnNewSASLHandshakeResponseUptoSaid : Prop := fnNewSASLHandshakeResponseUptoRow.holds Try.pinned (OpenSpec.upto fnNewSASLHandshakeResponseSpec)

/-- 'laws.FnNewControlledShutdownRequest', WHERE WHAT IT READS IS OF BULK AT MOST 1048576: true; the input reads as it did. -/
def fnNewControlledShutdownRequestUptoRow : OpenClaim := { program := "ytopfghmpaobnnaa", sum := "7b4fb4795ad171d8b3323541500c5869cf868d5054d8f332c7273642903f1299", func := "pub-kmsg/laws.FnNewControlledShutdownRequest", spec := "fnNewControlledShutdownRequest", inPlace := ["internal/reflectlite.ValueOf", "internal/reflectlite.Swapper", "(internal/reflectlite.Value).Len"], unfollowed := true, recurses := true, apart := false, narrowed := true }
def FnNewControlledShutdownRequestUptoSaid : Prop := fnNewControlledShutdownRequestUptoRow.holds Try.pinned (OpenSpec.upto fnNewControlledShutdownRequestSpec)

/-- 'laws.FnTagsCut', WHERE WHAT IT READS IS OF BULK AT MOST 1048576: true; the input reads as it did. -/
def fnTagsCutUptoRow : OpenClaim := { program := "ytopfghmpaobnnaa", sum := "7b4fb4795ad171d8b3323541500c5869cf868d5054d8f332c7273642903f1299", func := "pub-kmsg/laws.FnTagsCut", spec := "fnTagsCut", inPlace := ["internal/reflectlite.ValueOf", "internal/reflectlite.Swapper", "(internal/reflectlite.Value).Len"], unfollowed := true, recurses := true, apart := false, narrowed := true }
def FnTagsCutUptoSaid : Prop := fnTagsCutUptoRow.holds Try.pinned (OpenSpec.upto fnTagsCutSpec)

/-- 'laws.FnNewPushTelemetryRequest', WHERE WHAT IT READS IS OF BULK AT MOST 1048576: true; the input reads as it did. -/
def fnNewPushTelemetryRequestUptoRow : OpenClaim := { program := "ytopfghmpaobnnaa", sum := "7b4fb4795ad171d8b3323541500c5869cf868d5054d8f332c7273642903f1299", func := "pub-kmsg/laws.FnNewPushTelemetryRequest", spec := "fnNewPushTelemetryRequest", inPlace := ["internal/reflectlite.ValueOf", "internal/reflectlite.Swapper", "(internal/reflectlite.Value).Len"], unfollowed := true, recurses := true, apart := false, narrowed := true }
def FnNewPushTelemetryRequestUptoSaid : Prop := fnNewPushTelemetryRequestUptoRow.holds Try.pinned (OpenSpec.upto fnNewPushTelemetryRequestSpec)

/-- 'laws.FnNewUpdateFeaturesResponse', WHERE WHAT IT READS IS OF BULK AT MOST 1048576: true; the input reads as it did. -/
def fnNewUpdateFeaturesResponseUptoRow : OpenClaim := { program := "ytopfghmpaobnnaa", sum := "7b4fb4795ad171d8b3323541500c5869cf868d5054d8f332c7273642903f1299", func := "pub-kmsg/laws.FnNewUpdateFeaturesResponse", spec := "fnNewUpdateFeaturesResponse", inPlace := ["internal/reflectlite.ValueOf", "internal/reflectlite.Swapper", "(internal/reflectlite.Value).Len"], unfollowed := true, recurses := true, apart := false, narrowed := true }
def FnNewUpdateFeaturesResponseUptoSaid : Prop := fnNewUpdateFeaturesResponseUptoRow.holds Try.pinned (OpenSpec.upto fnNewUpdateFeaturesResponseSpec)

end Rows
end Go.Proofs.Ytopfghmpaobnnaa
