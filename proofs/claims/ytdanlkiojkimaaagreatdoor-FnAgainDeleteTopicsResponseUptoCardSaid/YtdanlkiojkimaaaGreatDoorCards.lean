/-
  DERIVED. GIVEN WITH THE SEED: THE CARDS: each row of YtdanlkiojkimaaaGreatDoorRows.lean that lists a variable, with what it lists TIED to the program's text (the seventh form; the later family's looks); each row that meets fmt, with fmt's text TOLD by the authors' own Lean function (tested against real Go, not proved from fmt's source: count such statements apart). THE CARD IS WHAT COUNTS. Prove the row's statement (the work); the ties are given (YtdanlkiojkimaaaGreatDoorTie.lean); close each card by the builder's one call (the guide's Derived/Test/ToyasCard.lean, 'card_holds'). Laid BY PROGRAM, IN A SANDBOX (cutbox-door.mjs). By AI agents, Wed Nov 11 2026. No macro, syntax, notation, axiom, sorry.
-/
import Derived.Test.YtdanlkiojkimaaaGreatDoorRows
import GoSem.ClaimSeven
namespace Go.Proofs.YtdanlkiojkimaaaGreatDoor
namespace Rows

/-- THE TIED CARD OF 'laws.FnCutAssignReplicasToDirsRequest'. -/
def fnCutAssignReplicasToDirsRequestCard : Claim7 := { stood := { row := fnCutAssignReplicasToDirsRequestRow, standIns := [], harness := (true, "53f57145626dde3c690be258aa129a6bc73b595a4c4811cdd5c6cb39b0dd8a01"), looks := false }, kinds := [], alts := [], laidByText := true, laidKinds := [.sentinel], laidTests := true, laidLooks := .later }
def FnCutAssignReplicasToDirsRequestCardSaid : Prop := Claim7.holds Tryz.pinned (.plain (OpenSpec.ofChange fnCutAssignReplicasToDirsRequestSpec)) fnCutAssignReplicasToDirsRequestCard

/-- THE TIED CARD OF 'laws.FnAgainDeleteTopicsResponse'. -/
def fnAgainDeleteTopicsResponseCard : Claim7 := { stood := { row := fnAgainDeleteTopicsResponseRow, standIns := [], harness := (true, "53f57145626dde3c690be258aa129a6bc73b595a4c4811cdd5c6cb39b0dd8a01"), looks := false }, kinds := [], alts := [], laidByText := true, laidKinds := [.sentinel], laidTests := true, laidLooks := .later }
def FnAgainDeleteTopicsResponseCardSaid : Prop := Claim7.holds Tryz.pinned (.plain (OpenSpec.ofChange fnAgainDeleteTopicsResponseSpec)) fnAgainDeleteTopicsResponseCard

/-- THE TIED CARD OF 'laws.FnCutMetadataRequest'. -/
def fnCutMetadataRequestCard : Claim7 := { stood := { row := fnCutMetadataRequestRow, standIns := [], harness := (true, "53f57145626dde3c690be258aa129a6bc73b595a4c4811cdd5c6cb39b0dd8a01"), looks := false }, kinds := [], alts := [], laidByText := true, laidKinds := [.sentinel], laidTests := true, laidLooks := .later }
def FnCutMetadataRequestCardSaid : Prop := Claim7.holds Tryz.pinned (.plain (OpenSpec.ofChange fnCutMetadataRequestSpec)) fnCutMetadataRequestCard

/-- THE TIED CARD OF 'laws.FnAgainCreateTopicsRequest'. -/
def fnAgainCreateTopicsRequestCard : Claim7 := { stood := { row := fnAgainCreateTopicsRequestRow, standIns := [], harness := (true, "53f57145626dde3c690be258aa129a6bc73b595a4c4811cdd5c6cb39b0dd8a01"), looks := false }, kinds := [], alts := [], laidByText := true, laidKinds := [.sentinel], laidTests := true, laidLooks := .later }
def FnAgainCreateTopicsRequestCardSaid : Prop := Claim7.holds Tryz.pinned (.plain (OpenSpec.ofChange fnAgainCreateTopicsRequestSpec)) fnAgainCreateTopicsRequestCard

/-- THE TIED CARD OF 'laws.FnAgainGroupMetadataValue'. -/
def fnAgainGroupMetadataValueCard : Claim7 := { stood := { row := fnAgainGroupMetadataValueRow, standIns := [], harness := (true, "53f57145626dde3c690be258aa129a6bc73b595a4c4811cdd5c6cb39b0dd8a01"), looks := false }, kinds := [], alts := [], laidByText := true, laidKinds := [.sentinel], laidTests := true, laidLooks := .later }
def FnAgainGroupMetadataValueCardSaid : Prop := Claim7.holds Tryz.pinned (.plain (OpenSpec.ofChange fnAgainGroupMetadataValueSpec)) fnAgainGroupMetadataValueCard

/-- THE TIED CARD OF 'laws.FnCutDescribeClientQuotasResponse'. -/
def fnCutDescribeClientQuotasResponseCard : Claim7 := { stood := { row := fnCutDescribeClientQuotasResponseRow, standIns := [], harness := (true, "53f57145626dde3c690be258aa129a6bc73b595a4c4811cdd5c6cb39b0dd8a01"), looks := false }, kinds := [], alts := [], laidByText := true, laidKinds := [.sentinel], laidTests := true, laidLooks := .later }
def FnCutDescribeClientQuotasResponseCardSaid : Prop := Claim7.holds Tryz.pinned (.plain (OpenSpec.ofChange fnCutDescribeClientQuotasResponseSpec)) fnCutDescribeClientQuotasResponseCard

/-- THE SECOND FORM's CARD OF 'laws.FnCutAssignReplicasToDirsRequest'. -/
def fnCutAssignReplicasToDirsRequestUptoCard : Claim7 := { stood := { row := fnCutAssignReplicasToDirsRequestUptoRow, standIns := [], harness := (true, "53f57145626dde3c690be258aa129a6bc73b595a4c4811cdd5c6cb39b0dd8a01"), looks := false }, kinds := [], alts := [], laidByText := true, laidKinds := [.sentinel], laidTests := true, laidLooks := .later }
def FnCutAssignReplicasToDirsRequestUptoCardSaid : Prop := Claim7.holds Tryz.pinned (.plain (OpenSpec.upto fnCutAssignReplicasToDirsRequestSpec)) fnCutAssignReplicasToDirsRequestUptoCard

/-- THE SECOND FORM's CARD OF 'laws.FnAgainDeleteTopicsResponse'. -/
def fnAgainDeleteTopicsResponseUptoCard : Claim7 := { stood := { row := fnAgainDeleteTopicsResponseUptoRow, standIns := [], harness := (true, "53f57145626dde3c690be258aa129a6bc73b595a4c4811cdd5c6cb39b0dd8a01"), looks := false }, kinds := [], alts := [], laidByText := true, laidKinds := [.sentinel], laidTests := true, laidLooks := .later }
def FnAgainDeleteTopicsResponseUptoCardSaid : Prop := Claim7.holds Tryz.pinned (.plain (OpenSpec.upto fnAgainDeleteTopicsResponseSpec)) fnAgainDeleteTopicsResponseUptoCard

/-- THE SECOND FORM's CARD OF 'laws.FnCutMetadataRequest'. -/
def fnCutMetadataRequestUptoCard : Claim7 := { stood := { row := fnCutMetadataRequestUptoRow, standIns := [], harness := (true, "53f57145626dde3c690be258aa129a6bc73b595a4c4811cdd5c6cb39b0dd8a01"), looks := false }, kinds := [], alts := [], laidByText := true, laidKinds := [.sentinel], laidTests := true, laidLooks := .later }
def FnCutMetadataRequestUptoCardSaid : Prop := Claim7.holds Tryz.pinned (.plain (OpenSpec.upto fnCutMetadataRequestSpec)) fnCutMetadataRequestUptoCard

/-- THE SECOND FORM's CARD OF 'laws.FnAgainCreateTopicsRequest'. -/
def fnAgainCreateTopicsRequestUptoCard : Claim7 := { stood := { row := fnAgainCreateTopicsRequestUptoRow, standIns := [], harness := (true, "53f57145626dde3c690be258aa129a6bc73b595a4c4811cdd5c6cb39b0dd8a01"), looks := false }, kinds := [], alts := [], laidByText := true, laidKinds := [.sentinel], laidTests := true, laidLooks := .later }
def FnAgainCreateTopicsRequestUptoCardSaid : Prop := Claim7.holds Tryz.pinned (.plain (OpenSpec.upto fnAgainCreateTopicsRequestSpec)) fnAgainCreateTopicsRequestUptoCard

/-- THE SECOND FORM's CARD OF 'laws.FnAgainGroupMetadataValue'. -/
def fnAgainGroupMetadataValueUptoCard : Claim7 := { stood := { row := fnAgainGroupMetadataValueUptoRow, standIns := [], harness := (true, "53f57145626dde3c690be258aa129a6bc73b595a4c4811cdd5c6cb39b0dd8a01"), looks := false }, kinds := [], alts := [], laidByText := true, laidKinds := [.sentinel], laidTests := true, laidLooks := .later }
def FnAgainGroupMetadataValueUptoCardSaid : Prop := Claim7.holds Tryz.pinned (.plain (OpenSpec.upto fnAgainGroupMetadataValueSpec)) fnAgainGroupMetadataValueUptoCard

/-- THE SECOND FORM's CARD OF 'laws.FnCutDescribeClientQuotasResponse'. -/
def fnCutDescribeClientQuotasResponseUptoCard : Claim7 := { stood := { row := fnCutDescribeClientQuotasResponseUptoRow, standIns := [], harness := (true, "53f57145626dde3c690be258aa129a6bc73b595a4c4811cdd5c6cb39b0dd8a01"), looks := false }, kinds := [], alts := [], laidByText := true, laidKinds := [.sentinel], laidTests := true, laidLooks := .later }
def FnCutDescribeClientQuotasResponseUptoCardSaid : Prop := Claim7.holds Tryz.pinned (.plain (OpenSpec.upto fnCutDescribeClientQuotasResponseSpec)) fnCutDescribeClientQuotasResponseUptoCard
end Rows
end Go.Proofs.YtdanlkiojkimaaaGreatDoor
