/-
  DERIVED. GIVEN WITH THE SEED: THE CARDS: each row of YtdanlkiojkimaaaDoorRows.lean that lists a variable, with what it lists TIED to the program's text (the seventh form; the later family's looks); each row that meets fmt, with fmt's text TOLD by the authors' own Lean function (tested against real Go, not proved from fmt's source: count such statements apart). THE CARD IS WHAT COUNTS. Prove the row's statement (the work); the ties are given (YtdanlkiojkimaaaDoorTie.lean); close each card by the builder's one call (the guide's Derived/Test/ToyasCard.lean, 'card_holds'). Laid BY PROGRAM, IN A SANDBOX (cutbox-door.mjs). By AI agents, Wed Nov 11 2026. No macro, syntax, notation, axiom, sorry.
-/
import Derived.Test.YtdanlkiojkimaaaDoorRows
import GoSem.ClaimSeven
namespace Go.Proofs.YtdanlkiojkimaaaDoor
namespace Rows

/-- THE TIED CARD OF 'laws.FnCutTxnMetadataKey'. -/
def fnCutTxnMetadataKeyCard : Claim7 := { stood := { row := fnCutTxnMetadataKeyRow, standIns := [], harness := (true, "4b8e4efaf114e7e2ee10e52a3ec4fdf6f9342af8313763768cf711b08ff866b9"), looks := false }, kinds := [], alts := [], laidByText := true, laidKinds := [.sentinel], laidTests := true, laidLooks := .later }
def FnCutTxnMetadataKeyCardSaid : Prop := Claim7.holds Tryd.pinned (.plain (OpenSpec.ofChange fnCutTxnMetadataKeySpec)) fnCutTxnMetadataKeyCard

/-- THE TIED CARD OF 'laws.FnAnyConsumerMemberMetadata'. -/
def fnAnyConsumerMemberMetadataCard : Claim7 := { stood := { row := fnAnyConsumerMemberMetadataRow, standIns := [], harness := (true, "4b8e4efaf114e7e2ee10e52a3ec4fdf6f9342af8313763768cf711b08ff866b9"), looks := false }, kinds := [], alts := [], laidByText := true, laidKinds := [.sentinel], laidTests := true, laidLooks := .later }
def FnAnyConsumerMemberMetadataCardSaid : Prop := Claim7.holds Tryd.pinned (.plain (OpenSpec.ofChange fnAnyConsumerMemberMetadataSpec)) fnAnyConsumerMemberMetadataCard

/-- THE TIED CARD OF 'laws.FnAnyBatch'. -/
def fnAnyBatchCard : Claim7 := { stood := { row := fnAnyBatchRow, standIns := [], harness := (true, "4b8e4efaf114e7e2ee10e52a3ec4fdf6f9342af8313763768cf711b08ff866b9"), looks := false }, kinds := [], alts := [], laidByText := true, laidKinds := [.sentinel], laidTests := true, laidLooks := .later }
def FnAnyBatchCardSaid : Prop := Claim7.holds Tryd.pinned (.plain (OpenSpec.ofChange fnAnyBatchSpec)) fnAnyBatchCard

/-- THE TIED CARD OF 'laws.FnParseACLResourcePatternType'. -/
def fnParseACLResourcePatternTypeCard : Claim7 := { stood := { row := fnParseACLResourcePatternTypeRow, standIns := [], harness := (true, "4b8e4efaf114e7e2ee10e52a3ec4fdf6f9342af8313763768cf711b08ff866b9"), looks := false }, kinds := [], alts := [], laidByText := true, laidKinds := [.data, .listed, .data, .pinned, .pinned], laidTests := true, laidLooks := .later }
def FnParseACLResourcePatternTypeCardSaid : Prop := Claim7.holds Tryd.pinned (.plain (OpenSpec.ofChange fnParseACLResourcePatternTypeSpec)) fnParseACLResourcePatternTypeCard

/-- THE TIED CARD OF 'laws.FnQuotasMatchTypeText'. -/
def fnQuotasMatchTypeTextCard : Claim7 := { stood := { row := fnQuotasMatchTypeTextRow, standIns := [], harness := (true, "4b8e4efaf114e7e2ee10e52a3ec4fdf6f9342af8313763768cf711b08ff866b9"), looks := false }, kinds := [], alts := [], laidByText := true, laidKinds := [.data, .listed, .data, .pinned, .pinned], laidTests := true, laidLooks := .later }
def FnQuotasMatchTypeTextCardSaid : Prop := Claim7.holds Tryd.pinned (.plain (OpenSpec.ofChange fnQuotasMatchTypeTextSpec)) fnQuotasMatchTypeTextCard

/-- THE TIED CARD OF 'laws.FnAnyDescribeTopicPartitionsRequest'. -/
def fnAnyDescribeTopicPartitionsRequestCard : Claim7 := { stood := { row := fnAnyDescribeTopicPartitionsRequestRow, standIns := [], harness := (true, "4b8e4efaf114e7e2ee10e52a3ec4fdf6f9342af8313763768cf711b08ff866b9"), looks := false }, kinds := [], alts := [], laidByText := true, laidKinds := [.sentinel], laidTests := true, laidLooks := .later }
def FnAnyDescribeTopicPartitionsRequestCardSaid : Prop := Claim7.holds Tryd.pinned (.plain (OpenSpec.ofChange fnAnyDescribeTopicPartitionsRequestSpec)) fnAnyDescribeTopicPartitionsRequestCard

/-- THE SECOND FORM's CARD OF 'laws.FnCutTxnMetadataKey'. -/
def fnCutTxnMetadataKeyUptoCard : Claim7 := { stood := { row := fnCutTxnMetadataKeyUptoRow, standIns := [], harness := (true, "4b8e4efaf114e7e2ee10e52a3ec4fdf6f9342af8313763768cf711b08ff866b9"), looks := false }, kinds := [], alts := [], laidByText := true, laidKinds := [.sentinel], laidTests := true, laidLooks := .later }
def FnCutTxnMetadataKeyUptoCardSaid : Prop := Claim7.holds Tryd.pinned (.plain (OpenSpec.upto fnCutTxnMetadataKeySpec)) fnCutTxnMetadataKeyUptoCard

/-- THE SECOND FORM's CARD OF 'laws.FnAnyConsumerMemberMetadata'. -/
def fnAnyConsumerMemberMetadataUptoCard : Claim7 := { stood := { row := fnAnyConsumerMemberMetadataUptoRow, standIns := [], harness := (true, "4b8e4efaf114e7e2ee10e52a3ec4fdf6f9342af8313763768cf711b08ff866b9"), looks := false }, kinds := [], alts := [], laidByText := true, laidKinds := [.sentinel], laidTests := true, laidLooks := .later }
def FnAnyConsumerMemberMetadataUptoCardSaid : Prop := Claim7.holds Tryd.pinned (.plain (OpenSpec.upto fnAnyConsumerMemberMetadataSpec)) fnAnyConsumerMemberMetadataUptoCard

/-- THE SECOND FORM's CARD OF 'laws.FnAnyBatch'. -/
def fnAnyBatchUptoCard : Claim7 := { stood := { row := fnAnyBatchUptoRow, standIns := [], harness := (true, "4b8e4efaf114e7e2ee10e52a3ec4fdf6f9342af8313763768cf711b08ff866b9"), looks := false }, kinds := [], alts := [], laidByText := true, laidKinds := [.sentinel], laidTests := true, laidLooks := .later }
def FnAnyBatchUptoCardSaid : Prop := Claim7.holds Tryd.pinned (.plain (OpenSpec.upto fnAnyBatchSpec)) fnAnyBatchUptoCard

/-- THE SECOND FORM's CARD OF 'laws.FnParseACLResourcePatternType'. -/
def fnParseACLResourcePatternTypeUptoCard : Claim7 := { stood := { row := fnParseACLResourcePatternTypeUptoRow, standIns := [], harness := (true, "4b8e4efaf114e7e2ee10e52a3ec4fdf6f9342af8313763768cf711b08ff866b9"), looks := false }, kinds := [], alts := [], laidByText := true, laidKinds := [.data, .listed, .data, .pinned, .pinned], laidTests := true, laidLooks := .later }
def FnParseACLResourcePatternTypeUptoCardSaid : Prop := Claim7.holds Tryd.pinned (.plain (OpenSpec.upto fnParseACLResourcePatternTypeSpec)) fnParseACLResourcePatternTypeUptoCard

/-- THE SECOND FORM's CARD OF 'laws.FnQuotasMatchTypeText'. -/
def fnQuotasMatchTypeTextUptoCard : Claim7 := { stood := { row := fnQuotasMatchTypeTextUptoRow, standIns := [], harness := (true, "4b8e4efaf114e7e2ee10e52a3ec4fdf6f9342af8313763768cf711b08ff866b9"), looks := false }, kinds := [], alts := [], laidByText := true, laidKinds := [.data, .listed, .data, .pinned, .pinned], laidTests := true, laidLooks := .later }
def FnQuotasMatchTypeTextUptoCardSaid : Prop := Claim7.holds Tryd.pinned (.plain (OpenSpec.upto fnQuotasMatchTypeTextSpec)) fnQuotasMatchTypeTextUptoCard

/-- THE SECOND FORM's CARD OF 'laws.FnAnyDescribeTopicPartitionsRequest'. -/
def fnAnyDescribeTopicPartitionsRequestUptoCard : Claim7 := { stood := { row := fnAnyDescribeTopicPartitionsRequestUptoRow, standIns := [], harness := (true, "4b8e4efaf114e7e2ee10e52a3ec4fdf6f9342af8313763768cf711b08ff866b9"), looks := false }, kinds := [], alts := [], laidByText := true, laidKinds := [.sentinel], laidTests := true, laidLooks := .later }
def FnAnyDescribeTopicPartitionsRequestUptoCardSaid : Prop := Claim7.holds Tryd.pinned (.plain (OpenSpec.upto fnAnyDescribeTopicPartitionsRequestSpec)) fnAnyDescribeTopicPartitionsRequestUptoCard
end Rows
end Go.Proofs.YtdanlkiojkimaaaDoor
