/-
  DERIVED. GIVEN WITH THE SEED: THE CARDS: each row of YtgnajdficmndgaaDoorRows.lean that lists a variable, with what it lists TIED to the program's text (the seventh form; the later family's looks); each row that meets fmt, with fmt's text TOLD by the authors' own Lean function (tested against real Go, not proved from fmt's source: count such statements apart). THE CARD IS WHAT COUNTS. Prove the row's statement (the work); the ties are given (YtgnajdficmndgaaDoorTie.lean); close each card by the builder's one call (the guide's Derived/Test/ToyasCard.lean, 'card_holds'). Laid BY PROGRAM, IN A SANDBOX (cutbox-door.mjs). By AI agents, Wed Nov 11 2026. No macro, syntax, notation, axiom, sorry.
-/
import Derived.Test.YtgnajdficmndgaaDoorRows
import GoSem.ClaimSeven
namespace Go.Proofs.YtgnajdficmndgaaDoor
namespace Rows

/-- THE TIED CARD OF 'laws.FnAnyAlterPartitionResponse'. -/
def fnAnyAlterPartitionResponseCard : Claim7 := { stood := { row := fnAnyAlterPartitionResponseRow, standIns := [], harness := (true, "14f62445cf8e8f022e5b4e63c58b284dba3a56838bc21f31e69f36967fdff012"), looks := false }, kinds := [], alts := [], laidByText := true, laidKinds := [.sentinel], laidTests := true, laidLooks := .later }
def FnAnyAlterPartitionResponseCardSaid : Prop := Claim7.holds Tryd.pinned (.plain (OpenSpec.ofChange fnAnyAlterPartitionResponseSpec)) fnAnyAlterPartitionResponseCard

/-- THE SECOND FORM's CARD OF 'laws.FnAnyAlterPartitionResponse'. -/
def fnAnyAlterPartitionResponseUptoCard : Claim7 := { stood := { row := fnAnyAlterPartitionResponseUptoRow, standIns := [], harness := (true, "14f62445cf8e8f022e5b4e63c58b284dba3a56838bc21f31e69f36967fdff012"), looks := false }, kinds := [], alts := [], laidByText := true, laidKinds := [.sentinel], laidTests := true, laidLooks := .later }
def FnAnyAlterPartitionResponseUptoCardSaid : Prop := Claim7.holds Tryd.pinned (.plain (OpenSpec.upto fnAnyAlterPartitionResponseSpec)) fnAnyAlterPartitionResponseUptoCard
end Rows
end Go.Proofs.YtgnajdficmndgaaDoor
