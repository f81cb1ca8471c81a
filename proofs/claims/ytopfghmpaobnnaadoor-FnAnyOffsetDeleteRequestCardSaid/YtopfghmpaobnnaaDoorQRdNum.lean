import Derived.Test.YtopfghmpaobnnaaDoorQAxCon
import Derived.Test.YtopfghmpaobnnaaDoorQAxDraw2
import Derived.Test.YtopfghmpaobnnaaDoorProg
import Derived.ProofKit
/-
  THE PROGRAM'S TYPES, by this translation's numbers: what the machine's operations ask of them.
-/
namespace Go.Proofs.YtopfghmpaobnnaaDoor.Rd
set_option linter.constructorNameAsVariable false
set_option linter.unusedVariables false
set_option linter.unusedSimpArgs false
open Go Go.Proofs.YtopfghmpaobnnaaDoor.Ax Go.Proofs.YtopfghmpaobnnaaDoor.Wire

noncomputable abbrev P : Program := Tryd.prog
abbrev tB : TypeId := 22
abbrev tU : TypeId := 5
abbrev tR : TypeId := 142
theorem bty : Bty P tB tU := ⟨by kernel_rfl, by kernel_rfl, by kernel_rfl, by kernel_rfl, by kernel_rfl, by kernel_rfl⟩
theorem fr0 (i o : Nat) : fieldAddrA P 142 (.p i o) 0 = some (.p i o) := by kernel_rfl
theorem fr1 (i o : Nat) : fieldAddrA P 142 (.p i o) 1 = some (.p i (o + 1)) := by kernel_rfl
theorem fr1' (i : Nat) : fieldAddrA P 142 (.p i 0) 1 = some (.p i 1) := by kernel_rfl
theorem aggB : aggA P 22 = some false := by kernel_rfl
theorem aggb : aggA P 4 = some false := by kernel_rfl
theorem aggU : aggA P 5 = some false := by kernel_rfl
theorem sizeb : sizeA P 4 = some 1 := by kernel_rfl
theorem sizeB : sizeA P 22 = some 1 := by kernel_rfl
theorem lss (t : TypeId) (k : IntKind) (c : Bool) (a b : Int) : binA P .lss t c (.i k a) (.i k b) = some (.b (decide (a < b))) := by
  simp [binA, binOp, Op.intCmp, ofSem, ofV1]
  rfl
theorem leq (t : TypeId) (k : IntKind) (c : Bool) (a b : Int) : binA P .leq t c (.i k a) (.i k b) = some (.b (decide (a ≤ b))) := by
  simp [binA, binOp, Op.intCmp, ofSem, ofV1]
  rfl
theorem eql (t : TypeId) (k : IntKind) (c : Bool) (a b : Int) : binA P .eql t c (.i k a) (.i k b) = some (.b (a == b)) := by
  simp [binA, binOp, Op.intCmp, ofSem, ofV1]
  rfl
theorem sub (t : TypeId) (c : Bool) (a b : Int) : binA P .sub t c (.i .i64 a) (.i .i64 b) = some (.i .i64 (IntKind.i64.wrap (a - b))) := by
  simp [binA, binOp, Op.intArith, ofSem, ofV1]
  rfl
end Go.Proofs.YtopfghmpaobnnaaDoor.Rd

