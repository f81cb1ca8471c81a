/-
  NUMBERS IN GROUPS OF SEVEN BITS, as kbin writes them.
-/
import Derived.Test.YtdanlkiojkimaaaDoorQApKit
import Derived.Test.YtdanlkiojkimaaaDoorQRdStr
set_option linter.constructorNameAsVariable false
set_option linter.unusedVariables false
set_option linter.unusedSimpArgs false
namespace Go.Proofs.YtdanlkiojkimaaaDoor.Rd
open Go Go.Proofs.YtdanlkiojkimaaaDoor.Ax Go.Proofs.YtdanlkiojkimaaaDoor.Wire
set_option maxRecDepth 100000
set_option maxHeartbeats 1000000
def idxOps : List Oper → Option AV
  | [] => none
  | ⟨_, .index _ (.const v) _, _, _, _, _⟩ :: _ => ofV v
  | _ :: r => idxOps r
def idxConst : Code → Option AV
  | .seq a b => (idxConst a).or (idxConst b)
  | .region _ ops _ => idxOps ops.toList
  | .cond _ a b => (idxConst a).or (idxConst b)
  | _ => none
noncomputable def tab32 : AV := ((Tryd.f173.body.bind idxConst).getD .u)
noncomputable def tabUv : AV := ((Tryd.f143.body.bind idxConst).getD .u)
def blen : Nat → Nat := fun x => if x = 0 then 0 else x.log2 + 1
def uvl : Nat → Nat := fun b => if b = 0 then 1 else (b + 6) / 7
noncomputable def atIs (t : AV) (x l : Nat) : Bool := match indexA P 9 t (.i .u8 x) with | some (.i .u8 n) => n == (l : Int) | _ => false
theorem geq (t : TypeId) (k : IntKind) (c : Bool) (a b : Int) : binA P .geq t c (.i k a) (.i k b) = some (.b (decide (a ≥ b))) := by
  simp [binA, binOp, Op.intCmp, ofSem, ofV1]
  rfl
theorem uv_len1 {n : Nat} (h : n < 128) : (uv n).length = 1 := by rw [uv, dif_pos h]; rfl
theorem uv_lens {n k : Nat} (h : ¬ n < 128) (hk : (uv (n / 128)).length = k) : (uv n).length = k + 1 := by rw [uv, dif_neg h]; simp [hk]
theorem uv_len2 {n : Nat} (h : 128 ≤ n) (h2 : n < 16384) : (uv n).length = 2 := uv_lens (by omega) (uv_len1 (by omega))
section
variable {S : CallA} (E : Emp S)
include E
end
end Go.Proofs.YtdanlkiojkimaaaDoor.Rd

namespace Go.Proofs.YtdanlkiojkimaaaDoor.Rd
open Go Go.Proofs.YtdanlkiojkimaaaDoor.Ax Go.Proofs.YtdanlkiojkimaaaDoor.Wire
set_option maxRecDepth 100000
set_option maxHeartbeats 1000000
end Go.Proofs.YtdanlkiojkimaaaDoor.Rd

