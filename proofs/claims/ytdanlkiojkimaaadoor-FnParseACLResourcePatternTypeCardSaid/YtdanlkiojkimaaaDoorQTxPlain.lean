/-
  TEXTS MADE PLAIN: without dots, underscores and dashes, without blanks at the ends, letters small; in whichever order that is done. Plain Lean.
-/
import Derived.Lib.Case
import Derived.Lib.Space
set_option linter.constructorNameAsVariable false
set_option linter.unusedVariables false
set_option linter.unusedSimpArgs false
namespace Go.Proofs.YtdanlkiojkimaaaDoor.Rd
open Go
def keepB (b : UInt8) : Bool := !(b == 46 || (b == 95 || b == 45))
def nrm (l : List UInt8) : List UInt8 := Lib.toLowerA (Lib.trimSpace (l.filter keepB))
theorem all_b (p : UInt8 → Bool) (h : (List.range 256).all (fun n => p (UInt8.ofNat n)) = true) (b : UInt8) : p b = true := by
  rw [List.all_eq_true] at h
  have := h b.toNat (List.mem_range.2 b.toNat_lt)
  simpa using this
theorem keep_lower (b : UInt8) : keepB (Lib.lowerB b) = keepB b := by
  have := all_b (fun b => keepB (Lib.lowerB b) == keepB b) (by decide +kernel) b
  simpa using this
theorem sp_lower (b : UInt8) : Lib.isSp (Lib.lowerB b) = Lib.isSp b := by
  have := all_b (fun b => Lib.isSp (Lib.lowerB b) == Lib.isSp b) (by decide +kernel) b
  simpa using this
theorem nrm_eq (l : List UInt8) : Lib.trimSpace ((l.map Lib.lowerB).filter keepB) = nrm l := by
  have h1 : (l.map Lib.lowerB).filter keepB = (l.filter keepB).map Lib.lowerB := by
    rw [List.filter_map]
    congr 1
    apply List.filter_congr
    intro b _
    exact keep_lower b
  have h2 : ∀ l : List UInt8, (l.map Lib.lowerB).dropWhile Lib.isSp = (l.dropWhile Lib.isSp).map Lib.lowerB := fun l => by
    rw [List.dropWhile_map]
    congr 2
    funext b
    exact sp_lower b
  unfold nrm Lib.trimSpace Lib.toLowerA
  rw [h1, h2, ← List.map_reverse, h2, ← List.map_reverse]
theorem keep_three (l : List UInt8) : ((l.filter (· != 46)).filter (· != 95)).filter (· != 45) = l.filter keepB := by
  rw [List.filter_filter, List.filter_filter]
  apply List.filter_congr
  intro b _
  have := all_b (fun b => ((b != 45 && b != 95) && (b != 46)) == keepB b) (by decide +kernel) b
  simpa using this
end Go.Proofs.YtdanlkiojkimaaaDoor.Rd

