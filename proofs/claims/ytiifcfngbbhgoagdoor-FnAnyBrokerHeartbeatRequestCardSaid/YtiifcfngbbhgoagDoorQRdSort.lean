/-
  A ROW OF NUMBERS SORTED BY THE LIBRARY, as Each sorts a map's keys.
-/
import Derived.Test.YtiifcfngbbhgoagDoorQApLeaf
import Derived.Test.YtiifcfngbbhgoagDoorQAxDraw2
import Derived.Deep.QuietTactic
import Derived.Lib.RowBridge
import Derived.Lib.SortBridge
import Derived.Sort.LotA
import Derived.WalkKit
set_option linter.constructorNameAsVariable false
set_option linter.unusedVariables false
set_option linter.unusedSimpArgs false
namespace Go.Proofs.YtiifcfngbbhgoagDoor.Rd
open Go Go.Shelf Go.RowKit Go.Lib Go.Sort
noncomputable def siT : TypeInfo := (Tryd.prog.info? 48).get (by kernel_rfl)
noncomputable def siE : TypeInfo := (Tryd.prog.info? 49).get (by kernel_rfl)
theorem siK (n : Nat) (h2 : 2 ≤ n) : Lib.swapperK n siE 10 = 6 := by
  have a : siE.hasPointers = false := by kernel_rfl
  have b : siE.bytes = 4 := by kernel_rfl
  have c : (n == 0) = false := by simp; omega
  have d : (n == 1) = false := by simp; omega
  simp [Lib.swapperK, a, b, c, d]
set_option maxHeartbeats 2000000 in
theorem less_keys (blk off c Bs size : Nat) (W : World) (G : Nat → Int) (hs : W.cell? ⟨Bs, 0, none⟩ = some (.slice (some ⟨blk, off, none⟩) size c))
    (hc : ∀ t, t < size → W.cell? ⟨blk, off + t, none⟩ = some (.int .u32 (G t))) (i j : Nat) (hi : i < size) (hj : j < size) :
    Calls Tryd.prog 47 #[.int .i64 i, .int .i64 j, .pointer (some ⟨Bs, 0, none⟩)] W fun e w' => e = .returned (.bool (decide (G i < G j))) ∧ ∃ q, w' = W.drewN q := by
  have ci := hc i hi
  have cj := hc j hj
  go_enter Tryd.func47, Tryd.ntmps47
  go_wp2
  go_quiet (fail)
  go_wp2
  go_ret
  exact ⟨rfl, nq, rfl⟩
theorem sorted_le {d d' : Array Int} (hp : PermIn 0 d.size d d') (hs : SortedIn ltInt 0 d.size d') : d'.size = d.size ∧ d'.toList.Perm d.toList ∧ d'.toList.Pairwise (· ≤ ·) := by
  have h := sorted_unique_holds (lt := ltInt) swo_ltInt (fun x y h1 h2 => by simp only [ltInt, decide_eq_false_iff_not] at h1 h2; omega) d d' hp hs
  have e : (fun x y : Int => !ltInt y x) = fun x y => decide (x ≤ y) := by
    funext x y
    simp only [ltInt]
    by_cases h : x ≤ y
    · first | (simp [h]; done) | (simp [h]; omega)
    · first | (simp [h]; done) | (simp [h]; omega)
  rw [e] at h
  have q := List.pairwise_mergeSort (le := fun x y : Int => decide (x ≤ y)) (fun a b c h1 h2 => by simp only [decide_eq_true_eq] at *; omega) (fun a b => by simp only [Bool.or_eq_true, decide_eq_true_eq]; omega) d.toList
  rw [← h] at q
  have pm : d'.toList.Perm d.toList := by rw [h]; exact List.mergeSort_perm d.toList _
  exact ⟨by simpa using pm.length_eq, pm, by simpa using q⟩
set_option maxHeartbeats 2000000 in
theorem sort_many (blk c Bs : Nat) (d : Array Int) (h2 : 2 ≤ d.size) (h12 : d.size < 4611686018427387904) (w : World) (hH : Holds (Value.int .u32) w blk 0 d) (hblk : blk < w.heap.size) (hne : Bs ≠ blk)
    (hs : w.cell? ⟨Bs, 0, none⟩ = some (.slice (some ⟨blk, 0, none⟩) d.size c)) :
    Calls Tryd.prog 46 #[.iface 48 (.slice (some ⟨blk, 0, none⟩) d.size c), .func (.func 47) #[] #[.pointer (some ⟨Bs, 0, none⟩)]] w fun e w' =>
      e = .returned (.tuple #[]) ∧ ∃ (d' : Array Int) (n : Nat) (os : Array Obj), d'.size = d.size ∧ d'.toList.Perm d.toList ∧ d'.toList.Pairwise (· ≤ ·) ∧ w' = grow (putRow (Value.int .u32) (Sort.ahead w n) blk 0 d') os := by
  have hBs : Bs < w.heap.size := by
    by_cases h : Bs < w.heap.size
    · exact h
    · exfalso
      unfold World.cell? at hs
      have : w.heap[Bs]? = none := by simp; omega
      simp [this] at hs
  have hless : LessReads Tryd.prog 47 #[.pointer (some ⟨Bs, 0, none⟩)] (Value.int .u32) ltInt blk 0 d.size w := by
    intro m os dk hsz i j hi hj
    have e : sortWorld (Value.int .u32) w blk 0 m dk os = putRow (Value.int .u32) (grow (Sort.ahead w m) os) blk 0 dk := by
      unfold sortWorld; rw [putRow_grow _ (Sort.ahead w m) _ blk 0 _ hblk]
    have hHg : Holds (Value.int .u32) (grow (Sort.ahead w m) os) blk 0 d := holds_grow _ _ _ blk 0 d hblk (holds_ahead _ _ _ _ _ _ hH)
    refine less_keys blk 0 c Bs d.size _ (fun t => dk[t]!) ?_ (fun t ht => ?_) i j hi hj
    · rw [e, cell?_putRow_other _ _ blk 0 dk _ (Or.inl (by show Bs ≠ blk; exact hne)), cell?_grow _ _ _ (by show Bs < w.heap.size; exact hBs)]
      exact hs
    · rw [e]; exact cell?_putRow _ _ blk 0 d dk hHg hsz t (by omega)
  have hS := Any.sort_Slice_sorted sa6 48 49 siT siE (by kernel_rfl) (by kernel_rfl) (by kernel_rfl) (by kernel_rfl) 10 (fun _ => by kernel_rfl) (by kernel_rfl) (fun _ => by kernel_rfl) (Value.int .u32) (fun _ => rfl) ltInt swo_ltInt 47 _
    (enters_of Tryd.func47 (by kernel_rfl) rfl) blk 0 c d h2 h12 59 (by rw [siK _ h2]; kernel_rfl) true
    (fun args W => run_callFunc_extern Tryd.func59 (by kernel_rfl) (by kernel_rfl) (by kernel_rfl) (e := Extern.ReflectliteSwapper.swap true) (by kernel_rfl) args W) _ hless hH hblk
  change Calls Tryd.prog 46 _ _ _ at hS
  refine hS.mono ?_
  rintro e w' ⟨rfl, d', n, os, hp, hso, rfl⟩
  obtain ⟨q1, q2, q3⟩ := sorted_le hp hso
  exact ⟨rfl, d', n, os, q1, q2, q3, rfl⟩
set_option maxHeartbeats 2000000 in
theorem sort_few (p : Option Addr) (n c : Nat) (h1 : n ≤ 1) (lf : Fn) (la lb : Array Value) (w : World) :
    Calls Tryd.prog 46 #[.iface 48 (.slice p n c), .func lf la lb] w fun e w' => e = .returned (.tuple #[]) ∧ ∃ os, w' = grow w os := by
  have hK : Lib.swapperK n siE 10 = n + 1 := by
    rcases Nat.eq_zero_or_pos n with h | h
    · subst h; simp [Lib.swapperK]
    · obtain rfl : n = 1 := by omega
      simp [Lib.swapperK]
  exact Any.sort_Slice_tiny sa6 48 49 siT siE (by kernel_rfl) (by kernel_rfl) (by kernel_rfl) (by kernel_rfl) 10 (fun _ => by kernel_rfl) p n c h1 (54 + n) (by
    rw [hK]
    rcases Nat.eq_zero_or_pos n with h | h
    · subst h; kernel_rfl
    · obtain rfl : n = 1 := by omega
      kernel_rfl) lf la lb w
end Go.Proofs.YtiifcfngbbhgoagDoor.Rd

