import Derived.Test.YtopfghmpaobnnaaDoorQWxTop
/-
  WRITING: octets put behind what was written.
-/
namespace Go.Proofs.YtopfghmpaobnnaaDoor.Rd
set_option linter.constructorNameAsVariable false
set_option linter.unusedVariables false
set_option linter.unusedSimpArgs false
open Go Go.Proofs.YtopfghmpaobnnaaDoor.Ax Go.Proofs.YtopfghmpaobnnaaDoor.Wire
set_option linter.unusedVariables false
set_option linter.unusedSimpArgs false
set_option maxRecDepth 100000

theorem zeroU : zeroA P 5 = some (.i .u8 0) := by kernel_rfl
theorem elemB : elemA P 22 = some 5 := by kernel_rfl
theorem sizeU : sizeA P 5 = some 1 := by kernel_rfl
theorem bytesU : bytesA P 5 = some 1 := by kernel_rfl
theorem OutAt.lt {L0 : Nat} {H : Heap} {bs : B} {i : Nat} {b : Blk} (h : H[i]? = some b) : i < H.length := (List.getElem?_eq_some_iff.1 h).1
theorem u8s_app (a b : B) : u8s (a ++ b) = u8s a ++ u8s b := by simp [u8s]
/-- Octets behind what was written. -/
theorem ap_bytes {L0 : Nat} {H : Heap} {out x : AV} {bs new : B} {str : Bool} (hL : L0 ≤ H.length) (ho : OutAt L0 H out bs) (hx : firstA H 1 x = some (new.length, u8s new)) (hb : bs.length + new.length ≤ 1099511627776) :
    ∃ out' H', appendA P H 22 str out x = some (out', H') ∧ OutAt L0 H' out' (bs ++ new) ∧ WKeep L0 H H' := by
  have hz : (AV.i IntKind.u8 0).cells.all AV.one = true := rfl
  rcases ho with ⟨rfl, rfl⟩ | ⟨i, hi, rfl, hblk, h0⟩
  · by_cases hn : new.length = 0
    · refine ⟨.s0, H, ?_, .inl ⟨rfl, by simpa using hn⟩, .refl _ _⟩
      unfold appendA
      simp only [elemB, sizeU, bytesU, zeroU]
      rw [if_pos (by refine ⟨by omega, ?_, ?_, fun _ => ?_⟩ <;> first | rfl | trivial | exact ⟨rfl, rfl⟩)]
      simp only [hx, hn, if_true]
    · refine ⟨.sl H.length 0 new.length, H ++ [.cells 5 .row (u8s new)], ?_, .inr ⟨H.length, hL, by simp, by simp, by simp; omega⟩, ⟨fun i hi => by rw [List.getElem?_append_left (by omega)], by simp⟩⟩
      unfold appendA
      simp only [elemB, sizeU, bytesU, zeroU]
      rw [if_pos (by refine ⟨by omega, ?_, ?_, fun _ => ?_⟩ <;> first | rfl | trivial | exact ⟨rfl, rfl⟩)]
      simp only [hx]
      rw [if_neg hn, if_pos ⟨by omega, by omega⟩]
      simp only [newBlk, u8s_one, if_true, Option.map_some]
  · have hil := OutAt.lt (L0 := L0) (bs := bs) hblk
    refine ⟨.sl H.length 0 (bs.length + new.length), H.set i .dead ++ [.cells 5 .row (u8s bs ++ u8s new)], ?_, .inr ⟨H.length, hL, by simp, by simp [u8s_app], by simp; omega⟩, ⟨fun k hk => ?_, by simp⟩⟩
    · unfold appendA
      simp only [elemB, sizeU, bytesU, zeroU]
      rw [if_pos (by refine ⟨by omega, ?_, ?_, fun _ => ?_⟩ <;> first | rfl | trivial | exact ⟨rfl, rfl⟩)]
      simp only [hx, hblk]
      rw [if_pos (by refine ⟨?_, by rw [u8s_length]; omega, by omega, by omega⟩ <;> first | rfl | trivial)]
      have ht : (u8s bs).take (bs.length * 1) = u8s bs := by rw [Nat.mul_one, ← u8s_length bs, List.take_length]
      rw [ht]
      have hall : (u8s bs ++ u8s new).all AV.one = true := by rw [List.all_append, u8s_one, u8s_one]; rfl
      simp only [newBlk, hall, if_true, Option.map_some, List.length_set]
    · rw [List.getElem?_append_left (by simp; omega), List.getElem?_set, if_neg (by omega)]
theorem OutAt.app {L0 : Nat} {H : Heap} {out : AV} {bs : B} (h : OutAt L0 H out bs) (K : Heap) : OutAt L0 (H ++ K) out bs := by
  rcases h with h | ⟨i, h1, h2, h3, h4⟩
  · exact .inl h
  · exact .inr ⟨i, h1, h2, (Grows.app H K).at h3, h4⟩
theorem WKeep.app (L0 : Nat) (H K : Heap) (hL : L0 ≤ H.length) : WKeep L0 H (H ++ K) := ⟨fun i hi => by rw [List.getElem?_append_left (by omega)], by simp⟩
theorem OutAt.noS {L0 : Nat} {H : Heap} {out : AV} {bs : B} (h : OutAt L0 H out bs) : out.isS = false := by
  rcases h with ⟨rfl, _⟩ | ⟨i, _, rfl, _⟩ <;> rfl
theorem first_new (H : Heap) (ty : TypeId) (new : B) (h : 0 < new.length) : firstA (H ++ [.cells ty .row (u8s new)]) 1 (.sl H.length 0 new.length) = some (new.length, u8s new) := by
  have ht : ((u8s new).drop 0).take (new.length * 1) = u8s new := by rw [List.drop_zero, Nat.mul_one, ← u8s_length new, List.take_length]
  simp only [firstA, List.getElem?_concat_length]
  rw [if_pos ⟨by rw [u8s_length]; omega, by rw [ht]; exact u8s_one _⟩, ht]
theorem U8_wrap (n : Int) : AV.i .u8 (IntKind.u8.wrap n) = U8 (UInt8.ofNat (n % 256).toNat) := by
  have h : (UInt8.ofNat (n % 256).toNat).toNat = (n % 256).toNat := u8_ofNat (by omega)
  unfold U8
  rw [h]
  congr 1
  simp [IntKind.wrap, IntKind.signed, IntKind.bits]
  omega
theorem shr (t : TypeId) (k : IntKind) (c : Bool) (a : Int) (n : Nat) (hn : n ≤ k.bits) : binA P .shr t c (.i k a) (.i .u64 (n : Int)) = some (.i k (a / (2 : Int) ^ n)) := by
  show ofSem (Op.shift .shr k a .u64 (n : Int)) = _
  have h : Op.shift .shr k a .u64 (n : Int) = pure (.int k (a.fdiv (2 ^ n))) := by
    unfold Op.shift
    rw [if_neg (by omega)]
    simp only [Int.toNat_natCast, Nat.min_eq_left hn]
  rw [h, Int.fdiv_eq_ediv_of_nonneg _ (by exact Int.le_of_lt (Int.pow_pos (by omega)))]
  rfl
end Go.Proofs.YtopfghmpaobnnaaDoor.Rd

