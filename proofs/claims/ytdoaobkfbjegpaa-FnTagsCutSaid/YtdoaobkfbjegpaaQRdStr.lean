/-
  TEXTS AND LENGTHS, as kbin reads them.
-/
import Derived.Test.YtdoaobkfbjegpaaQSxDef
import Derived.Test.YtdoaobkfbjegpaaQApKit
import Derived.Test.YtdoaobkfbjegpaaQRdStep
set_option linter.constructorNameAsVariable false
set_option linter.unusedVariables false
set_option linter.unusedSimpArgs false
namespace Go.Proofs.Ytdoaobkfbjegpaa.Rd
open Go Go.Proofs.Ytdoaobkfbjegpaa.Ax Go.Proofs.Ytdoaobkfbjegpaa.Wire
set_option maxRecDepth 100000
set_option maxHeartbeats 1000000
theorem rdok : RdOk 15 := ⟨fun A H rb nn st h => rd_ok h⟩
end Go.Proofs.Ytdoaobkfbjegpaa.Rd

namespace Go.Proofs.Ytdoaobkfbjegpaa.Wire
theorem uvd_len : ∀ (k : Nat) {p r : B} {n : Nat}, uvd k p = some (n, r) → (uv n).length + r.length ≤ p.length
  | _, [], r, n, h => by simp [uvd] at h
  | 0, b :: p, r, n, h => by
    simp only [uvd] at h
    split at h
    · simp at h
      obtain ⟨rfl, rfl⟩ := h
      rename_i hb
      rw [uv, dif_pos (by omega)]
      simp
      omega
    · cases h
  | k + 1, b :: p, r, n, h => by
    simp only [uvd] at h
    split at h
    · simp at h
      obtain ⟨rfl, rfl⟩ := h
      rename_i hb
      rw [uv, dif_pos hb]
      simp
      omega
    · rename_i hb
      simp only [Option.map_eq_some_iff] at h
      obtain ⟨⟨m, r'⟩, h1, h2⟩ := h
      simp at h2
      obtain ⟨rfl, rfl⟩ := h2
      have ih := uvd_len k h1
      have hb2 := u8_lt b
      rw [uv]
      split
      · rename_i hlt
        have : 1 ≤ (uv m).length := uv_pos m
        simp; omega
      · rename_i hlt
        have : (b.toNat - 128 + 128 * m) / 128 = m := by omega
        rw [this]
        simp; omega
theorem rdV_len {p r : B} {n : Nat} (h : rdV p = some (n, r)) : (uv n).length + r.length ≤ p.length := uvd_len 4 h
theorem rdI_len {s : Nat} {p r : B} {n : Int} (h : rdI s p = some (n, r)) : s + r.length = p.length := by
  unfold rdI at h
  simp only [Option.map_eq_some_iff] at h
  obtain ⟨⟨a, b⟩, h1, h2⟩ := h
  simp at h2
  obtain ⟨hl, rfl⟩ := cut_len h1
  rw [← h2.2]; simp [hl]
theorem rdU_len {s : Nat} {p r : B} {n : Int} (h : rdU s p = some (n, r)) : s + r.length = p.length := by
  unfold rdU at h
  simp only [Option.map_eq_some_iff] at h
  obtain ⟨⟨a, b⟩, h1, h2⟩ := h
  simp at h2
  obtain ⟨hl, rfl⟩ := cut_len h1
  rw [← h2.2]; simp [hl]
theorem rdC_len {flex : Bool} {s : Nat} {p r : B} {l : Int} (h : rdC flex s p = some (l, r)) : (l < 0 → (cnt0 flex s).length + r.length ≤ p.length) ∧ (∀ n : Nat, l = n → (cnt flex s n).length + r.length ≤ p.length) ∧ (cnt flex s 0).length + r.length ≤ p.length := by
  unfold rdC at h
  split at h
  · rename_i hf
    simp only [Option.map_eq_some_iff] at h
    obtain ⟨⟨n, r'⟩, h1, h2⟩ := h
    simp at h2
    obtain ⟨rfl, rfl⟩ := h2
    have hl := rdV_len h1
    have hp := uv_pos n
    have h1' : (uv 1).length = 1 := by rw [uv, dif_pos (by omega)]; rfl
    refine ⟨fun _ => ?_, fun m hm => ?_, ?_⟩
    · simp only [cnt0, hf, if_true, List.length_singleton]; omega
    · have : n = m + 1 := by omega
      simp only [cnt, hf, if_true]
      rw [← this]; exact hl
    · simp only [cnt, hf, if_true, Nat.zero_add]
      rw [h1']; omega
  · rename_i hf
    have hl := rdI_len h
    have hf : flex = false := by simpa using hf
    subst hf
    refine ⟨fun _ => ?_, fun m hm => ?_, ?_⟩ <;> simp only [cnt0, cnt, Bool.false_eq_true, if_false, be_length] <;> omega
end Go.Proofs.Ytdoaobkfbjegpaa.Wire

namespace Go.Proofs.Ytdoaobkfbjegpaa.Rd
open Go Go.Proofs.Ytdoaobkfbjegpaa.Ax Go.Proofs.Ytdoaobkfbjegpaa.Wire
set_option maxRecDepth 100000
structure Globs (H : Heap) (rb0 : Nat) : Prop where
  lt : rb0 < H.length
theorem Globs.room {H H' : Heap} {rb0 mb : Nat} (h : Globs H rb0) (hm : H.length ≤ mb) (hl : H.length ≤ H'.length) (hmb : mb < H'.length) (hk : ∀ i b, i < H.length → H[i]? = some b → H'[i]? = some b) : Room (fun i => i ∉ [rb0, mb]) H' rb0 where
  no := by simp
  new := fun i hi => by have := h.lt; simp; omega
theorem Globs.keep {H H' : Heap} {rb0 : Nat} (h : Globs H rb0) (hl : H.length ≤ H'.length) (hk : ∀ i b, i < H.length → H[i]? = some b → H'[i]? = some b) : Globs H' rb0 where
  lt := Nat.lt_of_lt_of_le h.lt hl
theorem OutAt.bytes {L0 : Nat} {H : Heap} {out : AV} {bs : B} (h : OutAt L0 H out bs) : BytesAt (fun i => L0 ≤ i) H out bs := by
  rcases h with ⟨rfl, rfl⟩ | ⟨i, hi, rfl, hb, h0⟩
  · exact .z
  · exact .s hi hb h0 (by rw [List.drop_zero, ← u8s_length bs, List.take_length])
theorem BytesAt.noS {A : Nat → Prop} {H : Heap} {av : AV} {bs : B} (h : BytesAt A H av bs) : av.isS = false := by cases h <;> rfl
structure DatAt (H : Heap) (data : AV) (bs : B) : Prop where
  first : firstA H 1 data = some (bs.length, u8s bs)
  noS : data.isS = false
theorem BytesAt.dat {A : Nat → Prop} {H : Heap} {av : AV} {bs : B} (h : BytesAt A H av bs) : DatAt H av bs := ⟨h.first, BytesAt.noS h⟩
theorem DatAt.kp {H H' : Heap} {d : AV} {bs : B} (h : DatAt H d bs) (k : ∀ (i : Nat) (b : Blk), H[i]? = some b → H'[i]? = some b) : DatAt H' d bs := by
  refine ⟨?_, h.noS⟩
  have h1 := h.first
  have h2 := h.noS
  cases d with
  | s x => cases h2
  | sl i o n =>
    simp only [firstA] at h1 ⊢
    cases hi : H[i]? with
    | none => rw [hi] at h1; cases h1
    | some b => rw [k i b hi]; rw [hi] at h1; exact h1
  | _ => exact h1
theorem DatAt.app {H : Heap} {d : AV} {bs : B} (h : DatAt H d bs) (K : Heap) : DatAt (H ++ K) d bs := h.kp fun i b hi => by rw [List.getElem?_append_left (List.getElem?_eq_some_iff.1 hi).1]; exact hi
theorem OutAt.below {L0 : Nat} {H : Heap} {out : AV} {bs : B} (h : OutAt L0 H out bs) : BytesAt (fun i => i < H.length) H out bs := by
  rcases h with ⟨rfl, rfl⟩ | ⟨i, hi, rfl, hb, h0⟩
  · exact .z
  · exact .s (List.getElem?_eq_some_iff.1 hb).1 hb h0 (by rw [List.drop_zero, ← u8s_length bs, List.take_length])
end Go.Proofs.Ytdoaobkfbjegpaa.Rd

