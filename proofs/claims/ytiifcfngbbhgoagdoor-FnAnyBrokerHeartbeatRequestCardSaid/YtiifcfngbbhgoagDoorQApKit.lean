/-
  WRITING: octets put behind what was written.
-/
import Derived.Test.YtiifcfngbbhgoagDoorQWxBox
import Derived.Test.YtiifcfngbbhgoagDoorQRdUvB
import Derived.Test.YtiifcfngbbhgoagDoorQRdStr
import Derived.Test.YtiifcfngbbhgoagDoorQWireS
set_option linter.constructorNameAsVariable false
set_option linter.unusedVariables false
set_option linter.unusedSimpArgs false
namespace Go.Proofs.YtiifcfngbbhgoagDoor.Rd
open Go Go.Proofs.YtiifcfngbbhgoagDoor.Ax Go.Proofs.YtiifcfngbbhgoagDoor.Wire
set_option maxRecDepth 100000
theorem zeroU : zeroA P 5 = some (.i .u8 0) := by kernel_rfl
theorem elemB : elemA P 22 = some 5 := by kernel_rfl
theorem sizeU : sizeA P 5 = some 1 := by kernel_rfl
theorem bytesU : bytesA P 5 = some 1 := by kernel_rfl
theorem OutAt.lt {L0 : Nat} {H : Heap} {bs : B} {i : Nat} {b : Blk} (h : H[i]? = some b) : i < H.length := (List.getElem?_eq_some_iff.1 h).1
theorem u8s_app (a b : B) : u8s (a ++ b) = u8s a ++ u8s b := by simp [u8s]
theorem ap_bytes {L0 : Nat} {H : Heap} {out x : AV} {bs new : B} {str : Bool} (hL : L0 ≤ H.length) (ho : OutAt L0 H out bs) (hx : firstA H 1 x = some (new.length, u8s new)) (hb : bs.length + new.length ≤ 1099511627776) :
    ∃ out' H', appendA P H 22 str out x = some (out', H') ∧ OutAt L0 H' out' (bs ++ new) ∧ WKeep L0 H H' := by
  have hz : (AV.i IntKind.u8 0).cells.all AV.one = true := rfl
  rcases ho with ⟨rfl, rfl⟩ | ⟨i, hi, rfl, hblk, h0⟩
  · by_cases hn : new.length = 0
    · refine ⟨.s0, H, ?_, .inl ⟨rfl, by simpa using hn⟩, .refl _ _⟩
      unfold appendA
      simp only [elemB, sizeU, bytesU, zeroU]
      rw [if_pos (by refine ⟨by omega, ?_, ?_, fun _ => ?_⟩ <;> first | rfl | trivial | exact ⟨rfl, rfl⟩)]
      simp only [hx, hn, if_true]
    · refine ⟨.sl H.length 0 new.length, H ++ [.cells 5 .row (u8s new)], ?_, .inr ⟨H.length, hL, by simp, by simp, by simp; omega⟩, ⟨fun i hi => by rw [List.getElem?_append_left (by omega)], by simp⟩⟩
      unfold appendA
      simp only [elemB, sizeU, bytesU, zeroU]
      rw [if_pos (by refine ⟨by omega, ?_, ?_, fun _ => ?_⟩ <;> first | rfl | trivial | exact ⟨rfl, rfl⟩)]
      simp only [hx]
      rw [if_neg hn, if_pos ⟨by omega, by omega⟩]
      simp only [newBlk, u8s_one, if_true, Option.map_some]
  · have hil := OutAt.lt (L0 := L0) (bs := bs) hblk
    refine ⟨.sl H.length 0 (bs.length + new.length), H.set i .dead ++ [.cells 5 .row (u8s bs ++ u8s new)], ?_, .inr ⟨H.length, hL, by simp, by simp [u8s_app], by simp; omega⟩, ⟨fun k hk => ?_, by simp⟩⟩
    · unfold appendA
      simp only [elemB, sizeU, bytesU, zeroU]
      rw [if_pos (by refine ⟨by omega, ?_, ?_, fun _ => ?_⟩ <;> first | rfl | trivial | exact ⟨rfl, rfl⟩)]
      simp only [hx, hblk]
      rw [if_pos (by refine ⟨?_, by rw [u8s_length]; omega, by omega, by omega⟩ <;> first | rfl | trivial)]
      have ht : (u8s bs).take (bs.length * 1) = u8s bs := by rw [Nat.mul_one, ← u8s_length bs, List.take_length]
      rw [ht]
      have hall : (u8s bs ++ u8s new).all AV.one = true := by rw [List.all_append, u8s_one, u8s_one]; rfl
      simp only [newBlk, hall, if_true, Option.map_some, List.length_set]
    · rw [List.getElem?_append_left (by simp; omega), List.getElem?_set, if_neg (by omega)]
structure OKeep (H : Heap) (out : AV) (H' : Heap) (out' : AV) : Prop where
  at_ : ∀ (j : Nat) (b : Blk), H[j]? = some b → (∀ i o n, out = .sl i o n → j ≠ i) → H'[j]? = some b
  new : ∀ i o n, out' = .sl i o n → H.length ≤ i
  len : H.length ≤ H'.length
theorem OKeep.app {H K : Heap} {out : AV} {H' : Heap} {out' : AV} (h : OKeep (H ++ K) out H' out') : OKeep H out H' out' :=
  ⟨fun j b hj ho => h.at_ j b (by rw [List.getElem?_append_left (List.getElem?_eq_some_iff.1 hj).1]; exact hj) ho, fun i o n e => by have := h.new i o n e; simp at this; omega, by have := h.len; simp at this; omega⟩
theorem OKeep.trans {H H' H'' : Heap} {out out' out'' : AV} (h : OKeep H out H' out') (k : OKeep H' out' H'' out'') : OKeep H out H'' out'' :=
  ⟨fun j b hj ho => k.at_ j b (h.at_ j b hj ho) (fun i o n e => by have := h.new i o n e; have := (List.getElem?_eq_some_iff.1 hj).1; omega), fun i o n e => Nat.le_trans h.len (k.new i o n e), Nat.le_trans h.len k.len⟩
theorem OutAt.shape {L0 : Nat} {H : Heap} {out : AV} {bs : B} (h : OutAt L0 H out bs) : out = .s0 ∨ ∃ i n, out = .sl i 0 n := by
  rcases h with ⟨rfl, _⟩ | ⟨i, _, rfl, _⟩
  · exact .inl rfl
  · exact .inr ⟨_, _, rfl⟩
theorem app_keep {H H' : Heap} {out out' x : AV} {str : Bool} {new : B} (h : appendA P H 22 str out x = some (out', H')) (hs : out = .s0 ∨ ∃ i n, out = .sl i 0 n) (hx : firstA H 1 x = some (new.length, u8s new)) (h0 : 0 < new.length ∨ out ≠ .s0) : OKeep H out H' out' := by
  unfold appendA at h
  simp only [elemB, sizeU, bytesU, zeroU] at h
  split at h
  · rw [hx] at h
    simp only at h
    rcases hs with rfl | ⟨i, n, rfl⟩
    · have h0 : 0 < new.length := h0.elim id (fun h => absurd rfl h)
      simp only at h
      rw [if_neg (by omega)] at h
      split at h
      · simp only [newBlk] at h
        split at h
        · simp at h
          obtain ⟨rfl, rfl⟩ := h
          exact ⟨fun j b hj _ => by rw [List.getElem?_append_left (List.getElem?_eq_some_iff.1 hj).1]; exact hj, fun i o n e => by cases e; exact Nat.le_refl _, by simp⟩
        · simp at h
      · cases h
    · simp only at h
      cases hi : H[i]? with
      | none => rw [hi] at h; simp at h
      | some b0 =>
        rw [hi] at h
        split at h
        · split at h
          · simp only [newBlk] at h
            split at h
            · simp at h
              obtain ⟨rfl, rfl⟩ := h
              refine ⟨fun j b hj ho => ?_, fun i o n e => by cases e; exact Nat.le_refl _, by simp⟩
              have := ho i 0 n rfl
              rw [List.getElem?_append_left (by simp; exact (List.getElem?_eq_some_iff.1 hj).1), List.getElem?_set, if_neg (by omega)]
              exact hj
            · simp at h
          · cases h
        · cases h
  · cases h
theorem OutAt.app {L0 : Nat} {H : Heap} {out : AV} {bs : B} (h : OutAt L0 H out bs) (K : Heap) : OutAt L0 (H ++ K) out bs := by
  rcases h with h | ⟨i, h1, h2, h3, h4⟩
  · exact .inl h
  · exact .inr ⟨i, h1, h2, (Grows.app H K).at h3, h4⟩
theorem WKeep.app (L0 : Nat) (H K : Heap) (hL : L0 ≤ H.length) : WKeep L0 H (H ++ K) := ⟨fun i hi => by rw [List.getElem?_append_left (by omega)], by simp⟩
theorem OutAt.noS {L0 : Nat} {H : Heap} {out : AV} {bs : B} (h : OutAt L0 H out bs) : out.isS = false := by
  rcases h with ⟨rfl, _⟩ | ⟨i, _, rfl, _⟩ <;> rfl
theorem first_new (H : Heap) (ty : TypeId) (new : B) (h : 0 < new.length) : firstA (H ++ [.cells ty .row (u8s new)]) 1 (.sl H.length 0 new.length) = some (new.length, u8s new) := by
  have ht : ((u8s new).drop 0).take (new.length * 1) = u8s new := by rw [List.drop_zero, Nat.mul_one, ← u8s_length new, List.take_length]
  simp only [firstA, List.getElem?_concat_length]
  rw [if_pos ⟨by rw [u8s_length]; omega, by rw [ht]; exact u8s_one _⟩, ht]
theorem U8_wrap (n : Int) : AV.i .u8 (IntKind.u8.wrap n) = U8 (UInt8.ofNat (n % 256).toNat) := by
  have h : (UInt8.ofNat (n % 256).toNat).toNat = (n % 256).toNat := u8_ofNat (by omega)
  unfold U8
  rw [h]
  congr 1
  simp [IntKind.wrap, IntKind.signed, IntKind.bits]
  omega
theorem shr (t : TypeId) (k : IntKind) (c : Bool) (a : Int) (n : Nat) (hn : n ≤ k.bits) : binA P .shr t c (.i k a) (.i .u64 (n : Int)) = some (.i k (a / (2 : Int) ^ n)) := by
  show ofSem (Op.shift .shr k a .u64 (n : Int)) = _
  have h : Op.shift .shr k a .u64 (n : Int) = pure (.int k (a.fdiv (2 ^ n))) := by
    unfold Op.shift
    rw [if_neg (by omega)]
    simp only [Int.toNat_natCast, Nat.min_eq_left hn]
  rw [h, Int.fdiv_eq_ediv_of_nonneg _ (by exact Int.le_of_lt (Int.pow_pos (by omega)))]
  rfl
end Go.Proofs.YtiifcfngbbhgoagDoor.Rd

namespace Go.Proofs.YtiifcfngbbhgoagDoor.Rd
open Go Go.Proofs.YtiifcfngbbhgoagDoor.Ax Go.Proofs.YtiifcfngbbhgoagDoor.Wire
set_option maxRecDepth 100000
set_option maxHeartbeats 1000000
theorem be2 (n : Int) : be 2 n = [UInt8.ofNat ((n / 256) % 256).toNat, UInt8.ofNat (n % 256).toNat] := by simp [be]
theorem be4 (n : Int) : be 4 n = [UInt8.ofNat ((n / 16777216) % 256).toNat, UInt8.ofNat ((n / 65536) % 256).toNat, UInt8.ofNat ((n / 256) % 256).toNat, UInt8.ofNat (n % 256).toNat] := by simp [be]
theorem be_mod2 (n : Int) : be 2 (n % 65536) = be 2 n := by
  rw [be2, be2]
  have h1 : n % 65536 / 256 % 256 = n / 256 % 256 := by omega
  have h2 : n % 65536 % 256 = n % 256 := by omega
  rw [h1, h2]
theorem be_mod4 (n : Int) : be 4 (n % 4294967296) = be 4 n := by
  rw [be4, be4]
  have h1 : n % 4294967296 / 16777216 % 256 = n / 16777216 % 256 := by omega
  have h2 : n % 4294967296 / 65536 % 256 = n / 65536 % 256 := by omega
  have h3 : n % 4294967296 / 256 % 256 = n / 256 % 256 := by omega
  have h4 : n % 4294967296 % 256 = n % 256 := by omega
  rw [h1, h2, h3, h4]
theorem shr_8 (t : TypeId) (k : IntKind) (c : Bool) (a : Int) (hk : 8 ≤ k.bits) : binA P .shr t c (.i k a) (.i .u64 8) = some (.i k (a / 256)) := by have := shr t k c a 8 hk; simpa using this
theorem shr_16 (t : TypeId) (k : IntKind) (c : Bool) (a : Int) (hk : 16 ≤ k.bits) : binA P .shr t c (.i k a) (.i .u64 16) = some (.i k (a / 65536)) := by have := shr t k c a 16 hk; simpa using this
theorem shr_24 (t : TypeId) (k : IntKind) (c : Bool) (a : Int) (hk : 24 ≤ k.bits) : binA P .shr t c (.i k a) (.i .u64 24) = some (.i k (a / 16777216)) := by have := shr t k c a 24 hk; simpa using this
theorem build_1 (H : Heap) (b0 : UInt8) : buildSliceA P H 22 1 [(0, U8 b0)] = some (.sl H.length 0 1, H ++ [.cells 5 .row (u8s [b0])]) := by kernel_rfl
theorem build_2 (H : Heap) (b0 b1 : UInt8) : buildSliceA P H 22 2 [(0, U8 b0), (1, U8 b1)] = some (.sl H.length 0 2, H ++ [.cells 5 .row (u8s [b0, b1])]) := by kernel_rfl
theorem build_3 (H : Heap) (b0 b1 b2 : UInt8) : buildSliceA P H 22 3 [(0, U8 b0), (1, U8 b1), (2, U8 b2)] = some (.sl H.length 0 3, H ++ [.cells 5 .row (u8s [b0, b1, b2])]) := by kernel_rfl
theorem build_4 (H : Heap) (b0 b1 b2 b3 : UInt8) : buildSliceA P H 22 4 [(0, U8 b0), (1, U8 b1), (2, U8 b2), (3, U8 b3)] = some (.sl H.length 0 4, H ++ [.cells 5 .row (u8s [b0, b1, b2, b3])]) := by kernel_rfl
theorem build_5 (H : Heap) (b0 b1 b2 b3 b4 : UInt8) : buildSliceA P H 22 5 [(0, U8 b0), (1, U8 b1), (2, U8 b2), (3, U8 b3), (4, U8 b4)] = some (.sl H.length 0 5, H ++ [.cells 5 .row (u8s [b0, b1, b2, b3, b4])]) := by kernel_rfl
theorem cv_u32_8 (m : Int) : convA P 49 5 (.i .u32 m) = some (U8 (UInt8.ofNat (m % 256).toNat)) := by rw [← U8_wrap]; kernel_rfl
theorem ap_u32_run {L0 : Nat} {H : Heap} {out : AV} {bs : B} {n n0 n1 n2 : Int} {b0 b1 b2 b3 : UInt8} (hL : L0 ≤ H.length) (ho : OutAt L0 H out bs) (hb : bs.length + 4 ≤ 1099511627776)
    (s0 : binA P .shr 49 true (.i .u32 n) (.i .u64 24) = some (.i .u32 n0)) (c0 : convA P 49 5 (.i .u32 n0) = some (U8 b0))
    (s1 : binA P .shr 49 true (.i .u32 n) (.i .u64 16) = some (.i .u32 n1)) (c1 : convA P 49 5 (.i .u32 n1) = some (U8 b1))
    (s2 : binA P .shr 49 true (.i .u32 n) (.i .u64 8) = some (.i .u32 n2)) (c2 : convA P 49 5 (.i .u32 n2) = some (U8 b2))
    (c3 : convA P 49 5 (.i .u32 n) = some (U8 b3)) :
    ∃ out' H', CA P NS 37 [out, .i .u32 n] H (out', H') ∧ OutAt L0 H' out' (bs ++ [b0, b1, b2, b3]) ∧ WKeep L0 H H' := by
  have hbl := build_4 H b0 b1 b2 b3
  have hfi := first_new H 5 [b0, b1, b2, b3] (by simp)
  obtain ⟨out', H', ha, h1, h2⟩ := ap_bytes (str := false) (x := .sl H.length 0 4) (new := [b0, b1, b2, b3]) (by simp; omega) (ho.app [.cells 5 .row (u8s [b0, b1, b2, b3])]) hfi (by simpa using hb)
  refine ⟨out', H', ?_, h1, (WKeep.app L0 H _ hL).trans h2⟩
  generalize H ++ [Blk.cells 5 Kn.row (u8s [b0, b1, b2, b3])] = H1 at hbl ha
  refine CA.go (fn := Tryd.f37) (vs := [_]) (by kernel_rfl) rfl (.inr rfl) ?_
  apply Exists.intro
  apply And.intro
  · dsimp only [Tryd.f37]
    dsimp only [List.length_cons, List.length_nil, List.cons_append, List.nil_append, Nat.reduceSub, Nat.reduceAdd, List.replicate]
    refine RU.seq RU.rg ?_
    refine RU.seq RU.rg ?_
    exact RU.ret
  · rfl
theorem ap_u32 {L0 : Nat} {H : Heap} {out : AV} {bs : B} {n : Int} (hL : L0 ≤ H.length) (ho : OutAt L0 H out bs) (hb : bs.length + 4 ≤ 1099511627776) :
    ∃ out' H', CA P NS 37 [out, .i .u32 n] H (out', H') ∧ OutAt L0 H' out' (bs ++ be 4 n) ∧ WKeep L0 H H' := by
  rw [be4]
  exact ap_u32_run hL ho hb (shr_24 _ _ _ _ (by simp [IntKind.bits])) (cv_u32_8 _) (shr_16 _ _ _ _ (by simp [IntKind.bits])) (cv_u32_8 _) (shr_8 _ _ _ _ (by simp [IntKind.bits])) (cv_u32_8 _) (cv_u32_8 n)
theorem cv_i32_u32 (n : Int) : convA P 21 49 (.i .i32 n) = some (.i .u32 (n % 4294967296)) := by
  have e : convA P 21 49 (.i .i32 n) = some (.i .u32 (IntKind.u32.wrap n)) := by kernel_rfl
  rw [e]
  simp [IntKind.wrap, IntKind.signed, IntKind.bits]
theorem ap_i32 {L0 : Nat} {H : Heap} {out : AV} {bs : B} {n : Int} (hL : L0 ≤ H.length) (ho : OutAt L0 H out bs) (hb : bs.length + 4 ≤ 1099511627776) :
    ∃ out' H', CA P NS 15 [out, .i .i32 n] H (out', H') ∧ OutAt L0 H' out' (bs ++ be 4 n) ∧ WKeep L0 H H' := by
  obtain ⟨out', H', hca, h1, h2⟩ := ap_u32 (n := n % 4294967296) hL ho hb
  rw [be_mod4] at h1
  have hc := cv_i32_u32 n
  refine ⟨out', H', ?_, h1, h2⟩
  generalize n % 4294967296 = m at hca hc
  refine CA.go (fn := Tryd.f15) (vs := [_]) (by kernel_rfl) rfl (.inr rfl) ?_
  apply Exists.intro
  apply And.intro
  · dsimp only [Tryd.f15]
    dsimp only [List.length_cons, List.length_nil, List.cons_append, List.nil_append, Nat.reduceSub, Nat.reduceAdd, List.replicate]
    refine RU.seq RU.rg ?_
    refine RU.seq RU.rg ?_
    exact RU.ret
  · rfl
theorem apk_i32 (flex null : Bool) : ApK 15 flex .i32 null := ⟨fun L0 H out bs av v hL ho hr hk hb => by
  cases v <;> simp only [RepK] at hr <;> first | exact hr.elim | skip
  subst hr
  rename_i n
  have hl : (encK flex .i32 (.i n)).length = 4 := be_length _ _
  exact ap_i32 hL ho (by omega)⟩
end Go.Proofs.YtiifcfngbbhgoagDoor.Rd

namespace Go.Proofs.YtiifcfngbbhgoagDoor.Rd
open Go Go.Proofs.YtiifcfngbbhgoagDoor.Ax Go.Proofs.YtiifcfngbbhgoagDoor.Wire
set_option maxRecDepth 100000
set_option maxHeartbeats 1000000
end Go.Proofs.YtiifcfngbbhgoagDoor.Rd

namespace Go.Proofs.YtiifcfngbbhgoagDoor.Wire
theorem uvd_len : ∀ (k : Nat) {p r : B} {n : Nat}, uvd k p = some (n, r) → (uv n).length + r.length ≤ p.length
  | _, [], r, n, h => by simp [uvd] at h
  | 0, b :: p, r, n, h => by
    simp only [uvd] at h
    split at h
    · simp at h
      obtain ⟨rfl, rfl⟩ := h
      rename_i hb
      rw [uv, dif_pos (by omega)]
      simp
      omega
    · cases h
  | k + 1, b :: p, r, n, h => by
    simp only [uvd] at h
    split at h
    · simp at h
      obtain ⟨rfl, rfl⟩ := h
      rename_i hb
      rw [uv, dif_pos hb]
      simp
      omega
    · rename_i hb
      simp only [Option.map_eq_some_iff] at h
      obtain ⟨⟨m, r'⟩, h1, h2⟩ := h
      simp at h2
      obtain ⟨rfl, rfl⟩ := h2
      have ih := uvd_len k h1
      have hb2 := u8_lt b
      rw [uv]
      split
      · rename_i hlt
        have : 1 ≤ (uv m).length := uv_pos m
        simp; omega
      · rename_i hlt
        have : (b.toNat - 128 + 128 * m) / 128 = m := by omega
        rw [this]
        simp; omega
theorem rdV_len {p r : B} {n : Nat} (h : rdV p = some (n, r)) : (uv n).length + r.length ≤ p.length := uvd_len 4 h
theorem rdI_len {s : Nat} {p r : B} {n : Int} (h : rdI s p = some (n, r)) : s + r.length = p.length := by
  unfold rdI at h
  simp only [Option.map_eq_some_iff] at h
  obtain ⟨⟨a, b⟩, h1, h2⟩ := h
  simp at h2
  obtain ⟨hl, rfl⟩ := cut_len h1
  rw [← h2.2]; simp [hl]
theorem rdU_len {s : Nat} {p r : B} {n : Int} (h : rdU s p = some (n, r)) : s + r.length = p.length := by
  unfold rdU at h
  simp only [Option.map_eq_some_iff] at h
  obtain ⟨⟨a, b⟩, h1, h2⟩ := h
  simp at h2
  obtain ⟨hl, rfl⟩ := cut_len h1
  rw [← h2.2]; simp [hl]
theorem rdC_len {flex : Bool} {s : Nat} {p r : B} {l : Int} (h : rdC flex s p = some (l, r)) : (l < 0 → (cnt0 flex s).length + r.length ≤ p.length) ∧ (∀ n : Nat, l = n → (cnt flex s n).length + r.length ≤ p.length) ∧ (cnt flex s 0).length + r.length ≤ p.length := by
  unfold rdC at h
  split at h
  · rename_i hf
    simp only [Option.map_eq_some_iff] at h
    obtain ⟨⟨n, r'⟩, h1, h2⟩ := h
    simp at h2
    obtain ⟨rfl, rfl⟩ := h2
    have hl := rdV_len h1
    have hp := uv_pos n
    have h1' : (uv 1).length = 1 := by rw [uv, dif_pos (by omega)]; rfl
    refine ⟨fun _ => ?_, fun m hm => ?_, ?_⟩
    · simp only [cnt0, hf, if_true, List.length_singleton]; omega
    · have : n = m + 1 := by omega
      simp only [cnt, hf, if_true]
      rw [← this]; exact hl
    · simp only [cnt, hf, if_true, Nat.zero_add]
      rw [h1']; omega
  · rename_i hf
    have hl := rdI_len h
    have hf : flex = false := by simpa using hf
    subst hf
    refine ⟨fun _ => ?_, fun m hm => ?_, ?_⟩ <;> simp only [cnt0, cnt, Bool.false_eq_true, if_false, be_length] <;> omega
end Go.Proofs.YtiifcfngbbhgoagDoor.Wire

namespace Go.Proofs.YtiifcfngbbhgoagDoor.Rd
open Go Go.Proofs.YtiifcfngbbhgoagDoor.Ax Go.Proofs.YtiifcfngbbhgoagDoor.Wire
set_option maxRecDepth 100000
structure Globs (H : Heap) (rb0 : Nat) : Prop where
  be : ∃ ty, H[0]? = some (.cells ty .ro [])
  nbe : rb0 ≠ 0
  err : ∃ ty, H[1]? = some (.cells ty .ro [.e])
  nerr : rb0 ≠ 1
  lt : rb0 < H.length
theorem Globs.room {H H' : Heap} {rb0 mb : Nat} (h : Globs H rb0) (hm : H.length ≤ mb) (hl : H.length ≤ H'.length) (hmb : mb < H'.length) (hk : ∀ i b, i < H.length → H[i]? = some b → H'[i]? = some b) : Room (fun i => i ∉ [rb0, mb]) H' rb0 where
  no := by simp
  new := fun i hi => by have := h.lt; simp; omega
  be := by
    obtain ⟨ty, x⟩ := h.be
    have hlt := (List.getElem?_eq_some_iff.1 x).1
    have := h.nbe
    exact ⟨by simp; omega, ty, hk _ _ hlt x⟩
  err := by
    obtain ⟨ty, x⟩ := h.err
    have hlt := (List.getElem?_eq_some_iff.1 x).1
    have := h.nerr
    exact ⟨by simp; omega, ty, hk _ _ hlt x⟩
theorem Globs.keep {H H' : Heap} {rb0 : Nat} (h : Globs H rb0) (hl : H.length ≤ H'.length) (hk : ∀ i b, i < H.length → H[i]? = some b → H'[i]? = some b) : Globs H' rb0 where
  be := h.be.elim fun ty x => ⟨ty, hk _ _ (List.getElem?_eq_some_iff.1 x).1 x⟩
  nbe := h.nbe
  err := h.err.elim fun ty x => ⟨ty, hk _ _ (List.getElem?_eq_some_iff.1 x).1 x⟩
  nerr := h.nerr
  lt := Nat.lt_of_lt_of_le h.lt hl
theorem OutAt.bytes {L0 : Nat} {H : Heap} {out : AV} {bs : B} (h : OutAt L0 H out bs) : BytesAt (fun i => L0 ≤ i) H out bs := by
  rcases h with ⟨rfl, rfl⟩ | ⟨i, hi, rfl, hb, h0⟩
  · exact .z
  · exact .s hi hb h0 (by rw [List.drop_zero, ← u8s_length bs, List.take_length])
theorem BytesAt.noS {A : Nat → Prop} {H : Heap} {av : AV} {bs : B} (h : BytesAt A H av bs) : av.isS = false := by cases h <;> rfl
structure DatAt (H : Heap) (data : AV) (bs : B) : Prop where
  first : firstA H 1 data = some (bs.length, u8s bs)
  noS : data.isS = false
theorem BytesAt.dat {A : Nat → Prop} {H : Heap} {av : AV} {bs : B} (h : BytesAt A H av bs) : DatAt H av bs := ⟨h.first, BytesAt.noS h⟩
theorem DatAt.kp {H H' : Heap} {d : AV} {bs : B} (h : DatAt H d bs) (k : ∀ (i : Nat) (b : Blk), H[i]? = some b → H'[i]? = some b) : DatAt H' d bs := by
  refine ⟨?_, h.noS⟩
  have h1 := h.first
  have h2 := h.noS
  cases d with
  | s x => cases h2
  | sl i o n =>
    simp only [firstA] at h1 ⊢
    cases hi : H[i]? with
    | none => rw [hi] at h1; cases h1
    | some b => rw [k i b hi]; rw [hi] at h1; exact h1
  | _ => exact h1
theorem DatAt.app {H : Heap} {d : AV} {bs : B} (h : DatAt H d bs) (K : Heap) : DatAt (H ++ K) d bs := h.kp fun i b hi => by rw [List.getElem?_append_left (List.getElem?_eq_some_iff.1 hi).1]; exact hi
theorem OutAt.below {L0 : Nat} {H : Heap} {out : AV} {bs : B} (h : OutAt L0 H out bs) : BytesAt (fun i => i < H.length) H out bs := by
  rcases h with ⟨rfl, rfl⟩ | ⟨i, hi, rfl, hb, h0⟩
  · exact .z
  · exact .s (List.getElem?_eq_some_iff.1 hb).1 hb h0 (by rw [List.drop_zero, ← u8s_length bs, List.take_length])
theorem gtrI (a b : Int) (h : ¬ b < a) : binA P .gtr 3 true (.i .i64 a) (.i .i64 b) = some (.b false) := by rw [gtr]; simp [h]
theorem gtrT (a b : Int) (h : b < a) : binA P .gtr 3 true (.i .i64 a) (.i .i64 b) = some (.b true) := by rw [gtr]; simp [h]
theorem unF_nodes : ∀ (pl : List (Ev × Nat)), unF (nodes pl) = pl
  | [] => rfl
  | (e, o) :: r => by cases e <;> simp [nodes, Ev.node, unF, unF_nodes r]
end Go.Proofs.YtiifcfngbbhgoagDoor.Rd

namespace Go.Proofs.YtiifcfngbbhgoagDoor.Rd
open Go Go.Proofs.YtiifcfngbbhgoagDoor.Ax Go.Proofs.YtiifcfngbbhgoagDoor.Wire
set_option maxRecDepth 100000
def SlAt (H : Heap) (sz : Nat) (av : AV) (n : Nat) : Prop :=
  ((av = .s0 ∨ av = .se) ∧ n = 0) ∨ ∃ i o ty kn cs, av = .sl i o n ∧ 0 < n ∧ H[i]? = some (.cells ty kn cs) ∧ o + n * sz ≤ cs.length
def elAt (H : Heap) (sz : Nat) (av : AV) (j : Nat) : Option (List AV) :=
  match av with
  | .sl i o _ => match H[i]? with
    | some (.cells _ _ cs) => some ((cs.drop (o + j * sz)).take sz)
    | _ => none
  | _ => none
def Lt (H : Heap) : Nat → Prop := fun i => i < H.length
def TgAt (H : Heap) (av : AV) (us : List (Nat × B)) : Prop :=
  SlAt H 2 av us.length ∧ ∀ (j k : Nat) (bs : B), us[j]? = some (k, bs) → ∃ v, elAt H 2 av j = some [.i .u32 (k : Nat), v] ∧ BytesAt (Lt H) H v bs
inductive TrAt (H : Heap) : List AV → Tr → Prop
  | mk {n : Int} {s l u : AV} {nl : Bool} {bs : B} {ts : List Tr} {us : List (Nat × B)} (hn : -9223372036854775808 ≤ n ∧ n ≤ 9223372036854775807) (hs : BytesAt (Lt H) H s bs) (hu : TgAt H u us) (hl : SlAt H 5 l ts.length)
      (hx : ∀ (j : Nat) (x : Tr), ts[j]? = some x → ∀ c, elAt H 5 l j = some c → TrAt H c x) : TrAt H [.i .i64 n, s, .b nl, l, u] (.mk n bs nl ts us)
def FdC (H : Heap) : Fdl → List AV → Prop
  | .nil, cs => cs = []
  | .fld kind frm to null tag dflt of sub rest, cs => ∃ av cs', cs = .i .i64 (kind : Nat) :: .i .i64 frm :: .i .i64 to :: .i .i64 null :: .i .i64 tag :: .i .i64 dflt :: .i .i64 (of : Nat) :: av :: cs' ∧
      ((sub = .nil ∧ (av = .s0 ∨ av = .se)) ∨ ∃ i ty kn c2, av = .sl i 0 sub.len ∧ H[i]? = some (.cells ty kn c2) ∧ FdC H sub c2 ∧ sub ≠ .nil) ∧ FdC H rest cs'
def FdAt (H : Heap) (av : AV) (fd : Fdl) : Prop := (fd = .nil ∧ (av = .s0 ∨ av = .se)) ∨ ∃ i ty kn c2, av = .sl i 0 fd.len ∧ H[i]? = some (.cells ty kn c2) ∧ FdC H fd c2 ∧ fd ≠ .nil
def Kp (H H' : Heap) : Prop := H.length ≤ H'.length ∧ ∀ i, i < H.length → H'[i]? = H[i]?
theorem Kp.refl (H : Heap) : Kp H H := ⟨Nat.le_refl _, fun _ _ => rfl⟩
theorem Kp.trans {a b c : Heap} (h : Kp a b) (k : Kp b c) : Kp a c := ⟨Nat.le_trans h.1 k.1, fun i hi => by rw [k.2 i (Nat.lt_of_lt_of_le hi h.1), h.2 i hi]⟩
theorem Kp.at_ {H H' : Heap} (h : Kp H H') {i : Nat} {b : Blk} (hi : H[i]? = some b) : H'[i]? = some b := by
  rw [h.2 i (List.getElem?_eq_some_iff.1 hi).1]; exact hi
theorem Kp.app (H K : Heap) : Kp H (H ++ K) := ⟨by simp, fun i hi => by rw [List.getElem?_append_left hi]⟩
theorem Kp.w {L0 : Nat} {H H' : Heap} (h : Kp H H') (hL : L0 ≤ H.length) : WKeep L0 H H' := ⟨fun i hi => h.2 i (by omega), h.1⟩
section
variable {H H' : Heap}
theorem Kp.bytes (k : Kp H H') {av : AV} {bs : B} (h : BytesAt (Lt H) H av bs) : BytesAt (Lt H') H' av bs := by
  cases h with
  | z => exact .z
  | e => exact .e
  | s hA h h0 h1 => exact .s (show _ < H'.length from Nat.lt_of_lt_of_le hA k.1) (k.at_ h) h0 h1
theorem SlAt.kp {sz n : Nat} {av : AV} (h : SlAt H sz av n) (k : Kp H H') : SlAt H' sz av n := by
  rcases h with h | ⟨i, o, ty, kn, cs, h1, h2, h3, h4⟩
  · exact .inl h
  · exact .inr ⟨i, o, ty, kn, cs, h1, h2, k.at_ h3, h4⟩
theorem SlAt.el {sz n : Nat} {av : AV} (h : SlAt H sz av n) (k : Kp H H') {j : Nat} (hj : j < n) : elAt H' sz av j = elAt H sz av j := by
  rcases h with ⟨_, h⟩ | ⟨i, o, ty, kn, cs, rfl, h2, h3, h4⟩
  · omega
  · simp only [elAt, k.at_ h3, h3]
theorem SlAt.get {sz n : Nat} {av : AV} (h : SlAt H sz av n) {j : Nat} (hj : j < n) : ∃ c, elAt H sz av j = some c ∧ c.length = sz := by
  rcases h with ⟨_, h⟩ | ⟨i, o, ty, kn, cs, rfl, h2, h3, h4⟩
  · omega
  · refine ⟨(cs.drop (o + j * sz)).take sz, by simp only [elAt, h3], ?_⟩
    have : (j + 1) * sz ≤ n * sz := Nat.mul_le_mul_right _ hj
    rw [List.length_take, List.length_drop]
    have e : (j + 1) * sz = j * sz + sz := by rw [Nat.add_mul, Nat.one_mul]
    omega
theorem TgAt.kp {av : AV} {us : List (Nat × B)} (h : TgAt H av us) (k : Kp H H') : TgAt H' av us := by
  refine ⟨h.1.kp k, fun j n bs hj => ?_⟩
  obtain ⟨v, h1, h2⟩ := h.2 j n bs hj
  exact ⟨v, by rw [h.1.el k (List.getElem?_eq_some_iff.1 hj).1]; exact h1, k.bytes h2⟩
theorem TrAt.kp (k : Kp H H') {c : List AV} {t : Tr} (h : TrAt H c t) : TrAt H' c t := by
  induction h with
  | mk hn hs hu hl _ ih =>
    refine .mk hn (k.bytes hs) (hu.kp k) (hl.kp k) fun j x hj c hc => ?_
    rw [hl.el k (List.getElem?_eq_some_iff.1 hj).1] at hc
    exact ih j x hj c hc
theorem FdC.kp (k : Kp H H') : ∀ {fd : Fdl} {cs : List AV}, FdC H fd cs → FdC H' fd cs
  | .nil, _, h => h
  | .fld kind frm to null tag dflt of sub rest, cs, ⟨av, cs', h1, h2, h3⟩ => by
    refine ⟨av, cs', h1, ?_, FdC.kp k h3⟩
    rcases h2 with h | ⟨i, ty, kn, c2, h4, h5, h6, h7⟩
    · exact .inl h
    · exact .inr ⟨i, ty, kn, c2, h4, k.at_ h5, FdC.kp k h6, h7⟩
theorem FdAt.kp (k : Kp H H') {fd : Fdl} {av : AV} (h : FdAt H av fd) : FdAt H' av fd := by
  rcases h with h | ⟨i, ty, kn, c2, h4, h5, h6, h7⟩
  · exact .inl h
  · exact .inr ⟨i, ty, kn, c2, h4, k.at_ h5, FdC.kp k h6, h7⟩
theorem FdC.len : ∀ {fd : Fdl} {cs : List AV}, FdC H fd cs → cs.length = fd.len * 8
  | .nil, _, h => by have h : _ = _ := h; subst h; rfl
  | .fld kind frm to null tag dflt of sub rest, cs, ⟨av, cs', h1, h2, h3⟩ => by
    have := FdC.len h3
    subst h1
    simp [Fdl.len, this]; omega
end
end Go.Proofs.YtiifcfngbbhgoagDoor.Rd

