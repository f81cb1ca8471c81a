/-
  WRITING: octets put behind what was written.
-/
import Derived.Test.YtdanlkiojkimaaaDoorQWxBox
import Derived.Test.YtdanlkiojkimaaaDoorQRdStep
set_option linter.constructorNameAsVariable false
set_option linter.unusedVariables false
set_option linter.unusedSimpArgs false
namespace Go.Proofs.YtdanlkiojkimaaaDoor.Rd
open Go Go.Proofs.YtdanlkiojkimaaaDoor.Ax Go.Proofs.YtdanlkiojkimaaaDoor.Wire
set_option maxRecDepth 100000
theorem zeroU : zeroA P 5 = some (.i .u8 0) := by kernel_rfl
theorem elemB : elemA P 22 = some 5 := by kernel_rfl
theorem sizeU : sizeA P 5 = some 1 := by kernel_rfl
theorem bytesU : bytesA P 5 = some 1 := by kernel_rfl
theorem OutAt.lt {L0 : Nat} {H : Heap} {bs : B} {i : Nat} {b : Blk} (h : H[i]? = some b) : i < H.length := (List.getElem?_eq_some_iff.1 h).1
theorem u8s_app (a b : B) : u8s (a ++ b) = u8s a ++ u8s b := by simp [u8s]
theorem ap_bytes {L0 : Nat} {H : Heap} {out x : AV} {bs new : B} {str : Bool} (hL : L0 ≤ H.length) (ho : OutAt L0 H out bs) (hx : firstA H 1 x = some (new.length, u8s new)) (hb : bs.length + new.length ≤ 1099511627776) :
    ∃ out' H', appendA P H 22 str out x = some (out', H') ∧ OutAt L0 H' out' (bs ++ new) ∧ WKeep L0 H H' := by
  have hz : (AV.i IntKind.u8 0).cells.all AV.one = true := rfl
  rcases ho with ⟨rfl, rfl⟩ | ⟨i, hi, rfl, hblk, h0⟩
  · by_cases hn : new.length = 0
    · refine ⟨.s0, H, ?_, .inl ⟨rfl, by simpa using hn⟩, .refl _ _⟩
      unfold appendA
      simp only [elemB, sizeU, bytesU, zeroU]
      rw [if_pos (by refine ⟨by omega, ?_, ?_, fun _ => ?_⟩ <;> first | rfl | trivial | exact ⟨rfl, rfl⟩)]
      simp only [hx, hn, if_true]
    · refine ⟨.sl H.length 0 new.length, H ++ [.cells 5 .row (u8s new)], ?_, .inr ⟨H.length, hL, by simp, by simp, by simp; omega⟩, ⟨fun i hi => by rw [List.getElem?_append_left (by omega)], by simp⟩⟩
      unfold appendA
      simp only [elemB, sizeU, bytesU, zeroU]
      rw [if_pos (by refine ⟨by omega, ?_, ?_, fun _ => ?_⟩ <;> first | rfl | trivial | exact ⟨rfl, rfl⟩)]
      simp only [hx]
      rw [if_neg hn, if_pos ⟨by omega, by omega⟩]
      simp only [newBlk, u8s_one, if_true, Option.map_some]
  · have hil := OutAt.lt (L0 := L0) (bs := bs) hblk
    refine ⟨.sl H.length 0 (bs.length + new.length), H.set i .dead ++ [.cells 5 .row (u8s bs ++ u8s new)], ?_, .inr ⟨H.length, hL, by simp, by simp [u8s_app], by simp; omega⟩, ⟨fun k hk => ?_, by simp⟩⟩
    · unfold appendA
      simp only [elemB, sizeU, bytesU, zeroU]
      rw [if_pos (by refine ⟨by omega, ?_, ?_, fun _ => ?_⟩ <;> first | rfl | trivial | exact ⟨rfl, rfl⟩)]
      simp only [hx, hblk]
      rw [if_pos (by refine ⟨?_, by rw [u8s_length]; omega, by omega, by omega⟩ <;> first | rfl | trivial)]
      have ht : (u8s bs).take (bs.length * 1) = u8s bs := by rw [Nat.mul_one, ← u8s_length bs, List.take_length]
      rw [ht]
      have hall : (u8s bs ++ u8s new).all AV.one = true := by rw [List.all_append, u8s_one, u8s_one]; rfl
      simp only [newBlk, hall, if_true, Option.map_some, List.length_set]
    · rw [List.getElem?_append_left (by simp; omega), List.getElem?_set, if_neg (by omega)]
structure OKeep (H : Heap) (out : AV) (H' : Heap) (out' : AV) : Prop where
  at_ : ∀ (j : Nat) (b : Blk), H[j]? = some b → (∀ i o n, out = .sl i o n → j ≠ i) → H'[j]? = some b
  new : ∀ i o n, out' = .sl i o n → H.length ≤ i
  len : H.length ≤ H'.length
theorem OKeep.app {H K : Heap} {out : AV} {H' : Heap} {out' : AV} (h : OKeep (H ++ K) out H' out') : OKeep H out H' out' :=
  ⟨fun j b hj ho => h.at_ j b (by rw [List.getElem?_append_left (List.getElem?_eq_some_iff.1 hj).1]; exact hj) ho, fun i o n e => by have := h.new i o n e; simp at this; omega, by have := h.len; simp at this; omega⟩
theorem OKeep.trans {H H' H'' : Heap} {out out' out'' : AV} (h : OKeep H out H' out') (k : OKeep H' out' H'' out'') : OKeep H out H'' out'' :=
  ⟨fun j b hj ho => k.at_ j b (h.at_ j b hj ho) (fun i o n e => by have := h.new i o n e; have := (List.getElem?_eq_some_iff.1 hj).1; omega), fun i o n e => Nat.le_trans h.len (k.new i o n e), Nat.le_trans h.len k.len⟩
theorem OutAt.app {L0 : Nat} {H : Heap} {out : AV} {bs : B} (h : OutAt L0 H out bs) (K : Heap) : OutAt L0 (H ++ K) out bs := by
  rcases h with h | ⟨i, h1, h2, h3, h4⟩
  · exact .inl h
  · exact .inr ⟨i, h1, h2, (Grows.app H K).at h3, h4⟩
theorem WKeep.app (L0 : Nat) (H K : Heap) (hL : L0 ≤ H.length) : WKeep L0 H (H ++ K) := ⟨fun i hi => by rw [List.getElem?_append_left (by omega)], by simp⟩
theorem OutAt.noS {L0 : Nat} {H : Heap} {out : AV} {bs : B} (h : OutAt L0 H out bs) : out.isS = false := by
  rcases h with ⟨rfl, _⟩ | ⟨i, _, rfl, _⟩ <;> rfl
theorem first_new (H : Heap) (ty : TypeId) (new : B) (h : 0 < new.length) : firstA (H ++ [.cells ty .row (u8s new)]) 1 (.sl H.length 0 new.length) = some (new.length, u8s new) := by
  have ht : ((u8s new).drop 0).take (new.length * 1) = u8s new := by rw [List.drop_zero, Nat.mul_one, ← u8s_length new, List.take_length]
  simp only [firstA, List.getElem?_concat_length]
  rw [if_pos ⟨by rw [u8s_length]; omega, by rw [ht]; exact u8s_one _⟩, ht]
theorem U8_wrap (n : Int) : AV.i .u8 (IntKind.u8.wrap n) = U8 (UInt8.ofNat (n % 256).toNat) := by
  have h : (UInt8.ofNat (n % 256).toNat).toNat = (n % 256).toNat := u8_ofNat (by omega)
  unfold U8
  rw [h]
  congr 1
  simp [IntKind.wrap, IntKind.signed, IntKind.bits]
  omega
theorem shr (t : TypeId) (k : IntKind) (c : Bool) (a : Int) (n : Nat) (hn : n ≤ k.bits) : binA P .shr t c (.i k a) (.i .u64 (n : Int)) = some (.i k (a / (2 : Int) ^ n)) := by
  show ofSem (Op.shift .shr k a .u64 (n : Int)) = _
  have h : Op.shift .shr k a .u64 (n : Int) = pure (.int k (a.fdiv (2 ^ n))) := by
    unfold Op.shift
    rw [if_neg (by omega)]
    simp only [Int.toNat_natCast, Nat.min_eq_left hn]
  rw [h, Int.fdiv_eq_ediv_of_nonneg _ (by exact Int.le_of_lt (Int.pow_pos (by omega)))]
  rfl
end Go.Proofs.YtdanlkiojkimaaaDoor.Rd

namespace Go.Proofs.YtdanlkiojkimaaaDoor.Rd
open Go Go.Proofs.YtdanlkiojkimaaaDoor.Ax Go.Proofs.YtdanlkiojkimaaaDoor.Wire
set_option maxRecDepth 100000
set_option maxHeartbeats 1000000
theorem be2 (n : Int) : be 2 n = [UInt8.ofNat ((n / 256) % 256).toNat, UInt8.ofNat (n % 256).toNat] := by simp [be]
theorem be4 (n : Int) : be 4 n = [UInt8.ofNat ((n / 16777216) % 256).toNat, UInt8.ofNat ((n / 65536) % 256).toNat, UInt8.ofNat ((n / 256) % 256).toNat, UInt8.ofNat (n % 256).toNat] := by simp [be]
theorem be_mod2 (n : Int) : be 2 (n % 65536) = be 2 n := by
  rw [be2, be2]
  have h1 : n % 65536 / 256 % 256 = n / 256 % 256 := by omega
  have h2 : n % 65536 % 256 = n % 256 := by omega
  rw [h1, h2]
theorem be_mod4 (n : Int) : be 4 (n % 4294967296) = be 4 n := by
  rw [be4, be4]
  have h1 : n % 4294967296 / 16777216 % 256 = n / 16777216 % 256 := by omega
  have h2 : n % 4294967296 / 65536 % 256 = n / 65536 % 256 := by omega
  have h3 : n % 4294967296 / 256 % 256 = n / 256 % 256 := by omega
  have h4 : n % 4294967296 % 256 = n % 256 := by omega
  rw [h1, h2, h3, h4]
theorem shr_8 (t : TypeId) (k : IntKind) (c : Bool) (a : Int) (hk : 8 ≤ k.bits) : binA P .shr t c (.i k a) (.i .u64 8) = some (.i k (a / 256)) := by have := shr t k c a 8 hk; simpa using this
theorem shr_16 (t : TypeId) (k : IntKind) (c : Bool) (a : Int) (hk : 16 ≤ k.bits) : binA P .shr t c (.i k a) (.i .u64 16) = some (.i k (a / 65536)) := by have := shr t k c a 16 hk; simpa using this
theorem shr_24 (t : TypeId) (k : IntKind) (c : Bool) (a : Int) (hk : 24 ≤ k.bits) : binA P .shr t c (.i k a) (.i .u64 24) = some (.i k (a / 16777216)) := by have := shr t k c a 24 hk; simpa using this
theorem build_1 (H : Heap) (b0 : UInt8) : buildSliceA P H 22 1 [(0, U8 b0)] = some (.sl H.length 0 1, H ++ [.cells 5 .row (u8s [b0])]) := by kernel_rfl
theorem build_2 (H : Heap) (b0 b1 : UInt8) : buildSliceA P H 22 2 [(0, U8 b0), (1, U8 b1)] = some (.sl H.length 0 2, H ++ [.cells 5 .row (u8s [b0, b1])]) := by kernel_rfl
theorem build_4 (H : Heap) (b0 b1 b2 b3 : UInt8) : buildSliceA P H 22 4 [(0, U8 b0), (1, U8 b1), (2, U8 b2), (3, U8 b3)] = some (.sl H.length 0 4, H ++ [.cells 5 .row (u8s [b0, b1, b2, b3])]) := by kernel_rfl
theorem cv_u16_8 (m : Int) : convA P 27 5 (.i .u16 m) = some (U8 (UInt8.ofNat (m % 256).toNat)) := by rw [← U8_wrap]; kernel_rfl
theorem ap_u16_run {L0 : Nat} {H : Heap} {out : AV} {bs : B} {n n0 : Int} {b0 b1 : UInt8} (hL : L0 ≤ H.length) (ho : OutAt L0 H out bs) (hb : bs.length + 2 ≤ 1099511627776)
    (s0 : binA P .shr 27 true (.i .u16 n) (.i .u64 8) = some (.i .u16 n0)) (c0 : convA P 27 5 (.i .u16 n0) = some (U8 b0))
    (c1 : convA P 27 5 (.i .u16 n) = some (U8 b1)) :
    ∃ out' H', CA P NS 110 [out, .i .u16 n] H (out', H') ∧ OutAt L0 H' out' (bs ++ [b0, b1]) ∧ WKeep L0 H H' := by
  have hbl := build_2 H b0 b1
  have hfi := first_new H 5 [b0, b1] (by simp)
  obtain ⟨out', H', ha, h1, h2⟩ := ap_bytes (str := false) (x := .sl H.length 0 2) (new := [b0, b1]) (by simp; omega) (ho.app [.cells 5 .row (u8s [b0, b1])]) hfi (by simpa using hb)
  refine ⟨out', H', ?_, h1, (WKeep.app L0 H _ hL).trans h2⟩
  generalize H ++ [Blk.cells 5 Kn.row (u8s [b0, b1])] = H1 at hbl ha
  refine CA.go (fn := Tryd.f110) (vs := [_]) (by kernel_rfl) rfl (.inr rfl) ?_
  apply Exists.intro
  apply And.intro
  · dsimp only [Tryd.f110]
    dsimp only [List.length_cons, List.length_nil, List.cons_append, List.nil_append, Nat.reduceSub, Nat.reduceAdd, List.replicate]
    refine RU.seq RU.rg ?_
    refine RU.seq RU.rg ?_
    exact RU.ret
  · rfl
theorem ap_u16 {L0 : Nat} {H : Heap} {out : AV} {bs : B} {n : Int} (hL : L0 ≤ H.length) (ho : OutAt L0 H out bs) (hb : bs.length + 2 ≤ 1099511627776) :
    ∃ out' H', CA P NS 110 [out, .i .u16 n] H (out', H') ∧ OutAt L0 H' out' (bs ++ be 2 n) ∧ WKeep L0 H H' := by
  rw [be2]
  exact ap_u16_run hL ho hb (shr_8 _ _ _ _ (by simp [IntKind.bits])) (cv_u16_8 _) (cv_u16_8 n)
theorem cv_u32_8 (m : Int) : convA P 110 5 (.i .u32 m) = some (U8 (UInt8.ofNat (m % 256).toNat)) := by rw [← U8_wrap]; kernel_rfl
theorem ap_u32_run {L0 : Nat} {H : Heap} {out : AV} {bs : B} {n n0 n1 n2 : Int} {b0 b1 b2 b3 : UInt8} (hL : L0 ≤ H.length) (ho : OutAt L0 H out bs) (hb : bs.length + 4 ≤ 1099511627776)
    (s0 : binA P .shr 110 true (.i .u32 n) (.i .u64 24) = some (.i .u32 n0)) (c0 : convA P 110 5 (.i .u32 n0) = some (U8 b0))
    (s1 : binA P .shr 110 true (.i .u32 n) (.i .u64 16) = some (.i .u32 n1)) (c1 : convA P 110 5 (.i .u32 n1) = some (U8 b1))
    (s2 : binA P .shr 110 true (.i .u32 n) (.i .u64 8) = some (.i .u32 n2)) (c2 : convA P 110 5 (.i .u32 n2) = some (U8 b2))
    (c3 : convA P 110 5 (.i .u32 n) = some (U8 b3)) :
    ∃ out' H', CA P NS 119 [out, .i .u32 n] H (out', H') ∧ OutAt L0 H' out' (bs ++ [b0, b1, b2, b3]) ∧ WKeep L0 H H' := by
  have hbl := build_4 H b0 b1 b2 b3
  have hfi := first_new H 5 [b0, b1, b2, b3] (by simp)
  obtain ⟨out', H', ha, h1, h2⟩ := ap_bytes (str := false) (x := .sl H.length 0 4) (new := [b0, b1, b2, b3]) (by simp; omega) (ho.app [.cells 5 .row (u8s [b0, b1, b2, b3])]) hfi (by simpa using hb)
  refine ⟨out', H', ?_, h1, (WKeep.app L0 H _ hL).trans h2⟩
  generalize H ++ [Blk.cells 5 Kn.row (u8s [b0, b1, b2, b3])] = H1 at hbl ha
  refine CA.go (fn := Tryd.f119) (vs := [_]) (by kernel_rfl) rfl (.inr rfl) ?_
  apply Exists.intro
  apply And.intro
  · dsimp only [Tryd.f119]
    dsimp only [List.length_cons, List.length_nil, List.cons_append, List.nil_append, Nat.reduceSub, Nat.reduceAdd, List.replicate]
    refine RU.seq RU.rg ?_
    refine RU.seq RU.rg ?_
    exact RU.ret
  · rfl
theorem ap_u32 {L0 : Nat} {H : Heap} {out : AV} {bs : B} {n : Int} (hL : L0 ≤ H.length) (ho : OutAt L0 H out bs) (hb : bs.length + 4 ≤ 1099511627776) :
    ∃ out' H', CA P NS 119 [out, .i .u32 n] H (out', H') ∧ OutAt L0 H' out' (bs ++ be 4 n) ∧ WKeep L0 H H' := by
  rw [be4]
  exact ap_u32_run hL ho hb (shr_24 _ _ _ _ (by simp [IntKind.bits])) (cv_u32_8 _) (shr_16 _ _ _ _ (by simp [IntKind.bits])) (cv_u32_8 _) (shr_8 _ _ _ _ (by simp [IntKind.bits])) (cv_u32_8 _) (cv_u32_8 n)
theorem cv_i16_u16 (n : Int) : convA P 40 27 (.i .i16 n) = some (.i .u16 (n % 65536)) := by
  have e : convA P 40 27 (.i .i16 n) = some (.i .u16 (IntKind.u16.wrap n)) := by kernel_rfl
  rw [e]
  simp [IntKind.wrap, IntKind.signed, IntKind.bits]
theorem ap_i16 {L0 : Nat} {H : Heap} {out : AV} {bs : B} {n : Int} (hL : L0 ≤ H.length) (ho : OutAt L0 H out bs) (hb : bs.length + 2 ≤ 1099511627776) :
    ∃ out' H', CA P NS 68 [out, .i .i16 n] H (out', H') ∧ OutAt L0 H' out' (bs ++ be 2 n) ∧ WKeep L0 H H' := by
  obtain ⟨out', H', hca, h1, h2⟩ := ap_u16 (n := n % 65536) hL ho hb
  rw [be_mod2] at h1
  have hc := cv_i16_u16 n
  refine ⟨out', H', ?_, h1, h2⟩
  generalize n % 65536 = m at hca hc
  refine CA.go (fn := Tryd.f68) (vs := [_]) (by kernel_rfl) rfl (.inr rfl) ?_
  apply Exists.intro
  apply And.intro
  · dsimp only [Tryd.f68]
    dsimp only [List.length_cons, List.length_nil, List.cons_append, List.nil_append, Nat.reduceSub, Nat.reduceAdd, List.replicate]
    refine RU.seq RU.rg ?_
    refine RU.seq RU.rg ?_
    exact RU.ret
  · rfl
theorem cv_i32_u32 (n : Int) : convA P 21 110 (.i .i32 n) = some (.i .u32 (n % 4294967296)) := by
  have e : convA P 21 110 (.i .i32 n) = some (.i .u32 (IntKind.u32.wrap n)) := by kernel_rfl
  rw [e]
  simp [IntKind.wrap, IntKind.signed, IntKind.bits]
theorem ap_i32 {L0 : Nat} {H : Heap} {out : AV} {bs : B} {n : Int} (hL : L0 ≤ H.length) (ho : OutAt L0 H out bs) (hb : bs.length + 4 ≤ 1099511627776) :
    ∃ out' H', CA P NS 74 [out, .i .i32 n] H (out', H') ∧ OutAt L0 H' out' (bs ++ be 4 n) ∧ WKeep L0 H H' := by
  obtain ⟨out', H', hca, h1, h2⟩ := ap_u32 (n := n % 4294967296) hL ho hb
  rw [be_mod4] at h1
  have hc := cv_i32_u32 n
  refine ⟨out', H', ?_, h1, h2⟩
  generalize n % 4294967296 = m at hca hc
  refine CA.go (fn := Tryd.f74) (vs := [_]) (by kernel_rfl) rfl (.inr rfl) ?_
  apply Exists.intro
  apply And.intro
  · dsimp only [Tryd.f74]
    dsimp only [List.length_cons, List.length_nil, List.cons_append, List.nil_append, Nat.reduceSub, Nat.reduceAdd, List.replicate]
    refine RU.seq RU.rg ?_
    refine RU.seq RU.rg ?_
    exact RU.ret
  · rfl
end Go.Proofs.YtdanlkiojkimaaaDoor.Rd

namespace Go.Proofs.YtdanlkiojkimaaaDoor.Rd
open Go Go.Proofs.YtdanlkiojkimaaaDoor.Ax Go.Proofs.YtdanlkiojkimaaaDoor.Wire
set_option maxRecDepth 100000
set_option maxHeartbeats 1000000
theorem first_s (H : Heap) (bs : B) : firstA H 1 (.s (bst bs)) = some (bs.length, u8s bs) := by
  simp [firstA, bst, ByteArray.size, u8s, U8]
theorem be2_wrap (n : Int) : be 2 (IntKind.i16.wrap n) = be 2 n := by
  rw [← be_mod2 (IntKind.i16.wrap n), ← be_mod2 n]
  congr 1
  simp [IntKind.wrap, IntKind.signed, IntKind.bits]
  split <;> omega
end Go.Proofs.YtdanlkiojkimaaaDoor.Rd

namespace Go.Proofs.YtdanlkiojkimaaaDoor.Rd
open Go Go.Proofs.YtdanlkiojkimaaaDoor.Ax Go.Proofs.YtdanlkiojkimaaaDoor.Wire
set_option maxRecDepth 100000
set_option maxHeartbeats 1000000
end Go.Proofs.YtdanlkiojkimaaaDoor.Rd

namespace Go.Proofs.YtdanlkiojkimaaaDoor.Rd
open Go Go.Proofs.YtdanlkiojkimaaaDoor.Ax Go.Proofs.YtdanlkiojkimaaaDoor.Wire
set_option maxRecDepth 100000
set_option maxHeartbeats 1000000
end Go.Proofs.YtdanlkiojkimaaaDoor.Rd

