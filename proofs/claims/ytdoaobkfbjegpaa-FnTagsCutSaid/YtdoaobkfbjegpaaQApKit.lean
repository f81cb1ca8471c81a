/-
  WRITING: octets put behind what was written.
-/
import Derived.Test.YtdoaobkfbjegpaaQWxBox
import Derived.Test.YtdoaobkfbjegpaaQRdStep
set_option linter.constructorNameAsVariable false
set_option linter.unusedVariables false
set_option linter.unusedSimpArgs false
namespace Go.Proofs.Ytdoaobkfbjegpaa.Rd
open Go Go.Proofs.Ytdoaobkfbjegpaa.Ax Go.Proofs.Ytdoaobkfbjegpaa.Wire
set_option maxRecDepth 100000
theorem zeroU : zeroA P 5 = some (.i .u8 0) := by kernel_rfl
theorem elemB : elemA P 28 = some 5 := by kernel_rfl
theorem sizeU : sizeA P 5 = some 1 := by kernel_rfl
theorem bytesU : bytesA P 5 = some 1 := by kernel_rfl
theorem OutAt.lt {L0 : Nat} {H : Heap} {bs : B} {i : Nat} {b : Blk} (h : H[i]? = some b) : i < H.length := (List.getElem?_eq_some_iff.1 h).1
theorem u8s_app (a b : B) : u8s (a ++ b) = u8s a ++ u8s b := by simp [u8s]
theorem ap_bytes {L0 : Nat} {H : Heap} {out x : AV} {bs new : B} {str : Bool} (hL : L0 ≤ H.length) (ho : OutAt L0 H out bs) (hx : firstA H 1 x = some (new.length, u8s new)) (hb : bs.length + new.length ≤ 1099511627776) :
    ∃ out' H', appendA P H 28 str out x = some (out', H') ∧ OutAt L0 H' out' (bs ++ new) ∧ WKeep L0 H H' := by
  have hz : (AV.i IntKind.u8 0).cells.all AV.one = true := rfl
  rcases ho with ⟨rfl, rfl⟩ | ⟨i, hi, rfl, hblk, h0⟩
  · by_cases hn : new.length = 0
    · refine ⟨.s0, H, ?_, .inl ⟨rfl, by simpa using hn⟩, .refl _ _⟩
      unfold appendA
      simp only [elemB, sizeU, bytesU, zeroU]
      rw [if_pos (by refine ⟨by omega, ?_, ?_, fun _ => ?_⟩ <;> first | rfl | trivial | exact ⟨rfl, rfl⟩)]
      simp only [hx, hn, if_true]
    · refine ⟨.sl H.length 0 new.length, H ++ [.cells 5 .row (u8s new)], ?_, .inr ⟨H.length, hL, by simp, by simp, by simp; omega⟩, ⟨fun i hi => by rw [List.getElem?_append_left (by omega)], by simp⟩⟩
      unfold appendA
      simp only [elemB, sizeU, bytesU, zeroU]
      rw [if_pos (by refine ⟨by omega, ?_, ?_, fun _ => ?_⟩ <;> first | rfl | trivial | exact ⟨rfl, rfl⟩)]
      simp only [hx]
      rw [if_neg hn, if_pos ⟨by omega, by omega⟩]
      simp only [newBlk, u8s_one, if_true, Option.map_some]
  · have hil := OutAt.lt (L0 := L0) (bs := bs) hblk
    refine ⟨.sl H.length 0 (bs.length + new.length), H.set i .dead ++ [.cells 5 .row (u8s bs ++ u8s new)], ?_, .inr ⟨H.length, hL, by simp, by simp [u8s_app], by simp; omega⟩, ⟨fun k hk => ?_, by simp⟩⟩
    · unfold appendA
      simp only [elemB, sizeU, bytesU, zeroU]
      rw [if_pos (by refine ⟨by omega, ?_, ?_, fun _ => ?_⟩ <;> first | rfl | trivial | exact ⟨rfl, rfl⟩)]
      simp only [hx, hblk]
      rw [if_pos (by refine ⟨?_, by rw [u8s_length]; omega, by omega, by omega⟩ <;> first | rfl | trivial)]
      have ht : (u8s bs).take (bs.length * 1) = u8s bs := by rw [Nat.mul_one, ← u8s_length bs, List.take_length]
      rw [ht]
      have hall : (u8s bs ++ u8s new).all AV.one = true := by rw [List.all_append, u8s_one, u8s_one]; rfl
      simp only [newBlk, hall, if_true, Option.map_some, List.length_set]
    · rw [List.getElem?_append_left (by simp; omega), List.getElem?_set, if_neg (by omega)]
structure OKeep (H : Heap) (out : AV) (H' : Heap) (out' : AV) : Prop where
  at_ : ∀ (j : Nat) (b : Blk), H[j]? = some b → (∀ i o n, out = .sl i o n → j ≠ i) → H'[j]? = some b
  new : ∀ i o n, out' = .sl i o n → H.length ≤ i
  len : H.length ≤ H'.length
theorem OKeep.app {H K : Heap} {out : AV} {H' : Heap} {out' : AV} (h : OKeep (H ++ K) out H' out') : OKeep H out H' out' :=
  ⟨fun j b hj ho => h.at_ j b (by rw [List.getElem?_append_left (List.getElem?_eq_some_iff.1 hj).1]; exact hj) ho, fun i o n e => by have := h.new i o n e; simp at this; omega, by have := h.len; simp at this; omega⟩
theorem OKeep.trans {H H' H'' : Heap} {out out' out'' : AV} (h : OKeep H out H' out') (k : OKeep H' out' H'' out'') : OKeep H out H'' out'' :=
  ⟨fun j b hj ho => k.at_ j b (h.at_ j b hj ho) (fun i o n e => by have := h.new i o n e; have := (List.getElem?_eq_some_iff.1 hj).1; omega), fun i o n e => Nat.le_trans h.len (k.new i o n e), Nat.le_trans h.len k.len⟩
theorem OutAt.shape {L0 : Nat} {H : Heap} {out : AV} {bs : B} (h : OutAt L0 H out bs) : out = .s0 ∨ ∃ i n, out = .sl i 0 n := by
  rcases h with ⟨rfl, _⟩ | ⟨i, _, rfl, _⟩
  · exact .inl rfl
  · exact .inr ⟨_, _, rfl⟩
theorem app_keep {H H' : Heap} {out out' x : AV} {str : Bool} {new : B} (h : appendA P H 28 str out x = some (out', H')) (hs : out = .s0 ∨ ∃ i n, out = .sl i 0 n) (hx : firstA H 1 x = some (new.length, u8s new)) (h0 : 0 < new.length ∨ out ≠ .s0) : OKeep H out H' out' := by
  unfold appendA at h
  simp only [elemB, sizeU, bytesU, zeroU] at h
  split at h
  · rw [hx] at h
    simp only at h
    rcases hs with rfl | ⟨i, n, rfl⟩
    · have h0 : 0 < new.length := h0.elim id (fun h => absurd rfl h)
      simp only at h
      rw [if_neg (by omega)] at h
      split at h
      · simp only [newBlk] at h
        split at h
        · simp at h
          obtain ⟨rfl, rfl⟩ := h
          exact ⟨fun j b hj _ => by rw [List.getElem?_append_left (List.getElem?_eq_some_iff.1 hj).1]; exact hj, fun i o n e => by cases e; exact Nat.le_refl _, by simp⟩
        · simp at h
      · cases h
    · simp only at h
      cases hi : H[i]? with
      | none => rw [hi] at h; simp at h
      | some b0 =>
        rw [hi] at h
        split at h
        · split at h
          · simp only [newBlk] at h
            split at h
            · simp at h
              obtain ⟨rfl, rfl⟩ := h
              refine ⟨fun j b hj ho => ?_, fun i o n e => by cases e; exact Nat.le_refl _, by simp⟩
              have := ho i 0 n rfl
              rw [List.getElem?_append_left (by simp; exact (List.getElem?_eq_some_iff.1 hj).1), List.getElem?_set, if_neg (by omega)]
              exact hj
            · simp at h
          · cases h
        · cases h
  · cases h
theorem OutAt.app {L0 : Nat} {H : Heap} {out : AV} {bs : B} (h : OutAt L0 H out bs) (K : Heap) : OutAt L0 (H ++ K) out bs := by
  rcases h with h | ⟨i, h1, h2, h3, h4⟩
  · exact .inl h
  · exact .inr ⟨i, h1, h2, (Grows.app H K).at h3, h4⟩
theorem WKeep.app (L0 : Nat) (H K : Heap) (hL : L0 ≤ H.length) : WKeep L0 H (H ++ K) := ⟨fun i hi => by rw [List.getElem?_append_left (by omega)], by simp⟩
theorem OutAt.noS {L0 : Nat} {H : Heap} {out : AV} {bs : B} (h : OutAt L0 H out bs) : out.isS = false := by
  rcases h with ⟨rfl, _⟩ | ⟨i, _, rfl, _⟩ <;> rfl
theorem first_new (H : Heap) (ty : TypeId) (new : B) (h : 0 < new.length) : firstA (H ++ [.cells ty .row (u8s new)]) 1 (.sl H.length 0 new.length) = some (new.length, u8s new) := by
  have ht : ((u8s new).drop 0).take (new.length * 1) = u8s new := by rw [List.drop_zero, Nat.mul_one, ← u8s_length new, List.take_length]
  simp only [firstA, List.getElem?_concat_length]
  rw [if_pos ⟨by rw [u8s_length]; omega, by rw [ht]; exact u8s_one _⟩, ht]
theorem U8_wrap (n : Int) : AV.i .u8 (IntKind.u8.wrap n) = U8 (UInt8.ofNat (n % 256).toNat) := by
  have h : (UInt8.ofNat (n % 256).toNat).toNat = (n % 256).toNat := u8_ofNat (by omega)
  unfold U8
  rw [h]
  congr 1
  simp [IntKind.wrap, IntKind.signed, IntKind.bits]
  omega
theorem shr (t : TypeId) (k : IntKind) (c : Bool) (a : Int) (n : Nat) (hn : n ≤ k.bits) : binA P .shr t c (.i k a) (.i .u64 (n : Int)) = some (.i k (a / (2 : Int) ^ n)) := by
  show ofSem (Op.shift .shr k a .u64 (n : Int)) = _
  have h : Op.shift .shr k a .u64 (n : Int) = pure (.int k (a.fdiv (2 ^ n))) := by
    unfold Op.shift
    rw [if_neg (by omega)]
    simp only [Int.toNat_natCast, Nat.min_eq_left hn]
  rw [h, Int.fdiv_eq_ediv_of_nonneg _ (by exact Int.le_of_lt (Int.pow_pos (by omega)))]
  rfl
end Go.Proofs.Ytdoaobkfbjegpaa.Rd

namespace Go.Proofs.Ytdoaobkfbjegpaa.Rd
open Go Go.Proofs.Ytdoaobkfbjegpaa.Ax Go.Proofs.Ytdoaobkfbjegpaa.Wire
set_option maxRecDepth 100000
set_option maxHeartbeats 1000000
theorem be2 (n : Int) : be 2 n = [UInt8.ofNat ((n / 256) % 256).toNat, UInt8.ofNat (n % 256).toNat] := by simp [be]
theorem be4 (n : Int) : be 4 n = [UInt8.ofNat ((n / 16777216) % 256).toNat, UInt8.ofNat ((n / 65536) % 256).toNat, UInt8.ofNat ((n / 256) % 256).toNat, UInt8.ofNat (n % 256).toNat] := by simp [be]
theorem be_mod2 (n : Int) : be 2 (n % 65536) = be 2 n := by
  rw [be2, be2]
  have h1 : n % 65536 / 256 % 256 = n / 256 % 256 := by omega
  have h2 : n % 65536 % 256 = n % 256 := by omega
  rw [h1, h2]
theorem be_mod4 (n : Int) : be 4 (n % 4294967296) = be 4 n := by
  rw [be4, be4]
  have h1 : n % 4294967296 / 16777216 % 256 = n / 16777216 % 256 := by omega
  have h2 : n % 4294967296 / 65536 % 256 = n / 65536 % 256 := by omega
  have h3 : n % 4294967296 / 256 % 256 = n / 256 % 256 := by omega
  have h4 : n % 4294967296 % 256 = n % 256 := by omega
  rw [h1, h2, h3, h4]
theorem shr_8 (t : TypeId) (k : IntKind) (c : Bool) (a : Int) (hk : 8 ≤ k.bits) : binA P .shr t c (.i k a) (.i .u64 8) = some (.i k (a / 256)) := by have := shr t k c a 8 hk; simpa using this
theorem build_1 (H : Heap) (b0 : UInt8) : buildSliceA P H 28 1 [(0, U8 b0)] = some (.sl H.length 0 1, H ++ [.cells 5 .row (u8s [b0])]) := by kernel_rfl
end Go.Proofs.Ytdoaobkfbjegpaa.Rd

namespace Go.Proofs.Ytdoaobkfbjegpaa.Rd
open Go Go.Proofs.Ytdoaobkfbjegpaa.Ax Go.Proofs.Ytdoaobkfbjegpaa.Wire
set_option maxRecDepth 100000
set_option maxHeartbeats 1000000
end Go.Proofs.Ytdoaobkfbjegpaa.Rd

namespace Go.Proofs.Ytdoaobkfbjegpaa.Rd
open Go Go.Proofs.Ytdoaobkfbjegpaa.Ax Go.Proofs.Ytdoaobkfbjegpaa.Wire
set_option maxRecDepth 100000
set_option maxHeartbeats 1000000
end Go.Proofs.Ytdoaobkfbjegpaa.Rd

namespace Go.Proofs.Ytdoaobkfbjegpaa.Rd
open Go Go.Proofs.Ytdoaobkfbjegpaa.Ax Go.Proofs.Ytdoaobkfbjegpaa.Wire
set_option maxRecDepth 100000
set_option maxHeartbeats 1000000
theorem span_short {H : Heap} {rb : Nat} {src : AV} {bad : Bool} {n l : Int} (hH : H[rb]? = some (.cells tR .vr [src, .b bad])) (hlen : lenA P 28 src = some (.i .i64 n)) (hl : n < l ∨ l < 0) :
    CA P NS 68 [.p rb 0, .i .i64 l] H (.s0, RH H rb .s0 true) := by
  have l0 := rd_src hH
  have s1 := st_bad hH
  have s2 : storeA P (RH H rb src true) 28 (.p rb 0) .s0 = some (RH H rb .s0 true) := by rw [st_src (RH_at hH _ _) rfl rfl, RH_RH]
  by_cases hx : n < l
  · have hc : binA P .lss 3 false (.i .i64 n) (.i .i64 l) = some (.b true) := by rw [lss]; simp [hx]
    have hc2 : binA P .lss 3 true (.i .i64 l) (.i .i64 0) = some (.b (decide (l < 0))) := lss _ _ _ _ _
    generalize decide (l < 0) = z at hc2
    refine CA.go (fn := Try.f68) (vs := [_]) (by kernel_rfl) rfl (.inr rfl) ?_
    apply Exists.intro
    apply And.intro
    · dsimp only [Try.f68]
      dsimp only [List.length_cons, List.length_nil, List.cons_append, List.nil_append, Nat.reduceSub, Nat.reduceAdd, List.replicate]
      refine RU.seq RU.rg ?_
      (apply RU.seqx; rotate_left; focus (simp)); refine RU.seq RU.rg ?_; apply RU.condT rfl
      refine RU.seq RU.rg ?_
      refine RU.seq RU.rg ?_
      refine RU.seq RU.rg ?_
      exact RU.ret
    · rfl
  · have hc : binA P .lss 3 false (.i .i64 n) (.i .i64 l) = some (.b false) := by rw [lss]; simp [hx]
    have hc2 : binA P .lss 3 true (.i .i64 l) (.i .i64 0) = some (.b true) := by rw [lss]; simp; omega
    refine CA.go (fn := Try.f68) (vs := [_]) (by kernel_rfl) rfl (.inr rfl) ?_
    apply Exists.intro
    apply And.intro
    · dsimp only [Try.f68]
      dsimp only [List.length_cons, List.length_nil, List.cons_append, List.nil_append, Nat.reduceSub, Nat.reduceAdd, List.replicate]
      refine RU.seq RU.rg ?_
      (apply RU.seqx; rotate_left; focus (simp)); refine RU.seq RU.rg ?_; apply RU.condT rfl
      refine RU.seq RU.rg ?_
      refine RU.seq RU.rg ?_
      refine RU.seq RU.rg ?_
      exact RU.ret
    · rfl
theorem span_ok {H : Heap} {rb : Nat} {src src' av : AV} {bad : Bool} {n l : Int} (hH : H[rb]? = some (.cells tR .vr [src, .b bad])) (hlen : lenA P 28 src = some (.i .i64 n)) (hl : ¬ n < l) (hl0 : ¬ l < 0)
    (hm : sliceMaxA P 28 src (.i .i64 l) (.i .i64 l) = some av) (hs : sliceA P 28 src (some (.i .i64 l)) none = some src') (hs1 : src'.cells = [src']) (hs2 : src'.one = true) :
    CA P NS 68 [.p rb 0, .i .i64 l] H (av, RH H rb src' bad) := by
  have l0 := rd_src hH
  have s1 := st_src hH hs1 hs2
  have hc : binA P .lss 3 false (.i .i64 n) (.i .i64 l) = some (.b false) := by rw [lss]; simp [hl]
  have hc2 : binA P .lss 3 true (.i .i64 l) (.i .i64 0) = some (.b false) := by rw [lss]; simp [hl0]
  refine CA.go (fn := Try.f68) (vs := [_]) (by kernel_rfl) rfl (.inr rfl) ?_
  apply Exists.intro
  apply And.intro
  · dsimp only [Try.f68]
    dsimp only [List.length_cons, List.length_nil, List.cons_append, List.nil_append, Nat.reduceSub, Nat.reduceAdd, List.replicate]
    refine RU.seq RU.rg ?_
    refine RU.seq (RU.seq RU.rg (RU.condF rfl RU.skip)) ?_
    refine RU.seq RU.rg ?_
    refine RU.seq RU.rg ?_
    refine RU.seq RU.rg ?_
    exact RU.ret
  · rfl
theorem rd_span_good {A : Nat → Prop} {H : Heap} {rb : Nat} {nn : Bool} {bs h r : B} {l : Int} (R : Room A H rb) (h0 : RdAt A tR H rb nn (some bs)) (hd : rdS l bs = some (h, r)) :
    ∃ av H', CA P NS 68 [.p rb 0, .i .i64 l] H (av, H') ∧ BytesAt A H' av h ∧ (nn = true → av ≠ .s0) ∧ RdAt A tR H' rb nn (some r) ∧ Keep A H H' := by
  obtain ⟨src, hH, hb, hn⟩ := h0
  obtain ⟨n, rfl, hle, rfl, rfl⟩ := rdS_some hd
  obtain ⟨av, hm, hb1, hn1⟩ := hb.max bty .i64 .i64 hle
  obtain ⟨src', hs, hb2, hn2⟩ := hb.lo bty .i64 hle
  exact ⟨av, _, span_ok hH (hb.len bty) (by omega) (by omega) hm hs (BytesAt.one' hb2).1 (BytesAt.one' hb2).2, hb1.keep (RH_keep R.no _ _), fun x => hn1 (hn x), RdAt.good R.no hH hb2 (fun x => hn2 (.inr (hn x))), RH_keep R.no _ _⟩
theorem rd_span_bad {A : Nat → Prop} {H : Heap} {rb : Nat} {nn : Bool} {st : Option B} {l : Int} (R : Room A H rb) (h0 : RdAt A tR H rb nn st) (hd : st.bind (rdS l) = none) :
    ∃ H', CA P NS 68 [.p rb 0, .i .i64 l] H (.s0, H') ∧ RdAt A tR H' rb true none ∧ Keep A H H' := by
  obtain ⟨src, b, hH, hl, hn⟩ := RdAt.cell h0
  by_cases hx : ((st.getD []).length : Int) < l ∨ l < 0
  · exact ⟨_, span_short hH hl hx, RdAt.bad hH, RH_keep R.no _ _⟩
  · cases st with
    | some bs => exact absurd hd (by simp only [Option.bind_some]; intro h; exact hx (rdS_none h))
    | none =>
      simp at hx
      obtain rfl : l = 0 := by omega
      have hH' : H[rb]? = some (.cells tR .vr [.s0, .b true]) := h0
      refine ⟨_, span_ok hH' (n := 0) (by kernel_rfl) (by omega) (by omega) (av := .s0) (src' := .s0) (by kernel_rfl) (by kernel_rfl) rfl rfl, RdAt.bad hH, RH_keep R.no _ _⟩
theorem rd_ok {A : Nat → Prop} {H : Heap} {rb : Nat} {nn : Bool} {st : Option B} (h0 : RdAt A tR H rb nn st) : CA P NS 15 [.p rb 0] H (.b st.isSome, H) := by
  cases st with
  | none =>
    have hH : H[rb]? = some (.cells tR .vr [.s0, .b true]) := h0
    have l0 := rd_bad hH
    refine CA.go (fn := Try.f15) (vs := [_]) (by kernel_rfl) rfl (.inr rfl) ?_
    apply Exists.intro
    apply And.intro
    · dsimp only [Try.f15]
      dsimp only [List.length_cons, List.length_nil, List.cons_append, List.nil_append, Nat.reduceSub, Nat.reduceAdd, List.replicate]
      refine RU.seq RU.rg ?_
      refine RU.seq RU.rg ?_
      exact RU.ret
    · rfl
  | some bs =>
    obtain ⟨src, hH, _, _⟩ := h0
    have l0 := rd_bad hH
    refine CA.go (fn := Try.f15) (vs := [_]) (by kernel_rfl) rfl (.inr rfl) ?_
    apply Exists.intro
    apply And.intro
    · dsimp only [Try.f15]
      dsimp only [List.length_cons, List.length_nil, List.cons_append, List.nil_append, Nat.reduceSub, Nat.reduceAdd, List.replicate]
      refine RU.seq RU.rg ?_
      refine RU.seq RU.rg ?_
      exact RU.ret
    · rfl
end Go.Proofs.Ytdoaobkfbjegpaa.Rd

