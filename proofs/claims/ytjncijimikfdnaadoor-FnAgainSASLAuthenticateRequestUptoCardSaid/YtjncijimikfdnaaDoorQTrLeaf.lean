import Derived.Test.YtjncijimikfdnaaDoorQTrDef
import Derived.Test.YtjncijimikfdnaaDoorQLwSASLAuthenticateRequest
import Derived.Test.YtjncijimikfdnaaDoorQApUv
/-
  THE REFERENCE's SMALL FUNCTIONS: numbers written, parts of trees.
-/
namespace Go.Proofs.YtjncijimikfdnaaDoor.Rd
set_option linter.constructorNameAsVariable false
set_option linter.unusedVariables false
set_option linter.unusedSimpArgs false
open Go Go.Proofs.YtjncijimikfdnaaDoor.Ax Go.Proofs.YtjncijimikfdnaaDoor.Wire
set_option linter.unusedVariables false
set_option linter.unusedSimpArgs false
set_option maxRecDepth 100000
set_option maxHeartbeats 1000000

theorem uv_le10 {n : Nat} (h : n < 18446744073709551616) : (uv n).length ≤ 10 := by
  rw [uv]; split
  · simp
  · have := uv_le5 (n := n / 128 / 128 / 128 / 128 / 128) (by omega)
    rw [List.length_cons, uv]; split
    · simp
    · rw [List.length_cons, uv]; split
      · simp
      · rw [List.length_cons, uv]; split
        · simp
        · rw [List.length_cons, uv]; split
          · simp
          · rw [List.length_cons]; omega
theorem uv_big {n : Nat} (h : ¬ n < 128) : uv n = UInt8.ofNat (n % 128 + 128) :: uv (n / 128) := by
  conv => lhs; rw [uv]
  rw [dif_neg h]
theorem uv_small {n : Nat} (h : n < 128) : uv n = [UInt8.ofNat n] := by rw [uv, dif_pos h]
theorem uv_pos (n : Nat) : 0 < (uv n).length := by
  rw [uv]; split <;> simp
theorem gtr64 (t : TypeId) (c : Bool) (a b : Int) : binA P .gtr t c (.i .u64 a) (.i .u64 b) = some (.b (decide (a > b))) := by
  simp [binA, binOp, Op.intCmp, ofSem, ofV1]
  rfl
theorem and64 (t : TypeId) (c : Bool) (m : Nat) (h : m < 18446744073709551616) : binA P .and t c (.i .u64 (m : Nat)) (.i .u64 127) = some (.i .u64 ((m % 128 : Nat) : Int)) := by
  show ofSem (Op.intBits .and .u64 (m : Int) 127) = _
  have e : (BitVec.ofInt 64 (m : Int) &&& BitVec.ofInt 64 127).toNat = m % 128 := by
    have h1 : BitVec.ofInt 64 (m : Int) = BitVec.ofNat 64 m := BitVec.ofInt_natCast 64 m
    have h2 : BitVec.ofInt 64 127 = BitVec.ofNat 64 127 := rfl
    rw [h1, h2, BitVec.toNat_and, BitVec.toNat_ofNat, BitVec.toNat_ofNat, Nat.mod_eq_of_lt (by omega), Nat.mod_eq_of_lt (by omega)]
    have := Nat.and_two_pow_sub_one_eq_mod m 7
    simpa using this
  rw [show Op.intBits .and .u64 (m : Int) 127 = pure (.int .u64 (IntKind.u64.wrap ((BitVec.ofInt 64 (m : Int) &&& BitVec.ofInt 64 127).toNat : Int))) from rfl, e]
  have : IntKind.u64.wrap ((m % 128 : Nat) : Int) = ((m % 128 : Nat) : Int) := by simp [IntKind.wrap, IntKind.signed, IntKind.bits]; omega
  rw [this]; rfl
theorem or8_128 (t : TypeId) (c : Bool) (m : Nat) (h : m < 128) : binA P .or t c (.i .u8 (m : Nat)) (.i .u8 128) = some (.i .u8 ((m + 128 : Nat) : Int)) := by
  have ha : ((List.range 128).all fun x => match binA P .or t c (.i .u8 (x : Nat)) (.i .u8 128) with | some (.i .u8 n) => n == ((x + 128 : Nat) : Int) | _ => false) = true := by
    cases c <;> kernel_rfl
  have := List.all_eq_true.1 ha m (List.mem_range.2 h)
  split at this
  · rename_i n hn
    rw [hn]
    have : n = ((m + 128 : Nat) : Int) := by simpa using this
    rw [this]
  · cases this
theorem cv64_8 (n : Int) : convA P 77 5 (.i .u64 n) = some (U8 (UInt8.ofNat (n % 256).toNat)) := by
  have e : convA P 77 5 (.i .u64 n) = some (.i .u8 (IntKind.u8.wrap n)) := by kernel_rfl
  rw [e, U8_wrap]
theorem u8_small {m : Nat} (h : m < 256) : U8 (UInt8.ofNat m) = .i .u8 (m : Nat) := by
  unfold U8
  have : (UInt8.ofNat m).toNat = m := by simp [UInt8.toNat_ofNat']; omega
  rw [this]
theorem shr64_7 (n : Nat) : binA P .shr 77 true (.i .u64 (n : Nat)) (.i .u64 7) = some (.i .u64 ((n / 128 : Nat) : Int)) := by
  have := shr 77 .u64 true (n : Nat) 7 (by simp [IntKind.bits]); simpa using this
/-- An octet behind what was written. -/
theorem push_x {L0 : Nat} {H : Heap} {out : AV} {bs : B} (b : UInt8) (hL : L0 ≤ H.length) (ho : OutAt L0 H out bs) (hb : bs.length + 1 ≤ 1099511627776) :
    ∃ sl H1 out' H', buildSliceA P H 22 1 [(0, U8 b)] = some (sl, H1) ∧ appendA P H1 22 false out sl = some (out', H') ∧ sl.isS = false ∧ OutAt L0 H' out' (bs ++ [b]) ∧ WKeep L0 H H' := by
  have hbl := build_1 H b
  have hfi := first_new H 5 [b] (by simp)
  obtain ⟨out', H', ha, h1, h2⟩ := ap_bytes (str := false) (x := .sl H.length 0 1) (new := [b]) (by simp; omega) (ho.app [.cells 5 .row (u8s [b])]) hfi (by simpa using hb)
  exact ⟨_, _, out', H', hbl, ha, rfl, h1, (WKeep.app L0 H _ hL).trans h2⟩
theorem OutAt.cells {L0 : Nat} {H : Heap} {out : AV} {bs : B} (h : OutAt L0 H out bs) : out.isS = false := by
  rcases h with ⟨rfl, _⟩ | ⟨i, _, rfl, _⟩ <;> rfl
theorem OutAt.wk {L0 : Nat} {H H' : Heap} {out : AV} {bs : B} (h : OutAt L0 H out bs) (k : Kp H H') : OutAt L0 H' out bs := by
  rcases h with h | ⟨i, h1, h2, h3, h4⟩
  · exact .inl h
  · exact .inr ⟨i, h1, h2, k.at_ h3, h4⟩
theorem OutAt.mono {L0 L1 : Nat} {H : Heap} {out : AV} {bs : B} (h : OutAt L0 H out bs) (hl : L1 ≤ L0) : OutAt L1 H out bs := by
  rcases h with h | ⟨i, h1, h2⟩
  · exact .inl h
  · exact .inr ⟨i, by omega, h2⟩
theorem Kp.wt {H H1 H2 : Heap} (h : Kp H H1) (k : WKeep H.length H1 H2) : Kp H H2 := ⟨Nat.le_trans h.1 k.len, fun i hi => by rw [k.at_ i (by omega), h.2 i hi]⟩

/-- A number in groups of seven bits. -/
theorem uvs_x {n : Nat} (hn : n < 18446744073709551616) (H : Heap) : ∃ out H', CA P NS 61 [.i .u64 (n : Nat)] H (out, H') ∧ OutAt H.length H' out (uv n) ∧ Kp H H' := by
  refine CA.wp (fn := Tryd.f61) (R := fun out H' => OutAt H.length H' out (uv n) ∧ Kp H H') (by kernel_rfl) rfl ?_
  dsimp only [Tryd.f61]
  dsimp only [List.length_cons, List.length_nil, List.cons_append, List.nil_append, Nat.reduceSub, Nat.reduceAdd, List.replicate]
  ((repeat with_reducible refine WP.seqs ?_); refine WP.rg ?_)
  ((repeat with_reducible refine WP.seqs ?_); refine WP.rg ?_)
  ((repeat with_reducible refine WP.seqs ?_); first | refine WP.seq (WP.block ?_) | refine WP.block ?_)
  refine WP.loop (Inv := fun j fr H1 => ∃ (x1 x2 x4 x5 x6 x7 x8 x9 x10 x11 x12 x13 x14 x15 x16 x17 x18 x19 : AV), ∃ (out : AV) (m : Nat) (acc : B), fr = [.i .u64 (m : Nat), x1, x2, out, x4, x5, x6, x7, x8, x9, x10, x11, x12, x13, x14, x15, x16, x17, x18, x19] ∧ m < 18446744073709551616 ∧ acc ++ uv m = uv n ∧ acc.length = j ∧ OutAt H.length H1 out acc ∧ Kp H H1) (uv n).length ?_ (uv n).length 0 _ _ (by omega) ?_
  rotate_left
  · exact ⟨_, _, _, _, _, _, _, _, _, _, _, _, _, _, _, _, _, _, _, n, [], rfl, hn, rfl, rfl, .inl ⟨rfl, rfl⟩, Kp.refl H⟩
  intro j fr H1 hj ⟨x1, x2, x4, x5, x6, x7, x8, x9, x10, x11, x12, x13, x14, x15, x16, x17, x18, x19, out, m, acc, hfr, hm, hacc, hlen, ho, hk⟩
  subst hfr
  have h10 := uv_le10 hn
  have hal : acc.length + (uv m).length = (uv n).length := by rw [← hacc, List.length_append]
  by_cases hlt : m < 128
  · have hg : binA P .gtr 77 true (.i .u64 (m : Nat)) (.i .u64 127) = some (.b false) := by rw [gtr64]; simp; omega
    obtain ⟨sl, H2, out', H3, hb, ha, hs, ho', hk'⟩ := push_x (UInt8.ofNat m) hk.1 ho (by omega)
    have hcv : convA P 77 5 (.i .u64 (m : Nat)) = some (U8 (UInt8.ofNat m)) := by
      rw [cv64_8]; congr 3; omega
    generalize U8 (UInt8.ofNat m) = y at hb hcv
    rw [uv_small hlt] at hacc
    rw [hacc] at ho'
    generalize ((m : Nat) : Int) = mi at hg hcv
    ((repeat with_reducible refine WP.seqs ?_); refine WP.rg ?_)
    ((repeat with_reducible refine WP.seqs ?_); first | refine WP.seq (WP.condF rfl ?_) | refine WP.condF rfl ?_)
    refine WP.exit ?_; repeat (first | with_reducible refine Sq.n ?_ | with_reducible refine Sq.ret ?_ | with_reducible refine Sq.exit ?_ | with_reducible refine Bk.n ?_ | with_reducible refine Bk.ret ?_ | with_reducible refine Bk.exit ?_ | with_reducible refine Bk.ex' (by decide) ?_ | with_reducible refine Lp.ret ?_ | with_reducible refine Lp.exit ?_ | with_reducible refine Lx.exit ?_)
    ((repeat with_reducible refine WP.seqs ?_); refine WP.rg ?_)
    refine WP.ret ?_; repeat (first | with_reducible refine Sq.n ?_ | with_reducible refine Sq.ret ?_ | with_reducible refine Sq.exit ?_ | with_reducible refine Bk.n ?_ | with_reducible refine Bk.ret ?_ | with_reducible refine Bk.exit ?_ | with_reducible refine Bk.ex' (by decide) ?_ | with_reducible refine Lp.ret ?_ | with_reducible refine Lp.exit ?_ | with_reducible refine Lx.exit ?_)
    exact Fe.ret rfl ⟨ho', hk.wt hk'⟩
  · have hg : binA P .gtr 77 true (.i .u64 (m : Nat)) (.i .u64 127) = some (.b true) := by rw [gtr64]; simp; omega
    have ha1 := and64 77 true m hm
    have hcv : convA P 77 5 (.i .u64 ((m % 128 : Nat) : Int)) = some (.i .u8 ((m % 128 : Nat) : Int)) := by
      rw [cv64_8, ← u8_small (show m % 128 < 256 by omega)]; congr 3; omega
    have hor := or8_128 5 true (m % 128) (by omega)
    rw [← u8_small (show m % 128 + 128 < 256 by omega)] at hor
    have hsh := shr64_7 m
    obtain ⟨sl, H2, out', H3, hb, ha, hs, ho', hk'⟩ := push_x (UInt8.ofNat (m % 128 + 128)) hk.1 ho (by omega)
    generalize U8 (UInt8.ofNat (m % 128 + 128)) = y at hb hor
    rw [uv_big hlt] at hacc hal
    have hp := uv_pos (m / 128)
    have h128 : m / 128 < 18446744073709551616 := by omega
    simp only [List.length_cons] at hal
    have hacc' : (acc ++ [UInt8.ofNat (m % 128 + 128)]) ++ uv (m / 128) = uv n := by rw [← hacc]; simp
    generalize hm1 : m / 128 = m1 at hsh hacc' h128 hal hp
    generalize ((m : Nat) : Int) = mi at hg ha1 hsh
    generalize ((m % 128 : Nat) : Int) = m2 at ha1 hcv hor
    ((repeat with_reducible refine WP.seqs ?_); refine WP.rg ?_)
    ((repeat with_reducible refine WP.seqs ?_); first | refine WP.seq (WP.condT rfl ?_) | refine WP.condT rfl ?_)
    refine WP.skip ?_; repeat (first | with_reducible refine Sq.n ?_ | with_reducible refine Sq.ret ?_ | with_reducible refine Sq.exit ?_ | with_reducible refine Bk.n ?_ | with_reducible refine Bk.ret ?_ | with_reducible refine Bk.exit ?_ | with_reducible refine Bk.ex' (by decide) ?_ | with_reducible refine Lp.ret ?_ | with_reducible refine Lp.exit ?_ | with_reducible refine Lx.exit ?_)
    ((repeat with_reducible refine WP.seqs ?_); first | refine WP.seq (WP.block ?_) | refine WP.block ?_)
    ((repeat with_reducible refine WP.seqs ?_); refine WP.rg ?_)
    refine WP.re ?_; repeat (first | with_reducible refine Sq.n ?_ | with_reducible refine Sq.ret ?_ | with_reducible refine Sq.exit ?_ | with_reducible refine Bk.n ?_ | with_reducible refine Bk.ret ?_ | with_reducible refine Bk.exit ?_ | with_reducible refine Bk.ex' (by decide) ?_ | with_reducible refine Lp.ret ?_ | with_reducible refine Lp.exit ?_ | with_reducible refine Lx.exit ?_)
    refine Lp.n ⟨by omega, _, _, _, _, _, _, _, _, _, _, _, _, _, _, _, _, _, _, _, m1, _, rfl, h128, hacc', by simp [hlen], ho', hk.wt hk'⟩
end Go.Proofs.YtjncijimikfdnaaDoor.Rd

/-
  THE REFERENCE's SMALL FUNCTIONS, more: fixed numbers, counts, parts of trees, what fields say of versions.
-/
namespace Go.Proofs.YtjncijimikfdnaaDoor.Rd
set_option linter.constructorNameAsVariable false
set_option linter.unusedVariables false
set_option linter.unusedSimpArgs false
open Go Go.Proofs.YtjncijimikfdnaaDoor.Ax Go.Proofs.YtjncijimikfdnaaDoor.Wire
set_option linter.unusedVariables false
set_option linter.unusedSimpArgs false
set_option maxRecDepth 100000
set_option maxHeartbeats 1000000
theorem geqI (t : TypeId) (c : Bool) (a b : Int) : binA P .geq t c (.i .i64 a) (.i .i64 b) = some (.b (decide (a ≥ b))) := geq t .i64 c a b
theorem eqlI (t : TypeId) (c : Bool) (a b : Int) : binA P .eql t c (.i .i64 a) (.i .i64 b) = some (.b (decide (a = b))) := by
  have e : binA P .eql t c (.i .i64 a) (.i .i64 b) = some (.b (a == b)) := by
    simp [binA, binOp, Op.intCmp, ofSem, ofV1]
    rfl
  rw [e]; congr 2
theorem lssI (t : TypeId) (c : Bool) (a b : Int) : binA P .lss t c (.i .i64 a) (.i .i64 b) = some (.b (decide (a < b))) := by
  simp [binA, binOp, Op.intCmp, ofSem, ofV1]
  rfl
theorem leqI (t : TypeId) (c : Bool) (a b : Int) : binA P .leq t c (.i .i64 a) (.i .i64 b) = some (.b (decide (a ≤ b))) := by
  simp [binA, binOp, Op.intCmp, ofSem, ofV1]
  rfl
theorem gtrJ (t : TypeId) (c : Bool) (a b : Int) : binA P .gtr t c (.i .i64 a) (.i .i64 b) = some (.b (decide (a > b))) := by
  simp [binA, binOp, Op.intCmp, ofSem, ofV1]
  rfl
theorem lssU (t : TypeId) (c : Bool) (a b : Int) : binA P .lss t c (.i .u32 a) (.i .u32 b) = some (.b (decide (a < b))) := by
  simp [binA, binOp, Op.intCmp, ofSem, ofV1]
  rfl
theorem eqlU (t : TypeId) (c : Bool) (a b : Int) : binA P .eql t c (.i .u32 a) (.i .u32 b) = some (.b (decide (a = b))) := by
  have e : binA P .eql t c (.i .u32 a) (.i .u32 b) = some (.b (a == b)) := by
    simp [binA, binOp, Op.intCmp, ofSem, ofV1]
    rfl
  rw [e]; congr 2
theorem addJ (t : TypeId) (c : Bool) (a b : Int) (h : -9223372036854775808 ≤ a + b ∧ a + b ≤ 9223372036854775807) : binA P .add t c (.i .i64 a) (.i .i64 b) = some (.i .i64 (a + b)) := by
  have e : binA P .add t c (.i .i64 a) (.i .i64 b) = some (.i .i64 (IntKind.i64.wrap (a + b))) := by
    simp [binA, binOp, Op.intArith, ofSem, ofV1]
    rfl
  rw [e]; congr 2; simp [IntKind.wrap, IntKind.signed, IntKind.bits]; omega
theorem subJ (t : TypeId) (c : Bool) (a b : Int) (h : -9223372036854775808 ≤ a - b ∧ a - b ≤ 9223372036854775807) : binA P .sub t c (.i .i64 a) (.i .i64 b) = some (.i .i64 (a - b)) := by
  have e : binA P .sub t c (.i .i64 a) (.i .i64 b) = some (.i .i64 (IntKind.i64.wrap (a - b))) := by
    simp [binA, binOp, Op.intArith, ofSem, ofV1]
    rfl
  rw [e]; congr 2; simp [IntKind.wrap, IntKind.signed, IntKind.bits]; omega
theorem mulJ (t : TypeId) (c : Bool) (a b : Int) (h : -9223372036854775808 ≤ a * b ∧ a * b ≤ 9223372036854775807) : binA P .mul t c (.i .i64 a) (.i .i64 b) = some (.i .i64 (a * b)) := by
  have e : binA P .mul t c (.i .i64 a) (.i .i64 b) = some (.i .i64 (IntKind.i64.wrap (a * b))) := by
    simp [binA, binOp, Op.intArith, ofSem, ofV1]
    rfl
  rw [e]; congr 2; simp [IntKind.wrap, IntKind.signed, IntKind.bits]; omega
theorem shrJ (t : TypeId) (c : Bool) (a : Int) (n : Nat) (hn : n ≤ 64) : binA P .shr t c (.i .i64 a) (.i .i64 (n : Int)) = some (.i .i64 (a / (2 : Int) ^ n)) := by
  show ofSem (Op.shift .shr .i64 a .i64 (n : Int)) = _
  have h : Op.shift .shr .i64 a .i64 (n : Int) = pure (.int .i64 (a.fdiv (2 ^ n))) := by
    unfold Op.shift
    rw [if_neg (by omega)]
    simp only [Int.toNat_natCast, Nat.min_eq_left (show n ≤ IntKind.i64.bits from hn)]
  rw [h, Int.fdiv_eq_ediv_of_nonneg _ (by exact Int.le_of_lt (Int.pow_pos (by omega)))]
  rfl
theorem cvi64_8 (n : Int) : convA P 2 5 (.i .i64 n) = some (U8 (UInt8.ofNat (n % 256).toNat)) := by
  have e : convA P 2 5 (.i .i64 n) = some (.i .u8 (IntKind.u8.wrap n)) := by kernel_rfl
  rw [e, U8_wrap]
/-- A number in so many octets. -/
theorem fix_x {n : Int} {size : Nat} (hs : size ≤ 8) (H : Heap) : ∃ out H', CA P NS 86 [.i .i64 n, .i .i64 (size : Nat)] H (out, H') ∧ OutAt H.length H' out (be size n) ∧ Kp H H' := by
  have h0 := subJ 3 true (size : Nat) 1 (by omega)
  refine CA.wp (fn := Tryd.f86) (R := fun out H' => OutAt H.length H' out (be size n) ∧ Kp H H') (by kernel_rfl) rfl ?_
  dsimp only [Tryd.f86]
  dsimp only [List.length_cons, List.length_nil, List.cons_append, List.nil_append, Nat.reduceSub, Nat.reduceAdd, List.replicate]
  ((repeat with_reducible refine WP.seqs ?_); refine WP.rg ?_)
  ((repeat with_reducible refine WP.seqs ?_); refine WP.rg ?_)
  ((repeat with_reducible refine WP.seqs ?_); refine WP.rg ?_)
  ((repeat with_reducible refine WP.seqs ?_); first | refine WP.seq (WP.block ?_) | refine WP.block ?_)
  refine WP.loop (Inv := fun j fr H1 => ∃ (x2 x3 x4 x7 x8 x9 x10 x11 x12 x13 x14 x15 x16 x17 x18 x19 x20 x21 : AV), ∃ (out : AV) (m : Nat) (acc : B), fr = [.i .i64 n, .i .i64 (size : Nat), x2, x3, x4, out, .i .i64 ((m : Int) - 1), x7, x8, x9, x10, x11, x12, x13, x14, x15, x16, x17, x18, x19, x20, x21] ∧ m + j = size ∧ acc ++ be m n = be size n ∧ acc.length = j ∧ OutAt H.length H1 out acc ∧ Kp H H1) size ?_ size 0 _ _ (by omega) ?_
  rotate_left
  · exact ⟨_, _, _, _, _, _, _, _, _, _, _, _, _, _, _, _, _, _, _, size, [], rfl, rfl, rfl, rfl, .inl ⟨rfl, rfl⟩, Kp.refl H⟩
  clear h0
  intro j fr H1 hj ⟨x2, x3, x4, x7, x8, x9, x10, x11, x12, x13, x14, x15, x16, x17, x18, x19, x20, x21, out, m, acc, hfr, hm, hacc, hlen, ho, hk⟩
  subst hfr
  cases m with
  | zero =>
    have hg : binA P .geq 3 true (.i .i64 (((0 : Nat) : Int) - 1)) (.i .i64 0) = some (.b false) := by rw [geqI]; rfl
    have hacc : acc = be size n := by simpa [be] using hacc
    subst hacc
    generalize (((0 : Nat) : Int) - 1) = mi at hg
    ((repeat with_reducible refine WP.seqs ?_); refine WP.rg ?_)
    ((repeat with_reducible refine WP.seqs ?_); first | refine WP.seq (WP.condF rfl ?_) | refine WP.condF rfl ?_)
    refine WP.exit ?_; repeat (first | with_reducible refine Sq.n ?_ | with_reducible refine Sq.ret ?_ | with_reducible refine Sq.exit ?_ | with_reducible refine Bk.n ?_ | with_reducible refine Bk.ret ?_ | with_reducible refine Bk.exit ?_ | with_reducible refine Bk.ex' (by decide) ?_ | with_reducible refine Lp.ret ?_ | with_reducible refine Lp.exit ?_ | with_reducible refine Lx.exit ?_)
    ((repeat with_reducible refine WP.seqs ?_); refine WP.rg ?_)
    refine WP.ret ?_; repeat (first | with_reducible refine Sq.n ?_ | with_reducible refine Sq.ret ?_ | with_reducible refine Sq.exit ?_ | with_reducible refine Bk.n ?_ | with_reducible refine Bk.ret ?_ | with_reducible refine Bk.exit ?_ | with_reducible refine Bk.ex' (by decide) ?_ | with_reducible refine Lp.ret ?_ | with_reducible refine Lp.exit ?_ | with_reducible refine Lx.exit ?_)
    exact Fe.ret rfl ⟨ho, hk⟩
  | succ m =>
    have em : (((m + 1 : Nat) : Int) - 1) = ((m : Nat) : Int) := by omega
    have hg : binA P .geq 3 true (.i .i64 ((m : Nat) : Int)) (.i .i64 0) = some (.b true) := by rw [geqI]; simp
    have hml := mulJ 3 true 8 (m : Nat) (by omega)
    rw [show (8 : Int) * ((m : Nat) : Int) = ((8 * m : Nat) : Int) by simp] at hml
    have hsh := shrJ 2 false n (8 * m) (by omega)
    have hcv := cvi64_8 (n / (2 : Int) ^ (8 * m))
    have e8 : (2 : Int) ^ (8 * m) = 256 ^ m := by rw [Int.pow_mul]; rfl
    obtain ⟨sl, H2, out', H3, hb, ha, hs', ho', hk'⟩ := push_x (UInt8.ofNat ((n / (2 : Int) ^ (8 * m)) % 256).toNat) hk.1 ho (by omega)
    have hacc' : (acc ++ [UInt8.ofNat ((n / (2 : Int) ^ (8 * m)) % 256).toNat]) ++ be m n = be size n := by rw [← hacc, e8]; simp [be]
    have hsb := subJ 3 true (m : Nat) 1 (by omega)
    generalize UInt8.ofNat ((n / (2 : Int) ^ (8 * m)) % 256).toNat = y0 at hb hcv ho' hacc'
    generalize n / (2 : Int) ^ (8 * m) = ns at hsh hcv
    generalize U8 y0 = y at hb hcv
    rw [em]
    generalize ((8 * m : Nat) : Int) = m8 at hml hsh
    generalize hmi : ((m : Nat) : Int) = mi at hg hml hsb
    ((repeat with_reducible refine WP.seqs ?_); refine WP.rg ?_)
    ((repeat with_reducible refine WP.seqs ?_); first | refine WP.seq (WP.condT rfl ?_) | refine WP.condT rfl ?_)
    refine WP.skip ?_; repeat (first | with_reducible refine Sq.n ?_ | with_reducible refine Sq.ret ?_ | with_reducible refine Sq.exit ?_ | with_reducible refine Bk.n ?_ | with_reducible refine Bk.ret ?_ | with_reducible refine Bk.exit ?_ | with_reducible refine Bk.ex' (by decide) ?_ | with_reducible refine Lp.ret ?_ | with_reducible refine Lp.exit ?_ | with_reducible refine Lx.exit ?_)
    ((repeat with_reducible refine WP.seqs ?_); first | refine WP.seq (WP.block ?_) | refine WP.block ?_)
    refine WP.re ?_; repeat (first | with_reducible refine Sq.n ?_ | with_reducible refine Sq.ret ?_ | with_reducible refine Sq.exit ?_ | with_reducible refine Bk.n ?_ | with_reducible refine Bk.ret ?_ | with_reducible refine Bk.exit ?_ | with_reducible refine Bk.ex' (by decide) ?_ | with_reducible refine Lp.ret ?_ | with_reducible refine Lp.exit ?_ | with_reducible refine Lx.exit ?_)
    refine WP.re ?_; repeat (first | with_reducible refine Sq.n ?_ | with_reducible refine Sq.ret ?_ | with_reducible refine Sq.exit ?_ | with_reducible refine Bk.n ?_ | with_reducible refine Bk.ret ?_ | with_reducible refine Bk.exit ?_ | with_reducible refine Bk.ex' (by decide) ?_ | with_reducible refine Lp.ret ?_ | with_reducible refine Lp.exit ?_ | with_reducible refine Lx.exit ?_)
    refine Lp.n ⟨by omega, _, _, _, _, _, _, _, _, _, _, _, _, _, _, _, _, _, _, _, m, _, by rw [hmi], by omega, hacc', by simp [hlen], ho', hk.wt hk'⟩

/-- How many octets a number of a kind has. -/
theorem width_x {kind : Nat} (H : Heap) : CA P NS 87 [.i .i64 (kind : Nat)] H (.i .i64 ((if kind = 1 then 1 else if kind = 2 ∨ kind = 5 then 2 else if kind = 3 then 4 else 8 : Nat) : Int), H) := by
  have e1 := eqlI 3 true (kind : Nat) 1
  have e2 := eqlI 3 true (kind : Nat) 2
  have e5 := eqlI 3 true (kind : Nat) 5
  have e3 := eqlI 3 true (kind : Nat) 3
  have key : ∃ v H', CA P NS 87 [.i .i64 (kind : Nat)] H (v, H') ∧ (v = .i .i64 ((if kind = 1 then 1 else if kind = 2 ∨ kind = 5 then 2 else if kind = 3 then 4 else 8 : Nat) : Int) ∧ H' = H) := by
    refine CA.wp (fn := Tryd.f87) (R := fun v H' => v = .i .i64 ((if kind = 1 then 1 else if kind = 2 ∨ kind = 5 then 2 else if kind = 3 then 4 else 8 : Nat) : Int) ∧ H' = H) (by kernel_rfl) rfl ?_
    dsimp only [Tryd.f87]
    dsimp only [List.length_cons, List.length_nil, List.cons_append, List.nil_append, Nat.reduceSub, Nat.reduceAdd, List.replicate]
    ((repeat with_reducible refine WP.seqs ?_); refine WP.rg ?_)
    ((repeat with_reducible refine WP.seqs ?_); refine WP.rg ?_)
    ((repeat with_reducible refine WP.seqs ?_); first | refine WP.seq (WP.block ?_) | refine WP.block ?_)
    by_cases h1 : kind = 1
    · have e1 : binA P .eql 3 true (.i .i64 (kind : Nat)) (.i .i64 1) = some (.b true) := by rw [e1]; simp; omega
      simp only [if_pos h1]
      generalize ((kind : Nat) : Int) = kk at e1
      ((repeat with_reducible refine WP.seqs ?_); refine WP.rg ?_)
      ((repeat with_reducible refine WP.seqs ?_); first | refine WP.seq (WP.condT rfl ?_) | refine WP.condT rfl ?_)
      ((repeat with_reducible refine WP.seqs ?_); refine WP.rg ?_)
      refine WP.ret ?_; repeat (first | with_reducible refine Sq.n ?_ | with_reducible refine Sq.ret ?_ | with_reducible refine Sq.exit ?_ | with_reducible refine Bk.n ?_ | with_reducible refine Bk.ret ?_ | with_reducible refine Bk.exit ?_ | with_reducible refine Bk.ex' (by decide) ?_ | with_reducible refine Lp.ret ?_ | with_reducible refine Lp.exit ?_ | with_reducible refine Lx.exit ?_)
      exact Fe.ret rfl ⟨rfl, rfl⟩
    have e1 : binA P .eql 3 true (.i .i64 (kind : Nat)) (.i .i64 1) = some (.b false) := by rw [e1]; simp; omega
    simp only [if_neg h1]
    by_cases h2 : kind = 2
    · have e2 : binA P .eql 3 true (.i .i64 (kind : Nat)) (.i .i64 2) = some (.b true) := by rw [e2]; simp; omega
      simp only [if_pos (Or.inl h2 : kind = 2 ∨ kind = 5)]
      generalize ((kind : Nat) : Int) = kk at e1 e2
      ((repeat with_reducible refine WP.seqs ?_); refine WP.rg ?_)
      ((repeat with_reducible refine WP.seqs ?_); first | refine WP.seq (WP.condF rfl ?_) | refine WP.condF rfl ?_)
      ((repeat with_reducible refine WP.seqs ?_); refine WP.rg ?_)
      ((repeat with_reducible refine WP.seqs ?_); first | refine WP.seq (WP.condT rfl ?_) | refine WP.condT rfl ?_)
      refine WP.skip ?_; repeat (first | with_reducible refine Sq.n ?_ | with_reducible refine Sq.ret ?_ | with_reducible refine Sq.exit ?_ | with_reducible refine Bk.n ?_ | with_reducible refine Bk.ret ?_ | with_reducible refine Bk.exit ?_ | with_reducible refine Bk.ex' (by decide) ?_ | with_reducible refine Lp.ret ?_ | with_reducible refine Lp.exit ?_ | with_reducible refine Lx.exit ?_)
      ((repeat with_reducible refine WP.seqs ?_); first | refine WP.seq (WP.condT rfl ?_) | refine WP.condT rfl ?_)
      ((repeat with_reducible refine WP.seqs ?_); refine WP.rg ?_)
      refine WP.ret ?_; repeat (first | with_reducible refine Sq.n ?_ | with_reducible refine Sq.ret ?_ | with_reducible refine Sq.exit ?_ | with_reducible refine Bk.n ?_ | with_reducible refine Bk.ret ?_ | with_reducible refine Bk.exit ?_ | with_reducible refine Bk.ex' (by decide) ?_ | with_reducible refine Lp.ret ?_ | with_reducible refine Lp.exit ?_ | with_reducible refine Lx.exit ?_)
      exact Fe.ret rfl ⟨rfl, rfl⟩
    have e2 : binA P .eql 3 true (.i .i64 (kind : Nat)) (.i .i64 2) = some (.b false) := by rw [e2]; simp; omega
    by_cases h5 : kind = 5
    · have e5 : binA P .eql 3 true (.i .i64 (kind : Nat)) (.i .i64 5) = some (.b true) := by rw [e5]; simp; omega
      simp only [if_pos (Or.inr h5 : kind = 2 ∨ kind = 5)]
      generalize ((kind : Nat) : Int) = kk at e1 e2 e5
      ((repeat with_reducible refine WP.seqs ?_); refine WP.rg ?_)
      ((repeat with_reducible refine WP.seqs ?_); first | refine WP.seq (WP.condF rfl ?_) | refine WP.condF rfl ?_)
      ((repeat with_reducible refine WP.seqs ?_); refine WP.rg ?_)
      ((repeat with_reducible refine WP.seqs ?_); first | refine WP.seq (WP.condF rfl ?_) | refine WP.condF rfl ?_)
      refine WP.re ?_; repeat (first | with_reducible refine Sq.n ?_ | with_reducible refine Sq.ret ?_ | with_reducible refine Sq.exit ?_ | with_reducible refine Bk.n ?_ | with_reducible refine Bk.ret ?_ | with_reducible refine Bk.exit ?_ | with_reducible refine Bk.ex' (by decide) ?_ | with_reducible refine Lp.ret ?_ | with_reducible refine Lp.exit ?_ | with_reducible refine Lx.exit ?_)
      ((repeat with_reducible refine WP.seqs ?_); first | refine WP.seq (WP.condT rfl ?_) | refine WP.condT rfl ?_)
      ((repeat with_reducible refine WP.seqs ?_); refine WP.rg ?_)
      refine WP.ret ?_; repeat (first | with_reducible refine Sq.n ?_ | with_reducible refine Sq.ret ?_ | with_reducible refine Sq.exit ?_ | with_reducible refine Bk.n ?_ | with_reducible refine Bk.ret ?_ | with_reducible refine Bk.exit ?_ | with_reducible refine Bk.ex' (by decide) ?_ | with_reducible refine Lp.ret ?_ | with_reducible refine Lp.exit ?_ | with_reducible refine Lx.exit ?_)
      exact Fe.ret rfl ⟨rfl, rfl⟩
    have e5 : binA P .eql 3 true (.i .i64 (kind : Nat)) (.i .i64 5) = some (.b false) := by rw [e5]; simp; omega
    simp only [if_neg (show ¬(kind = 2 ∨ kind = 5) by omega)]
    by_cases h3 : kind = 3
    · have e3 : binA P .eql 3 true (.i .i64 (kind : Nat)) (.i .i64 3) = some (.b true) := by rw [e3]; simp; omega
      simp only [if_pos h3]
      generalize ((kind : Nat) : Int) = kk at e1 e2 e5 e3
      ((repeat with_reducible refine WP.seqs ?_); refine WP.rg ?_)
      ((repeat with_reducible refine WP.seqs ?_); first | refine WP.seq (WP.condF rfl ?_) | refine WP.condF rfl ?_)
      ((repeat with_reducible refine WP.seqs ?_); refine WP.rg ?_)
      ((repeat with_reducible refine WP.seqs ?_); first | refine WP.seq (WP.condF rfl ?_) | refine WP.condF rfl ?_)
      refine WP.re ?_; repeat (first | with_reducible refine Sq.n ?_ | with_reducible refine Sq.ret ?_ | with_reducible refine Sq.exit ?_ | with_reducible refine Bk.n ?_ | with_reducible refine Bk.ret ?_ | with_reducible refine Bk.exit ?_ | with_reducible refine Bk.ex' (by decide) ?_ | with_reducible refine Lp.ret ?_ | with_reducible refine Lp.exit ?_ | with_reducible refine Lx.exit ?_)
      ((repeat with_reducible refine WP.seqs ?_); first | refine WP.seq (WP.condF rfl ?_) | refine WP.condF rfl ?_)
      ((repeat with_reducible refine WP.seqs ?_); refine WP.rg ?_)
      ((repeat with_reducible refine WP.seqs ?_); first | refine WP.seq (WP.condT rfl ?_) | refine WP.condT rfl ?_)
      ((repeat with_reducible refine WP.seqs ?_); refine WP.rg ?_)
      refine WP.ret ?_; repeat (first | with_reducible refine Sq.n ?_ | with_reducible refine Sq.ret ?_ | with_reducible refine Sq.exit ?_ | with_reducible refine Bk.n ?_ | with_reducible refine Bk.ret ?_ | with_reducible refine Bk.exit ?_ | with_reducible refine Bk.ex' (by decide) ?_ | with_reducible refine Lp.ret ?_ | with_reducible refine Lp.exit ?_ | with_reducible refine Lx.exit ?_)
      exact Fe.ret rfl ⟨rfl, rfl⟩
    have e3 : binA P .eql 3 true (.i .i64 (kind : Nat)) (.i .i64 3) = some (.b false) := by rw [e3]; simp; omega
    simp only [if_neg h3]
    generalize ((kind : Nat) : Int) = kk at e1 e2 e5 e3
    ((repeat with_reducible refine WP.seqs ?_); refine WP.rg ?_)
    ((repeat with_reducible refine WP.seqs ?_); first | refine WP.seq (WP.condF rfl ?_) | refine WP.condF rfl ?_)
    ((repeat with_reducible refine WP.seqs ?_); refine WP.rg ?_)
    ((repeat with_reducible refine WP.seqs ?_); first | refine WP.seq (WP.condF rfl ?_) | refine WP.condF rfl ?_)
    refine WP.re ?_; repeat (first | with_reducible refine Sq.n ?_ | with_reducible refine Sq.ret ?_ | with_reducible refine Sq.exit ?_ | with_reducible refine Bk.n ?_ | with_reducible refine Bk.ret ?_ | with_reducible refine Bk.exit ?_ | with_reducible refine Bk.ex' (by decide) ?_ | with_reducible refine Lp.ret ?_ | with_reducible refine Lp.exit ?_ | with_reducible refine Lx.exit ?_)
    ((repeat with_reducible refine WP.seqs ?_); first | refine WP.seq (WP.condF rfl ?_) | refine WP.condF rfl ?_)
    ((repeat with_reducible refine WP.seqs ?_); refine WP.rg ?_)
    ((repeat with_reducible refine WP.seqs ?_); first | refine WP.seq (WP.condF rfl ?_) | refine WP.condF rfl ?_)
    refine WP.skip ?_; repeat (first | with_reducible refine Sq.n ?_ | with_reducible refine Sq.ret ?_ | with_reducible refine Sq.exit ?_ | with_reducible refine Bk.n ?_ | with_reducible refine Bk.ret ?_ | with_reducible refine Bk.exit ?_ | with_reducible refine Bk.ex' (by decide) ?_ | with_reducible refine Lp.ret ?_ | with_reducible refine Lp.exit ?_ | with_reducible refine Lx.exit ?_)
    ((repeat with_reducible refine WP.seqs ?_); refine WP.rg ?_)
    refine WP.ret ?_; repeat (first | with_reducible refine Sq.n ?_ | with_reducible refine Sq.ret ?_ | with_reducible refine Sq.exit ?_ | with_reducible refine Bk.n ?_ | with_reducible refine Bk.ret ?_ | with_reducible refine Bk.exit ?_ | with_reducible refine Bk.ex' (by decide) ?_ | with_reducible refine Lp.ret ?_ | with_reducible refine Lp.exit ?_ | with_reducible refine Lx.exit ?_)
    exact Fe.ret rfl ⟨rfl, rfl⟩
  obtain ⟨v, H', h, rfl, rfl⟩ := key
  exact h
end Go.Proofs.YtjncijimikfdnaaDoor.Rd

