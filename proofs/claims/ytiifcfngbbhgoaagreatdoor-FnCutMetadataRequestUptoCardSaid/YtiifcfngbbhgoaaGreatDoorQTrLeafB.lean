/-
  THE REFERENCE's SMALL FUNCTIONS, more: fixed numbers, counts, parts of trees, what fields say of versions.
-/
import Derived.Test.YtiifcfngbbhgoaaGreatDoorQTrKit
set_option linter.constructorNameAsVariable false
set_option linter.unusedVariables false
set_option linter.unusedSimpArgs false
namespace Go.Proofs.YtiifcfngbbhgoaaGreatDoor.Rd
open Go Go.Proofs.YtiifcfngbbhgoaaGreatDoor.Ax Go.Proofs.YtiifcfngbbhgoaaGreatDoor.Wire
set_option maxRecDepth 100000
set_option maxHeartbeats 1000000
theorem geqI (t : TypeId) (c : Bool) (a b : Int) : binA P .geq t c (.i .i64 a) (.i .i64 b) = some (.b (decide (a ≥ b))) := geq t .i64 c a b
theorem eqlI (t : TypeId) (c : Bool) (a b : Int) : binA P .eql t c (.i .i64 a) (.i .i64 b) = some (.b (decide (a = b))) := by
  have e : binA P .eql t c (.i .i64 a) (.i .i64 b) = some (.b (a == b)) := by
    simp [binA, binOp, Op.intCmp, ofSem, ofV1]
    rfl
  rw [e]; congr 2
theorem lssI (t : TypeId) (c : Bool) (a b : Int) : binA P .lss t c (.i .i64 a) (.i .i64 b) = some (.b (decide (a < b))) := by
  simp [binA, binOp, Op.intCmp, ofSem, ofV1]
  rfl
theorem leqI (t : TypeId) (c : Bool) (a b : Int) : binA P .leq t c (.i .i64 a) (.i .i64 b) = some (.b (decide (a ≤ b))) := by
  simp [binA, binOp, Op.intCmp, ofSem, ofV1]
  rfl
theorem gtrJ (t : TypeId) (c : Bool) (a b : Int) : binA P .gtr t c (.i .i64 a) (.i .i64 b) = some (.b (decide (a > b))) := by
  simp [binA, binOp, Op.intCmp, ofSem, ofV1]
  rfl
theorem lssU (t : TypeId) (c : Bool) (a b : Int) : binA P .lss t c (.i .u32 a) (.i .u32 b) = some (.b (decide (a < b))) := by
  simp [binA, binOp, Op.intCmp, ofSem, ofV1]
  rfl
theorem eqlU (t : TypeId) (c : Bool) (a b : Int) : binA P .eql t c (.i .u32 a) (.i .u32 b) = some (.b (decide (a = b))) := by
  have e : binA P .eql t c (.i .u32 a) (.i .u32 b) = some (.b (a == b)) := by
    simp [binA, binOp, Op.intCmp, ofSem, ofV1]
    rfl
  rw [e]; congr 2
theorem addJ (t : TypeId) (c : Bool) (a b : Int) (h : -9223372036854775808 ≤ a + b ∧ a + b ≤ 9223372036854775807) : binA P .add t c (.i .i64 a) (.i .i64 b) = some (.i .i64 (a + b)) := by
  have e : binA P .add t c (.i .i64 a) (.i .i64 b) = some (.i .i64 (IntKind.i64.wrap (a + b))) := by
    simp [binA, binOp, Op.intArith, ofSem, ofV1]
    rfl
  rw [e]; congr 2; simp [IntKind.wrap, IntKind.signed, IntKind.bits]; omega
theorem subJ (t : TypeId) (c : Bool) (a b : Int) (h : -9223372036854775808 ≤ a - b ∧ a - b ≤ 9223372036854775807) : binA P .sub t c (.i .i64 a) (.i .i64 b) = some (.i .i64 (a - b)) := by
  have e : binA P .sub t c (.i .i64 a) (.i .i64 b) = some (.i .i64 (IntKind.i64.wrap (a - b))) := by
    simp [binA, binOp, Op.intArith, ofSem, ofV1]
    rfl
  rw [e]; congr 2; simp [IntKind.wrap, IntKind.signed, IntKind.bits]; omega
theorem mulJ (t : TypeId) (c : Bool) (a b : Int) (h : -9223372036854775808 ≤ a * b ∧ a * b ≤ 9223372036854775807) : binA P .mul t c (.i .i64 a) (.i .i64 b) = some (.i .i64 (a * b)) := by
  have e : binA P .mul t c (.i .i64 a) (.i .i64 b) = some (.i .i64 (IntKind.i64.wrap (a * b))) := by
    simp [binA, binOp, Op.intArith, ofSem, ofV1]
    rfl
  rw [e]; congr 2; simp [IntKind.wrap, IntKind.signed, IntKind.bits]; omega
theorem shrJ (t : TypeId) (c : Bool) (a : Int) (n : Nat) (hn : n ≤ 64) : binA P .shr t c (.i .i64 a) (.i .i64 (n : Int)) = some (.i .i64 (a / (2 : Int) ^ n)) := by
  show ofSem (Op.shift .shr .i64 a .i64 (n : Int)) = _
  have h : Op.shift .shr .i64 a .i64 (n : Int) = pure (.int .i64 (a.fdiv (2 ^ n))) := by
    unfold Op.shift
    rw [if_neg (by omega)]
    simp only [Int.toNat_natCast, Nat.min_eq_left (show n ≤ IntKind.i64.bits from hn)]
  rw [h, Int.fdiv_eq_ediv_of_nonneg _ (by exact Int.le_of_lt (Int.pow_pos (by omega)))]
  rfl
theorem cvi64_8 (n : Int) : convA P 2 5 (.i .i64 n) = some (U8 (UInt8.ofNat (n % 256).toNat)) := by
  have e : convA P 2 5 (.i .i64 n) = some (.i .u8 (IntKind.u8.wrap n)) := by kernel_rfl
  rw [e, U8_wrap]
theorem fix_x {n : Int} {size : Nat} (hs : size ≤ 8) (H : Heap) : ∃ out H', CA P NS 46 [.i .i64 n, .i .i64 (size : Nat)] H (out, H') ∧ OutAt H.length H' out (be size n) ∧ Kp H H' := by
  have h0 := subJ 3 true (size : Nat) 1 (by omega)
  refine CA.wp (fn := Tryz.f46) (R := fun out H' => OutAt H.length H' out (be size n) ∧ Kp H H') (by kernel_rfl) rfl ?_
  dsimp only [Tryz.f46]
  dsimp only [List.length_cons, List.length_nil, List.cons_append, List.nil_append, Nat.reduceSub, Nat.reduceAdd, List.replicate]
  ((repeat with_reducible refine WP.seqs ?_); refine WP.rg ?_)
  ((repeat with_reducible refine WP.seqs ?_); refine WP.rg ?_)
  ((repeat with_reducible refine WP.seqs ?_); refine WP.rg ?_)
  ((repeat with_reducible refine WP.seqs ?_); first | refine WP.seq (WP.block ?_) | refine WP.block ?_)
  refine WP.loop (Inv := fun j fr H1 => ∃ (x2 x3 x4 x7 x8 x9 x10 x11 x12 x13 x14 x15 x16 x17 x18 x19 x20 x21 : AV), ∃ (out : AV) (m : Nat) (acc : B), fr = [.i .i64 n, .i .i64 (size : Nat), x2, x3, x4, out, .i .i64 ((m : Int) - 1), x7, x8, x9, x10, x11, x12, x13, x14, x15, x16, x17, x18, x19, x20, x21] ∧ m + j = size ∧ acc ++ be m n = be size n ∧ acc.length = j ∧ OutAt H.length H1 out acc ∧ Kp H H1) size ?_ size 0 _ _ (by omega) ?_
  rotate_left
  · exact ⟨_, _, _, _, _, _, _, _, _, _, _, _, _, _, _, _, _, _, _, size, [], rfl, rfl, rfl, rfl, .inl ⟨rfl, rfl⟩, Kp.refl H⟩
  clear h0
  intro j fr H1 hj ⟨x2, x3, x4, x7, x8, x9, x10, x11, x12, x13, x14, x15, x16, x17, x18, x19, x20, x21, out, m, acc, hfr, hm, hacc, hlen, ho, hk⟩
  subst hfr
  cases m with
  | zero =>
    have hg : binA P .geq 3 true (.i .i64 (((0 : Nat) : Int) - 1)) (.i .i64 0) = some (.b false) := by rw [geqI]; rfl
    have hacc : acc = be size n := by simpa [be] using hacc
    subst hacc
    generalize (((0 : Nat) : Int) - 1) = mi at hg
    ((repeat with_reducible refine WP.seqs ?_); refine WP.rg ?_)
    ((repeat with_reducible refine WP.seqs ?_); first | refine WP.seq (WP.condF rfl ?_) | refine WP.condF rfl ?_)
    refine WP.exit ?_; repeat (first | with_reducible refine Sq.n ?_ | with_reducible refine Sq.ret ?_ | with_reducible refine Sq.exit ?_ | with_reducible refine Bk.n ?_ | with_reducible refine Bk.ret ?_ | with_reducible refine Bk.exit ?_ | with_reducible refine Bk.ex' (by decide) ?_ | with_reducible refine Lp.ret ?_ | with_reducible refine Lp.exit ?_ | with_reducible refine Lx.exit ?_)
    ((repeat with_reducible refine WP.seqs ?_); refine WP.rg ?_)
    refine WP.ret ?_; repeat (first | with_reducible refine Sq.n ?_ | with_reducible refine Sq.ret ?_ | with_reducible refine Sq.exit ?_ | with_reducible refine Bk.n ?_ | with_reducible refine Bk.ret ?_ | with_reducible refine Bk.exit ?_ | with_reducible refine Bk.ex' (by decide) ?_ | with_reducible refine Lp.ret ?_ | with_reducible refine Lp.exit ?_ | with_reducible refine Lx.exit ?_)
    exact Fe.ret rfl ⟨ho, hk⟩
  | succ m =>
    have em : (((m + 1 : Nat) : Int) - 1) = ((m : Nat) : Int) := by omega
    have hg : binA P .geq 3 true (.i .i64 ((m : Nat) : Int)) (.i .i64 0) = some (.b true) := by rw [geqI]; simp
    have hml := mulJ 3 true 8 (m : Nat) (by omega)
    rw [show (8 : Int) * ((m : Nat) : Int) = ((8 * m : Nat) : Int) by simp] at hml
    have hsh := shrJ 2 false n (8 * m) (by omega)
    have hcv := cvi64_8 (n / (2 : Int) ^ (8 * m))
    have e8 : (2 : Int) ^ (8 * m) = 256 ^ m := by rw [Int.pow_mul]; rfl
    obtain ⟨sl, H2, out', H3, hb, ha, hs', ho', hk'⟩ := push_x (UInt8.ofNat ((n / (2 : Int) ^ (8 * m)) % 256).toNat) hk.1 ho (by omega)
    have hacc' : (acc ++ [UInt8.ofNat ((n / (2 : Int) ^ (8 * m)) % 256).toNat]) ++ be m n = be size n := by rw [← hacc, e8]; simp [be]
    have hsb := subJ 3 true (m : Nat) 1 (by omega)
    generalize UInt8.ofNat ((n / (2 : Int) ^ (8 * m)) % 256).toNat = y0 at hb hcv ho' hacc'
    generalize n / (2 : Int) ^ (8 * m) = ns at hsh hcv
    generalize U8 y0 = y at hb hcv
    rw [em]
    generalize ((8 * m : Nat) : Int) = m8 at hml hsh
    generalize hmi : ((m : Nat) : Int) = mi at hg hml hsb
    ((repeat with_reducible refine WP.seqs ?_); refine WP.rg ?_)
    ((repeat with_reducible refine WP.seqs ?_); first | refine WP.seq (WP.condT rfl ?_) | refine WP.condT rfl ?_)
    refine WP.skip ?_; repeat (first | with_reducible refine Sq.n ?_ | with_reducible refine Sq.ret ?_ | with_reducible refine Sq.exit ?_ | with_reducible refine Bk.n ?_ | with_reducible refine Bk.ret ?_ | with_reducible refine Bk.exit ?_ | with_reducible refine Bk.ex' (by decide) ?_ | with_reducible refine Lp.ret ?_ | with_reducible refine Lp.exit ?_ | with_reducible refine Lx.exit ?_)
    ((repeat with_reducible refine WP.seqs ?_); first | refine WP.seq (WP.block ?_) | refine WP.block ?_)
    refine WP.re ?_; repeat (first | with_reducible refine Sq.n ?_ | with_reducible refine Sq.ret ?_ | with_reducible refine Sq.exit ?_ | with_reducible refine Bk.n ?_ | with_reducible refine Bk.ret ?_ | with_reducible refine Bk.exit ?_ | with_reducible refine Bk.ex' (by decide) ?_ | with_reducible refine Lp.ret ?_ | with_reducible refine Lp.exit ?_ | with_reducible refine Lx.exit ?_)
    refine WP.re ?_; repeat (first | with_reducible refine Sq.n ?_ | with_reducible refine Sq.ret ?_ | with_reducible refine Sq.exit ?_ | with_reducible refine Bk.n ?_ | with_reducible refine Bk.ret ?_ | with_reducible refine Bk.exit ?_ | with_reducible refine Bk.ex' (by decide) ?_ | with_reducible refine Lp.ret ?_ | with_reducible refine Lp.exit ?_ | with_reducible refine Lx.exit ?_)
    refine Lp.n ⟨by omega, _, _, _, _, _, _, _, _, _, _, _, _, _, _, _, _, _, _, _, m, _, by rw [hmi], by omega, hacc', by simp [hlen], ho', hk.wt hk'⟩
theorem width_x {kind : Nat} (H : Heap) : CA P NS 48 [.i .i64 (kind : Nat)] H (.i .i64 ((if kind = 1 then 1 else if kind = 2 ∨ kind = 5 then 2 else if kind = 3 then 4 else 8 : Nat) : Int), H) := by
  have e1 := eqlI 3 true (kind : Nat) 1
  have e2 := eqlI 3 true (kind : Nat) 2
  have e5 := eqlI 3 true (kind : Nat) 5
  have e3 := eqlI 3 true (kind : Nat) 3
  have key : ∃ v H', CA P NS 48 [.i .i64 (kind : Nat)] H (v, H') ∧ (v = .i .i64 ((if kind = 1 then 1 else if kind = 2 ∨ kind = 5 then 2 else if kind = 3 then 4 else 8 : Nat) : Int) ∧ H' = H) := by
    refine CA.wp (fn := Tryz.f48) (R := fun v H' => v = .i .i64 ((if kind = 1 then 1 else if kind = 2 ∨ kind = 5 then 2 else if kind = 3 then 4 else 8 : Nat) : Int) ∧ H' = H) (by kernel_rfl) rfl ?_
    dsimp only [Tryz.f48]
    dsimp only [List.length_cons, List.length_nil, List.cons_append, List.nil_append, Nat.reduceSub, Nat.reduceAdd, List.replicate]
    ((repeat with_reducible refine WP.seqs ?_); refine WP.rg ?_)
    ((repeat with_reducible refine WP.seqs ?_); refine WP.rg ?_)
    ((repeat with_reducible refine WP.seqs ?_); first | refine WP.seq (WP.block ?_) | refine WP.block ?_)
    by_cases h1 : kind = 1
    · have e1 : binA P .eql 3 true (.i .i64 (kind : Nat)) (.i .i64 1) = some (.b true) := by rw [e1]; simp; omega
      simp only [if_pos h1]
      generalize ((kind : Nat) : Int) = kk at e1
      ((repeat with_reducible refine WP.seqs ?_); refine WP.rg ?_)
      ((repeat with_reducible refine WP.seqs ?_); first | refine WP.seq (WP.condT rfl ?_) | refine WP.condT rfl ?_)
      ((repeat with_reducible refine WP.seqs ?_); refine WP.rg ?_)
      refine WP.ret ?_; repeat (first | with_reducible refine Sq.n ?_ | with_reducible refine Sq.ret ?_ | with_reducible refine Sq.exit ?_ | with_reducible refine Bk.n ?_ | with_reducible refine Bk.ret ?_ | with_reducible refine Bk.exit ?_ | with_reducible refine Bk.ex' (by decide) ?_ | with_reducible refine Lp.ret ?_ | with_reducible refine Lp.exit ?_ | with_reducible refine Lx.exit ?_)
      exact Fe.ret rfl ⟨rfl, rfl⟩
    have e1 : binA P .eql 3 true (.i .i64 (kind : Nat)) (.i .i64 1) = some (.b false) := by rw [e1]; simp; omega
    simp only [if_neg h1]
    by_cases h2 : kind = 2
    · have e2 : binA P .eql 3 true (.i .i64 (kind : Nat)) (.i .i64 2) = some (.b true) := by rw [e2]; simp; omega
      simp only [if_pos (Or.inl h2 : kind = 2 ∨ kind = 5)]
      generalize ((kind : Nat) : Int) = kk at e1 e2
      ((repeat with_reducible refine WP.seqs ?_); refine WP.rg ?_)
      ((repeat with_reducible refine WP.seqs ?_); first | refine WP.seq (WP.condF rfl ?_) | refine WP.condF rfl ?_)
      ((repeat with_reducible refine WP.seqs ?_); refine WP.rg ?_)
      ((repeat with_reducible refine WP.seqs ?_); first | refine WP.seq (WP.condT rfl ?_) | refine WP.condT rfl ?_)
      refine WP.skip ?_; repeat (first | with_reducible refine Sq.n ?_ | with_reducible refine Sq.ret ?_ | with_reducible refine Sq.exit ?_ | with_reducible refine Bk.n ?_ | with_reducible refine Bk.ret ?_ | with_reducible refine Bk.exit ?_ | with_reducible refine Bk.ex' (by decide) ?_ | with_reducible refine Lp.ret ?_ | with_reducible refine Lp.exit ?_ | with_reducible refine Lx.exit ?_)
      ((repeat with_reducible refine WP.seqs ?_); first | refine WP.seq (WP.condT rfl ?_) | refine WP.condT rfl ?_)
      ((repeat with_reducible refine WP.seqs ?_); refine WP.rg ?_)
      refine WP.ret ?_; repeat (first | with_reducible refine Sq.n ?_ | with_reducible refine Sq.ret ?_ | with_reducible refine Sq.exit ?_ | with_reducible refine Bk.n ?_ | with_reducible refine Bk.ret ?_ | with_reducible refine Bk.exit ?_ | with_reducible refine Bk.ex' (by decide) ?_ | with_reducible refine Lp.ret ?_ | with_reducible refine Lp.exit ?_ | with_reducible refine Lx.exit ?_)
      exact Fe.ret rfl ⟨rfl, rfl⟩
    have e2 : binA P .eql 3 true (.i .i64 (kind : Nat)) (.i .i64 2) = some (.b false) := by rw [e2]; simp; omega
    by_cases h5 : kind = 5
    · have e5 : binA P .eql 3 true (.i .i64 (kind : Nat)) (.i .i64 5) = some (.b true) := by rw [e5]; simp; omega
      simp only [if_pos (Or.inr h5 : kind = 2 ∨ kind = 5)]
      generalize ((kind : Nat) : Int) = kk at e1 e2 e5
      ((repeat with_reducible refine WP.seqs ?_); refine WP.rg ?_)
      ((repeat with_reducible refine WP.seqs ?_); first | refine WP.seq (WP.condF rfl ?_) | refine WP.condF rfl ?_)
      ((repeat with_reducible refine WP.seqs ?_); refine WP.rg ?_)
      ((repeat with_reducible refine WP.seqs ?_); first | refine WP.seq (WP.condF rfl ?_) | refine WP.condF rfl ?_)
      refine WP.re ?_; repeat (first | with_reducible refine Sq.n ?_ | with_reducible refine Sq.ret ?_ | with_reducible refine Sq.exit ?_ | with_reducible refine Bk.n ?_ | with_reducible refine Bk.ret ?_ | with_reducible refine Bk.exit ?_ | with_reducible refine Bk.ex' (by decide) ?_ | with_reducible refine Lp.ret ?_ | with_reducible refine Lp.exit ?_ | with_reducible refine Lx.exit ?_)
      ((repeat with_reducible refine WP.seqs ?_); first | refine WP.seq (WP.condT rfl ?_) | refine WP.condT rfl ?_)
      ((repeat with_reducible refine WP.seqs ?_); refine WP.rg ?_)
      refine WP.ret ?_; repeat (first | with_reducible refine Sq.n ?_ | with_reducible refine Sq.ret ?_ | with_reducible refine Sq.exit ?_ | with_reducible refine Bk.n ?_ | with_reducible refine Bk.ret ?_ | with_reducible refine Bk.exit ?_ | with_reducible refine Bk.ex' (by decide) ?_ | with_reducible refine Lp.ret ?_ | with_reducible refine Lp.exit ?_ | with_reducible refine Lx.exit ?_)
      exact Fe.ret rfl ⟨rfl, rfl⟩
    have e5 : binA P .eql 3 true (.i .i64 (kind : Nat)) (.i .i64 5) = some (.b false) := by rw [e5]; simp; omega
    simp only [if_neg (show ¬(kind = 2 ∨ kind = 5) by omega)]
    by_cases h3 : kind = 3
    · have e3 : binA P .eql 3 true (.i .i64 (kind : Nat)) (.i .i64 3) = some (.b true) := by rw [e3]; simp; omega
      simp only [if_pos h3]
      generalize ((kind : Nat) : Int) = kk at e1 e2 e5 e3
      ((repeat with_reducible refine WP.seqs ?_); refine WP.rg ?_)
      ((repeat with_reducible refine WP.seqs ?_); first | refine WP.seq (WP.condF rfl ?_) | refine WP.condF rfl ?_)
      ((repeat with_reducible refine WP.seqs ?_); refine WP.rg ?_)
      ((repeat with_reducible refine WP.seqs ?_); first | refine WP.seq (WP.condF rfl ?_) | refine WP.condF rfl ?_)
      refine WP.re ?_; repeat (first | with_reducible refine Sq.n ?_ | with_reducible refine Sq.ret ?_ | with_reducible refine Sq.exit ?_ | with_reducible refine Bk.n ?_ | with_reducible refine Bk.ret ?_ | with_reducible refine Bk.exit ?_ | with_reducible refine Bk.ex' (by decide) ?_ | with_reducible refine Lp.ret ?_ | with_reducible refine Lp.exit ?_ | with_reducible refine Lx.exit ?_)
      ((repeat with_reducible refine WP.seqs ?_); first | refine WP.seq (WP.condF rfl ?_) | refine WP.condF rfl ?_)
      ((repeat with_reducible refine WP.seqs ?_); refine WP.rg ?_)
      ((repeat with_reducible refine WP.seqs ?_); first | refine WP.seq (WP.condT rfl ?_) | refine WP.condT rfl ?_)
      ((repeat with_reducible refine WP.seqs ?_); refine WP.rg ?_)
      refine WP.ret ?_; repeat (first | with_reducible refine Sq.n ?_ | with_reducible refine Sq.ret ?_ | with_reducible refine Sq.exit ?_ | with_reducible refine Bk.n ?_ | with_reducible refine Bk.ret ?_ | with_reducible refine Bk.exit ?_ | with_reducible refine Bk.ex' (by decide) ?_ | with_reducible refine Lp.ret ?_ | with_reducible refine Lp.exit ?_ | with_reducible refine Lx.exit ?_)
      exact Fe.ret rfl ⟨rfl, rfl⟩
    have e3 : binA P .eql 3 true (.i .i64 (kind : Nat)) (.i .i64 3) = some (.b false) := by rw [e3]; simp; omega
    simp only [if_neg h3]
    generalize ((kind : Nat) : Int) = kk at e1 e2 e5 e3
    ((repeat with_reducible refine WP.seqs ?_); refine WP.rg ?_)
    ((repeat with_reducible refine WP.seqs ?_); first | refine WP.seq (WP.condF rfl ?_) | refine WP.condF rfl ?_)
    ((repeat with_reducible refine WP.seqs ?_); refine WP.rg ?_)
    ((repeat with_reducible refine WP.seqs ?_); first | refine WP.seq (WP.condF rfl ?_) | refine WP.condF rfl ?_)
    refine WP.re ?_; repeat (first | with_reducible refine Sq.n ?_ | with_reducible refine Sq.ret ?_ | with_reducible refine Sq.exit ?_ | with_reducible refine Bk.n ?_ | with_reducible refine Bk.ret ?_ | with_reducible refine Bk.exit ?_ | with_reducible refine Bk.ex' (by decide) ?_ | with_reducible refine Lp.ret ?_ | with_reducible refine Lp.exit ?_ | with_reducible refine Lx.exit ?_)
    ((repeat with_reducible refine WP.seqs ?_); first | refine WP.seq (WP.condF rfl ?_) | refine WP.condF rfl ?_)
    ((repeat with_reducible refine WP.seqs ?_); refine WP.rg ?_)
    ((repeat with_reducible refine WP.seqs ?_); first | refine WP.seq (WP.condF rfl ?_) | refine WP.condF rfl ?_)
    refine WP.skip ?_; repeat (first | with_reducible refine Sq.n ?_ | with_reducible refine Sq.ret ?_ | with_reducible refine Sq.exit ?_ | with_reducible refine Bk.n ?_ | with_reducible refine Bk.ret ?_ | with_reducible refine Bk.exit ?_ | with_reducible refine Bk.ex' (by decide) ?_ | with_reducible refine Lp.ret ?_ | with_reducible refine Lp.exit ?_ | with_reducible refine Lx.exit ?_)
    ((repeat with_reducible refine WP.seqs ?_); refine WP.rg ?_)
    refine WP.ret ?_; repeat (first | with_reducible refine Sq.n ?_ | with_reducible refine Sq.ret ?_ | with_reducible refine Sq.exit ?_ | with_reducible refine Bk.n ?_ | with_reducible refine Bk.ret ?_ | with_reducible refine Bk.exit ?_ | with_reducible refine Bk.ex' (by decide) ?_ | with_reducible refine Lp.ret ?_ | with_reducible refine Lp.exit ?_ | with_reducible refine Lx.exit ?_)
    exact Fe.ret rfl ⟨rfl, rfl⟩
  obtain ⟨v, H', h, rfl, rfl⟩ := key
  exact h
end Go.Proofs.YtiifcfngbbhgoaaGreatDoor.Rd

namespace Go.Proofs.YtiifcfngbbhgoaaGreatDoor.Rd
open Go Go.Proofs.YtiifcfngbbhgoaaGreatDoor.Ax Go.Proofs.YtiifcfngbbhgoaaGreatDoor.Wire
set_option maxRecDepth 100000
set_option maxHeartbeats 1000000
theorem cv_int_u64 (n : Nat) (h : n < 9223372036854775808) : convA P 3 69 (.i .i64 (n : Nat)) = some (.i .u64 (n : Nat)) := by
  have e : convA P 3 69 (.i .i64 (n : Nat)) = some (.i .u64 (IntKind.u64.wrap (n : Nat))) := by kernel_rfl
  rw [e]; simp [IntKind.wrap, IntKind.signed, IntKind.bits]; omega
theorem cv_u32_u64 (n : Nat) (h : n < 4294967296) : convA P 53 69 (.i .u32 (n : Nat)) = some (.i .u64 (n : Nat)) := by
  have e : convA P 53 69 (.i .u32 (n : Nat)) = some (.i .u64 (IntKind.u64.wrap (n : Nat))) := by kernel_rfl
  rw [e]; simp [IntKind.wrap, IntKind.signed, IntKind.bits]; omega
theorem addU64 (t : TypeId) (c : Bool) (a b : Nat) (h : a + b < 18446744073709551616) : binA P .add t c (.i .u64 (a : Nat)) (.i .u64 (b : Nat)) = some (.i .u64 ((a + b : Nat) : Int)) := by
  have e : binA P .add t c (.i .u64 (a : Nat)) (.i .u64 (b : Nat)) = some (.i .u64 (IntKind.u64.wrap ((a : Int) + b))) := by
    simp [binA, binOp, Op.intArith, ofSem, ofV1]
    rfl
  rw [e]; simp [IntKind.wrap, IntKind.signed, IntKind.bits]; omega
theorem push0 (H : Heap) (b : UInt8) : ∃ out H', buildSliceA P H 22 1 [(0, U8 b)] = some (out, H') ∧ OutAt H.length H' out [b] ∧ Kp H H' := by
  refine ⟨_, _, build_1 H b, .inr ⟨H.length, Nat.le_refl _, rfl, by simp, by simp⟩, Kp.app _ _⟩
def cntS (flex null : Bool) (size n : Nat) : B := if null then cnt0 flex size else cnt flex size n
theorem cntd_x {flex null : Bool} {n size : Nat} (hs : size ≤ 8) (hn : n < 4294967296) (H : Heap) : ∃ out H', CA P NS 44 [.b flex, .b null, .i .i64 (n : Nat), .i .i64 (size : Nat)] H (out, H') ∧ OutAt H.length H' out (cntS flex null size n) ∧ Kp H H' := by
  refine CA.wp (fn := Tryz.f44) (R := fun out H' => OutAt H.length H' out (cntS flex null size n) ∧ Kp H H') (by kernel_rfl) rfl ?_
  cases flex with
  | true =>
    cases null with
    | true =>
      obtain ⟨out, H1, hb, ho, hk⟩ := push0 H 0
      have hb : buildSliceA P H 22 1 [(0, .i .u8 0)] = some (out, H1) := hb
      dsimp only [Tryz.f44]
      dsimp only [List.length_cons, List.length_nil, List.cons_append, List.nil_append, Nat.reduceSub, Nat.reduceAdd, List.replicate]
      ((repeat with_reducible refine WP.seqs ?_); refine WP.rg ?_)
      ((repeat with_reducible refine WP.seqs ?_); first | refine WP.seq (WP.block ?_) | refine WP.block ?_)
      ((repeat with_reducible refine WP.seqs ?_); refine WP.rg ?_)
      ((repeat with_reducible refine WP.seqs ?_); first | refine WP.seq (WP.condT rfl ?_) | refine WP.condT rfl ?_)
      ((repeat with_reducible refine WP.seqs ?_); refine WP.rg ?_)
      refine WP.ret ?_; repeat (first | with_reducible refine Sq.n ?_ | with_reducible refine Sq.ret ?_ | with_reducible refine Sq.exit ?_ | with_reducible refine Bk.n ?_ | with_reducible refine Bk.ret ?_ | with_reducible refine Bk.exit ?_ | with_reducible refine Bk.ex' (by decide) ?_ | with_reducible refine Lp.ret ?_ | with_reducible refine Lp.exit ?_ | with_reducible refine Lx.exit ?_)
      exact Fe.r1 rfl ⟨by simpa [cntS, cnt0] using ho, hk⟩
    | false =>
      have hcv := cv_int_u64 n (by omega)
      have ha := addU64 69 true n 1 (by omega)
      obtain ⟨out, H1, hc, ho, hk⟩ := uvs_x (n := n + 1) (by omega) H
      have ha : binA P .add 69 true (.i .u64 (n : Nat)) (.i .u64 1) = some (.i .u64 ((n + 1 : Nat) : Int)) := ha
      generalize ((n + 1 : Nat) : Int) = n1 at ha hc
      dsimp only [Tryz.f44]
      dsimp only [List.length_cons, List.length_nil, List.cons_append, List.nil_append, Nat.reduceSub, Nat.reduceAdd, List.replicate]
      ((repeat with_reducible refine WP.seqs ?_); refine WP.rg ?_)
      ((repeat with_reducible refine WP.seqs ?_); first | refine WP.seq (WP.block ?_) | refine WP.block ?_)
      ((repeat with_reducible refine WP.seqs ?_); refine WP.rg ?_)
      ((repeat with_reducible refine WP.seqs ?_); first | refine WP.seq (WP.condF rfl ?_) | refine WP.condF rfl ?_)
      ((repeat with_reducible refine WP.seqs ?_); refine WP.rg ?_)
      ((repeat with_reducible refine WP.seqs ?_); first | refine WP.seq (WP.condT rfl ?_) | refine WP.condT rfl ?_)
      ((repeat with_reducible refine WP.seqs ?_); refine WP.rg ?_)
      refine WP.ret ?_; repeat (first | with_reducible refine Sq.n ?_ | with_reducible refine Sq.ret ?_ | with_reducible refine Sq.exit ?_ | with_reducible refine Bk.n ?_ | with_reducible refine Bk.ret ?_ | with_reducible refine Bk.exit ?_ | with_reducible refine Bk.ex' (by decide) ?_ | with_reducible refine Lp.ret ?_ | with_reducible refine Lp.exit ?_ | with_reducible refine Lx.exit ?_)
      exact Fe.r1 rfl ⟨by simpa [cntS, cnt] using ho, hk⟩
  | false =>
    cases null with
    | true =>
      obtain ⟨out, H1, hc, ho, hk⟩ := fix_x (n := -1) hs H
      generalize hsz : ((size : Nat) : Int) = sz at hc ⊢
      dsimp only [Tryz.f44]
      dsimp only [List.length_cons, List.length_nil, List.cons_append, List.nil_append, Nat.reduceSub, Nat.reduceAdd, List.replicate]
      ((repeat with_reducible refine WP.seqs ?_); refine WP.rg ?_)
      ((repeat with_reducible refine WP.seqs ?_); first | refine WP.seq (WP.block ?_) | refine WP.block ?_)
      ((repeat with_reducible refine WP.seqs ?_); refine WP.rg ?_)
      ((repeat with_reducible refine WP.seqs ?_); first | refine WP.seq (WP.condF rfl ?_) | refine WP.condF rfl ?_)
      ((repeat with_reducible refine WP.seqs ?_); refine WP.rg ?_)
      ((repeat with_reducible refine WP.seqs ?_); first | refine WP.seq (WP.condF rfl ?_) | refine WP.condF rfl ?_)
      ((repeat with_reducible refine WP.seqs ?_); refine WP.rg ?_)
      ((repeat with_reducible refine WP.seqs ?_); first | refine WP.seq (WP.condT rfl ?_) | refine WP.condT rfl ?_)
      ((repeat with_reducible refine WP.seqs ?_); refine WP.rg ?_)
      refine WP.ret ?_; repeat (first | with_reducible refine Sq.n ?_ | with_reducible refine Sq.ret ?_ | with_reducible refine Sq.exit ?_ | with_reducible refine Bk.n ?_ | with_reducible refine Bk.ret ?_ | with_reducible refine Bk.exit ?_ | with_reducible refine Bk.ex' (by decide) ?_ | with_reducible refine Lp.ret ?_ | with_reducible refine Lp.exit ?_ | with_reducible refine Lx.exit ?_)
      exact Fe.r1 rfl ⟨by simpa [cntS, cnt0] using ho, hk⟩
    | false =>
      obtain ⟨out, H1, hc, ho, hk⟩ := fix_x (n := (n : Nat)) hs H
      dsimp only [Tryz.f44]
      dsimp only [List.length_cons, List.length_nil, List.cons_append, List.nil_append, Nat.reduceSub, Nat.reduceAdd, List.replicate]
      ((repeat with_reducible refine WP.seqs ?_); refine WP.rg ?_)
      ((repeat with_reducible refine WP.seqs ?_); first | refine WP.seq (WP.block ?_) | refine WP.block ?_)
      ((repeat with_reducible refine WP.seqs ?_); refine WP.rg ?_)
      ((repeat with_reducible refine WP.seqs ?_); first | refine WP.seq (WP.condF rfl ?_) | refine WP.condF rfl ?_)
      ((repeat with_reducible refine WP.seqs ?_); refine WP.rg ?_)
      ((repeat with_reducible refine WP.seqs ?_); first | refine WP.seq (WP.condF rfl ?_) | refine WP.condF rfl ?_)
      ((repeat with_reducible refine WP.seqs ?_); refine WP.rg ?_)
      ((repeat with_reducible refine WP.seqs ?_); first | refine WP.seq (WP.condF rfl ?_) | refine WP.condF rfl ?_)
      refine WP.skip ?_; repeat (first | with_reducible refine Sq.n ?_ | with_reducible refine Sq.ret ?_ | with_reducible refine Sq.exit ?_ | with_reducible refine Bk.n ?_ | with_reducible refine Bk.ret ?_ | with_reducible refine Bk.exit ?_ | with_reducible refine Bk.ex' (by decide) ?_ | with_reducible refine Lp.ret ?_ | with_reducible refine Lp.exit ?_ | with_reducible refine Lx.exit ?_)
      ((repeat with_reducible refine WP.seqs ?_); refine WP.rg ?_)
      refine WP.ret ?_; repeat (first | with_reducible refine Sq.n ?_ | with_reducible refine Sq.ret ?_ | with_reducible refine Sq.exit ?_ | with_reducible refine Bk.n ?_ | with_reducible refine Bk.ret ?_ | with_reducible refine Bk.exit ?_ | with_reducible refine Bk.ex' (by decide) ?_ | with_reducible refine Lp.ret ?_ | with_reducible refine Lp.exit ?_ | with_reducible refine Lx.exit ?_)
      exact Fe.r1 rfl ⟨by simpa [cntS, cnt] using ho, hk⟩
theorem minA_nat (n : Nat) : minA (.i .i64 (n : Nat)) (.i .i64 32767) = some (.i .i64 ((min n 32767 : Nat) : Int)) := by
  have : (if (32767 : Int) < ((n : Nat) : Int) then (32767 : Int) else (n : Nat)) = ((min n 32767 : Nat) : Int) := by split <;> omega
  simp only [minA, if_true, this]
theorem BytesAt.hi {A : Nat → Prop} {H : Heap} {av : AV} {bs : B} (h : BytesAt A H av bs) {n : Nat} (hn : n ≤ bs.length) (h0 : 0 < n ∨ bs.length = 0) : ∃ av', sliceA P 22 av none (some (.i .i64 (n : Nat))) = some av' ∧ BytesAt A H av' (bs.take n) := by
  unfold sliceA
  simp only [bty.elem, bty.size]
  cases h with
  | z =>
    obtain rfl : n = 0 := by simpa using hn
    exact ⟨.s0, by simp, by simpa using BytesAt.z⟩
  | e =>
    obtain rfl : n = 0 := by simpa using hn
    exact ⟨.se, by simp, by simpa using BytesAt.e⟩
  | @s i o ty kn cs bs hA h h1 h2 =>
    have hp : 0 < n := by omega
    have hl : (bs.take n).length = n := by simp; omega
    refine ⟨.sl i o n, by simp; omega, ?_⟩
    have := @BytesAt.s A H i o ty kn cs (bs.take n) hA h (by omega) (by
      rw [hl]
      have : (cs.drop o).take n = ((cs.drop o).take bs.length).take n := by rw [List.take_take]; congr 1; omega
      rw [this, h2]; simp [u8s, List.map_take])
    rw [hl] at this
    exact this
theorem whole_x {A : Nat → Prop} {H : Heap} {av : AV} {bs : B} (h : BytesAt A H av bs) : ∃ av', CA P NS 27 [av] H (av', H) ∧ BytesAt A H av' (whole bs) := by
  have hl := h.len bty
  have hm := minA_nat bs.length
  obtain ⟨av', hs, hb⟩ := BytesAt.hi h (n := min bs.length 32767) (by omega) (by omega)
  have e : bs.take (min bs.length 32767) = whole bs := by
    unfold whole
    by_cases hc : bs.length ≤ 32767
    · rw [Nat.min_eq_left hc, List.take_length, List.take_of_length_le hc]
    · rw [Nat.min_eq_right (by omega)]
  rw [e] at hb
  have key : ∃ v H', CA P NS 27 [av] H (v, H') ∧ (v = av' ∧ H' = H) := by
    refine CA.wp (fn := Tryz.f27) (R := fun v H' => v = av' ∧ H' = H) (by kernel_rfl) rfl ?_
    generalize ((bs.length : Nat) : Int) = n1 at hl hm
    generalize ((min bs.length 32767 : Nat) : Int) = n2 at hm hs
    dsimp only [Tryz.f27]
    dsimp only [List.length_cons, List.length_nil, List.cons_append, List.nil_append, Nat.reduceSub, Nat.reduceAdd, List.replicate]
    ((repeat with_reducible refine WP.seqs ?_); refine WP.rg ?_)
    ((repeat with_reducible refine WP.seqs ?_); refine WP.rg ?_)
    refine WP.ret ?_; repeat (first | with_reducible refine Sq.n ?_ | with_reducible refine Sq.ret ?_ | with_reducible refine Sq.exit ?_ | with_reducible refine Bk.n ?_ | with_reducible refine Bk.ret ?_ | with_reducible refine Bk.exit ?_ | with_reducible refine Bk.ex' (by decide) ?_ | with_reducible refine Lp.ret ?_ | with_reducible refine Lp.exit ?_ | with_reducible refine Lx.exit ?_)
    exact Fe.r1 rfl ⟨rfl, rfl⟩
  obtain ⟨v, H', hc, rfl, rfl⟩ := key
  exact ⟨_, hc, hb⟩
theorem SlAt.len {H : Heap} {sz n : Nat} {av : AV} (h : SlAt H sz av n) {t : TypeId} (ht : (elemA P t).isSome = true) : lenA P t av = some (.i .i64 (n : Nat)) := by
  have hu : ∃ e, P.underlying t = some (.slice e) := by
    unfold elemA at ht
    split at ht
    · rename_i e he; exact ⟨e, he⟩
    · simp at ht
  obtain ⟨e, hu⟩ := hu
  unfold lenA
  rcases h with ⟨rfl | rfl, rfl⟩ | ⟨i, o, ty, kn, cs, rfl, h0, h1, h2⟩ <;> simp [hu]
theorem SlAt.hi {H : Heap} {sz n : Nat} {av : AV} (h : SlAt H sz av n) {t e : TypeId} (ht : elemA P t = some e) (hz : sizeA P e = some sz) {m : Nat} (hm : m ≤ n) (h0 : 0 < m ∨ n = 0) :
    ∃ av', sliceA P t av none (some (.i .i64 (m : Nat))) = some av' ∧ SlAt H sz av' m ∧ ∀ j, elAt H sz av' j = elAt H sz av j := by
  unfold sliceA
  simp only [ht, hz]
  rcases h with ⟨rfl | rfl, rfl⟩ | ⟨i, o, ty, kn, cs, rfl, h1, h2, h3⟩
  · obtain rfl : m = 0 := by omega
    exact ⟨.s0, by simp, .inl ⟨.inl rfl, rfl⟩, fun j => rfl⟩
  · obtain rfl : m = 0 := by omega
    exact ⟨.se, by simp, .inl ⟨.inr rfl, rfl⟩, fun j => rfl⟩
  · refine ⟨.sl i o m, by simp; omega, .inr ⟨i, o, ty, kn, cs, rfl, by omega, h2, ?_⟩, fun j => rfl⟩
    have : m * sz ≤ n * sz := Nat.mul_le_mul_right _ hm
    omega
theorem elT : elemA P 23 = some 26 := by kernel_rfl
theorem elG : elemA P 24 = some 55 := by kernel_rfl
theorem elF : elemA P 31 = some 47 := by kernel_rfl
theorem things_x {H : Heap} {av : AV} {n : Nat} (h : SlAt H 5 av n) : ∃ av', CA P NS 43 [av] H (av', H) ∧ SlAt H 5 av' (min n 32767) ∧ ∀ j, elAt H 5 av' j = elAt H 5 av j := by
  have hl := h.len (t := 23) (by rw [elT]; rfl)
  have hm := minA_nat n
  obtain ⟨av', hs, hb, he⟩ := h.hi elT zT (m := min n 32767) (by omega) (by omega)
  have key : ∃ v H', CA P NS 43 [av] H (v, H') ∧ (v = av' ∧ H' = H) := by
    refine CA.wp (fn := Tryz.f43) (R := fun v H' => v = av' ∧ H' = H) (by kernel_rfl) rfl ?_
    generalize ((min n 32767 : Nat) : Int) = n2 at hm hs
    generalize ((n : Nat) : Int) = n1 at hl hm
    dsimp only [Tryz.f43]
    dsimp only [List.length_cons, List.length_nil, List.cons_append, List.nil_append, Nat.reduceSub, Nat.reduceAdd, List.replicate]
    ((repeat with_reducible refine WP.seqs ?_); refine WP.rg ?_)
    ((repeat with_reducible refine WP.seqs ?_); refine WP.rg ?_)
    refine WP.ret ?_; repeat (first | with_reducible refine Sq.n ?_ | with_reducible refine Sq.ret ?_ | with_reducible refine Sq.exit ?_ | with_reducible refine Bk.n ?_ | with_reducible refine Bk.ret ?_ | with_reducible refine Bk.exit ?_ | with_reducible refine Bk.ex' (by decide) ?_ | with_reducible refine Lp.ret ?_ | with_reducible refine Lp.exit ?_ | with_reducible refine Lx.exit ?_)
    exact Fe.r1 rfl ⟨rfl, rfl⟩
  obtain ⟨v, H', hc, rfl, rfl⟩ := key
  exact ⟨_, hc, hb, he⟩
theorem SlAt.idx {H : Heap} {sz n : Nat} {av : AV} (h : SlAt H sz av n) {t e : TypeId} (ht : elemA P t = some e) (hz : sizeA P e = some sz) (ha : aggA P e = some true) {j : Nat} (hj : j < n) :
    ∃ p c, indexAddrA P t av (.i .i64 (j : Nat)) = some p ∧ loadA P H e p = some (.g c) ∧ elAt H sz av j = some c ∧ c.length = sz := by
  obtain ⟨c, hc, hcl⟩ := h.get hj
  rcases h with ⟨_, h⟩ | ⟨i, o, ty, kn, cs, rfl, h1, h2, h3⟩
  · omega
  · have hle : (j + 1) * sz ≤ n * sz := Nat.mul_le_mul_right _ hj
    have e1 : (j + 1) * sz = j * sz + sz := by rw [Nat.add_mul, Nat.one_mul]
    refine ⟨.p i (o + j * sz), c, ?_, ?_, hc, hcl⟩
    · simp only [indexAddrA, ht, hz]
      rw [if_pos ⟨by omega, by omega⟩]; simp
    · simp only [elAt, h2, Option.some.injEq] at hc
      simp only [loadA, loadAt, h2, ha, hz]
      rw [if_pos (by omega), hc]
theorem TrAt.zero (H : Heap) : TrAt H [.i .i64 0, .s0, .b false, .s0, .s0] .zero := .mk (by omega) .z ⟨.inl ⟨.inl rfl, rfl⟩, fun j k bs h => by simp at h⟩ (.inl ⟨.inl rfl, rfl⟩) (fun j x h => by simp at h)
theorem SlAt.one {H : Heap} {sz n : Nat} {av : AV} (h : SlAt H sz av n) : av.one = true := by
  rcases h with ⟨rfl | rfl, _⟩ | ⟨i, o, ty, kn, cs, rfl, _⟩ <;> rfl
theorem TrAt.parts {H : Heap} {c : List AV} {t : Tr} (h : TrAt H c t) : ∃ s l u, c = [.i .i64 t.n, s, .b t.null, l, u] ∧ (-9223372036854775808 ≤ t.n ∧ t.n ≤ 9223372036854775807) ∧ BytesAt (Lt H) H s t.s ∧ TgAt H u t.u ∧ SlAt H 5 l t.l.length ∧ (∀ (j : Nat) (x : Tr), t.l[j]? = some x → ∀ c, elAt H 5 l j = some c → TrAt H c x) ∧ c.all AV.one = true := by
  cases h with
  | @mk n s l u nl bs ts us hn hs hu hl hx =>
    refine ⟨s, l, u, rfl, hn, hs, hu, hl, hx, ?_⟩
    have h1 := (BytesAt.one' hs).2
    have h2 := hl.one
    have h3 := hu.1.one
    have h4 : (AV.i .i64 n).one = true := rfl
    have h5 : (AV.b nl).one = true := rfl
    simp [h1, h2, h3, h4, h5]
theorem zeroT : zeroA P 26 = some (.g [.i .i64 0, .s0, .b false, .s0, .s0]) := by kernel_rfl
theorem buildT : buildA P 26 [] = some (.g [.i .i64 0, .s0, .b false, .s0, .s0]) := by kernel_rfl
theorem at_x {H : Heap} {c : List AV} {t : Tr} (ht : TrAt H c t) (i : Nat) : ∃ v H', CA P NS 22 [.g c, .i .i64 (i : Nat)] H (v, H') ∧ ∃ c', v = .g c' ∧ TrAt H' c' (t.at i) ∧ Kp H H' := by
  obtain ⟨s, l, u, hc, hn, hs, hu, hl, hx, hone⟩ := ht.parts
  obtain ⟨b1, H1, hbx, k1, v1, _⟩ := box_new (H := H) (e := 26) hone
  refine CA.wp (fn := Tryz.f22) (R := fun v H' => ∃ c', v = .g c' ∧ TrAt H' c' (t.at i) ∧ Kp H H') (by kernel_rfl) rfl ?_
  subst hc
  have hlen := (hl.kp k1).len (t := 23) (by rw [elT]; rfl)
  have hlss := lssI 3 false (i : Nat) (t.l.length : Nat)
  by_cases hi : i < t.l.length
  · have hlss : binA P .lss 3 false (.i .i64 (i : Nat)) (.i .i64 (t.l.length : Nat)) = some (.b true) := by rw [hlss]; simp; omega
    obtain ⟨p, c', hix, hld, hel, hcl⟩ := (hl.kp k1).idx elT zT aT hi
    have htc : TrAt H c' (t.at i) := by
      have he : t.at i = t.l[i] := by unfold Tr.at; simp [List.getD, hi]
      rw [he]
      exact hx i _ (by simp) c' (by rw [← hl.el k1 hi]; exact hel)
    have hone' := htc.parts.choose_spec.choose_spec.choose_spec.2.2.2.2.2.2
    obtain ⟨b2, H2, H3, hal, hst, k2, v3, _, k3, v2, _⟩ := alloc_new (H := H1) zeroT rfl zT rfl hcl hone'
    have v1 := k3.at_ v1
    have hld : loadA P H2 26 p = some (.g c') := by
      obtain ⟨p2, c2, q1, q2, q3, _⟩ := ((hl.kp k1).kp k3).idx elT zT aT hi
      rw [hix] at q1; cases q1
      have : elAt H2 5 l i = elAt H1 5 l i := (hl.kp k1).el k3 hi
      rw [this, hel] at q3; cases q3
      exact q2
    generalize hii : ((i : Nat) : Int) = ii at hlss hix ⊢
    generalize ((t.l.length : Nat) : Int) = nn at hlss hlen
    dsimp only [Tryz.f22]
    dsimp only [List.length_cons, List.length_nil, List.cons_append, List.nil_append, Nat.reduceSub, Nat.reduceAdd, List.replicate]
    ((repeat with_reducible refine WP.seqs ?_); refine WP.rg ?_)
    ((repeat with_reducible refine WP.seqs ?_); refine WP.rg ?_)
    ((repeat with_reducible refine WP.seqs ?_); first | refine WP.seq (WP.condT rfl ?_) | refine WP.condT rfl ?_)
    ((repeat with_reducible refine WP.seqs ?_); refine WP.rg ?_)
    refine WP.ret ?_; repeat (first | with_reducible refine Sq.n ?_ | with_reducible refine Sq.ret ?_ | with_reducible refine Sq.exit ?_ | with_reducible refine Bk.n ?_ | with_reducible refine Bk.ret ?_ | with_reducible refine Bk.exit ?_ | with_reducible refine Bk.ex' (by decide) ?_ | with_reducible refine Lp.ret ?_ | with_reducible refine Lp.exit ?_ | with_reducible refine Lx.exit ?_)
    have hres : loadA P H3 26 (.p b2 0) = some (.g c') := ldw v3 aT zT hcl
    refine Fe.r1 (v := .g c') (by simp [resultsA, hres]) ⟨c', rfl, htc.kp (k1.trans k2), k1.trans k2⟩
  · have hlss : binA P .lss 3 false (.i .i64 (i : Nat)) (.i .i64 (t.l.length : Nat)) = some (.b false) := by rw [hlss]; simp; omega
    obtain ⟨b2, H2, H3, hal, hst, k2, v3, _, k3, v2, _⟩ := alloc_new (H := H1) (cs := [.i .i64 0, .s0, .b false, .s0, .s0]) zeroT rfl zT rfl rfl rfl
    have v1 := k3.at_ v1
    have hbt := buildT
    have he : t.at i = .zero := by unfold Tr.at; rw [List.getD_eq_getElem?_getD, List.getElem?_eq_none (by omega)]; rfl
    rw [he]
    generalize hii : ((i : Nat) : Int) = ii at hlss ⊢
    generalize ((t.l.length : Nat) : Int) = nn at hlss hlen
    dsimp only [Tryz.f22]
    dsimp only [List.length_cons, List.length_nil, List.cons_append, List.nil_append, Nat.reduceSub, Nat.reduceAdd, List.replicate]
    ((repeat with_reducible refine WP.seqs ?_); refine WP.rg ?_)
    ((repeat with_reducible refine WP.seqs ?_); refine WP.rg ?_)
    ((repeat with_reducible refine WP.seqs ?_); first | refine WP.seq (WP.condF rfl ?_) | refine WP.condF rfl ?_)
    refine WP.skip ?_; repeat (first | with_reducible refine Sq.n ?_ | with_reducible refine Sq.ret ?_ | with_reducible refine Sq.exit ?_ | with_reducible refine Bk.n ?_ | with_reducible refine Bk.ret ?_ | with_reducible refine Bk.exit ?_ | with_reducible refine Bk.ex' (by decide) ?_ | with_reducible refine Lp.ret ?_ | with_reducible refine Lp.exit ?_ | with_reducible refine Lx.exit ?_)
    ((repeat with_reducible refine WP.seqs ?_); refine WP.rg ?_)
    refine WP.ret ?_; repeat (first | with_reducible refine Sq.n ?_ | with_reducible refine Sq.ret ?_ | with_reducible refine Sq.exit ?_ | with_reducible refine Bk.n ?_ | with_reducible refine Bk.ret ?_ | with_reducible refine Bk.exit ?_ | with_reducible refine Bk.ex' (by decide) ?_ | with_reducible refine Lp.ret ?_ | with_reducible refine Lp.exit ?_ | with_reducible refine Lx.exit ?_)
    have hres : loadA P H3 26 (.p b2 0) = some (.g [.i .i64 0, .s0, .b false, .s0, .s0]) := ldw v3 aT zT rfl
    refine Fe.r1 (v := .g [.i .i64 0, .s0, .b false, .s0, .s0]) (by simp only [resultsA, List.getElem?_cons_succ, List.getElem?_cons_zero, Option.bind_some, hres]) ⟨_, rfl, TrAt.zero _, k1.trans k2⟩
end Go.Proofs.YtiifcfngbbhgoaaGreatDoor.Rd

