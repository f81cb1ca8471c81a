/-
  THE REFERENCE's SMALL FUNCTIONS, more: fixed numbers, counts, parts of trees, what fields say of versions.
-/
import Derived.Test.YtdanlkiojkimaaaDoorQTrLeaf
set_option linter.constructorNameAsVariable false
set_option linter.unusedVariables false
set_option linter.unusedSimpArgs false
namespace Go.Proofs.YtdanlkiojkimaaaDoor.Rd
open Go Go.Proofs.YtdanlkiojkimaaaDoor.Ax Go.Proofs.YtdanlkiojkimaaaDoor.Wire
set_option maxRecDepth 100000
set_option maxHeartbeats 1000000
theorem geqI (t : TypeId) (c : Bool) (a b : Int) : binA P .geq t c (.i .i64 a) (.i .i64 b) = some (.b (decide (a ≥ b))) := geq t .i64 c a b
theorem eqlI (t : TypeId) (c : Bool) (a b : Int) : binA P .eql t c (.i .i64 a) (.i .i64 b) = some (.b (decide (a = b))) := by
  have e : binA P .eql t c (.i .i64 a) (.i .i64 b) = some (.b (a == b)) := by
    simp [binA, binOp, Op.intCmp, ofSem, ofV1]
    rfl
  rw [e]; congr 2
theorem lssI (t : TypeId) (c : Bool) (a b : Int) : binA P .lss t c (.i .i64 a) (.i .i64 b) = some (.b (decide (a < b))) := by
  simp [binA, binOp, Op.intCmp, ofSem, ofV1]
  rfl
theorem leqI (t : TypeId) (c : Bool) (a b : Int) : binA P .leq t c (.i .i64 a) (.i .i64 b) = some (.b (decide (a ≤ b))) := by
  simp [binA, binOp, Op.intCmp, ofSem, ofV1]
  rfl
theorem gtrJ (t : TypeId) (c : Bool) (a b : Int) : binA P .gtr t c (.i .i64 a) (.i .i64 b) = some (.b (decide (a > b))) := by
  simp [binA, binOp, Op.intCmp, ofSem, ofV1]
  rfl
theorem subJ (t : TypeId) (c : Bool) (a b : Int) (h : -9223372036854775808 ≤ a - b ∧ a - b ≤ 9223372036854775807) : binA P .sub t c (.i .i64 a) (.i .i64 b) = some (.i .i64 (a - b)) := by
  have e : binA P .sub t c (.i .i64 a) (.i .i64 b) = some (.i .i64 (IntKind.i64.wrap (a - b))) := by
    simp [binA, binOp, Op.intArith, ofSem, ofV1]
    rfl
  rw [e]; congr 2; simp [IntKind.wrap, IntKind.signed, IntKind.bits]; omega
theorem mulJ (t : TypeId) (c : Bool) (a b : Int) (h : -9223372036854775808 ≤ a * b ∧ a * b ≤ 9223372036854775807) : binA P .mul t c (.i .i64 a) (.i .i64 b) = some (.i .i64 (a * b)) := by
  have e : binA P .mul t c (.i .i64 a) (.i .i64 b) = some (.i .i64 (IntKind.i64.wrap (a * b))) := by
    simp [binA, binOp, Op.intArith, ofSem, ofV1]
    rfl
  rw [e]; congr 2; simp [IntKind.wrap, IntKind.signed, IntKind.bits]; omega
theorem shrJ (t : TypeId) (c : Bool) (a : Int) (n : Nat) (hn : n ≤ 64) : binA P .shr t c (.i .i64 a) (.i .i64 (n : Int)) = some (.i .i64 (a / (2 : Int) ^ n)) := by
  show ofSem (Op.shift .shr .i64 a .i64 (n : Int)) = _
  have h : Op.shift .shr .i64 a .i64 (n : Int) = pure (.int .i64 (a.fdiv (2 ^ n))) := by
    unfold Op.shift
    rw [if_neg (by omega)]
    simp only [Int.toNat_natCast, Nat.min_eq_left (show n ≤ IntKind.i64.bits from hn)]
  rw [h, Int.fdiv_eq_ediv_of_nonneg _ (by exact Int.le_of_lt (Int.pow_pos (by omega)))]
  rfl
theorem cvi64_8 (n : Int) : convA P 2 5 (.i .i64 n) = some (U8 (UInt8.ofNat (n % 256).toNat)) := by
  have e : convA P 2 5 (.i .i64 n) = some (.i .u8 (IntKind.u8.wrap n)) := by kernel_rfl
  rw [e, U8_wrap]
theorem fix_x {n : Int} {size : Nat} (hs : size ≤ 8) (H : Heap) : ∃ out H', CA P NS 35 [.i .i64 n, .i .i64 (size : Nat)] H (out, H') ∧ OutAt H.length H' out (be size n) ∧ Kp H H' := by
  have h0 := subJ 3 true (size : Nat) 1 (by omega)
  refine CA.wp (fn := Tryd.f35) (R := fun out H' => OutAt H.length H' out (be size n) ∧ Kp H H') (by kernel_rfl) rfl ?_
  dsimp only [Tryd.f35]
  dsimp only [List.length_cons, List.length_nil, List.cons_append, List.nil_append, Nat.reduceSub, Nat.reduceAdd, List.replicate]
  ((repeat with_reducible refine WP.seqs ?_); refine WP.rg ?_)
  ((repeat with_reducible refine WP.seqs ?_); refine WP.rg ?_)
  ((repeat with_reducible refine WP.seqs ?_); refine WP.rg ?_)
  ((repeat with_reducible refine WP.seqs ?_); first | refine WP.seq (WP.block ?_) | refine WP.block ?_)
  refine WP.loop (Inv := fun j fr H1 => ∃ (x2 x3 x4 x7 x8 x9 x10 x11 x12 x13 x14 x15 x16 x17 x18 x19 x20 x21 : AV), ∃ (out : AV) (m : Nat) (acc : B), fr = [.i .i64 n, .i .i64 (size : Nat), x2, x3, x4, out, .i .i64 ((m : Int) - 1), x7, x8, x9, x10, x11, x12, x13, x14, x15, x16, x17, x18, x19, x20, x21] ∧ m + j = size ∧ acc ++ be m n = be size n ∧ acc.length = j ∧ OutAt H.length H1 out acc ∧ Kp H H1) size ?_ size 0 _ _ (by omega) ?_
  rotate_left
  · exact ⟨_, _, _, _, _, _, _, _, _, _, _, _, _, _, _, _, _, _, _, size, [], rfl, rfl, rfl, rfl, .inl ⟨rfl, rfl⟩, Kp.refl H⟩
  clear h0
  intro j fr H1 hj ⟨x2, x3, x4, x7, x8, x9, x10, x11, x12, x13, x14, x15, x16, x17, x18, x19, x20, x21, out, m, acc, hfr, hm, hacc, hlen, ho, hk⟩
  subst hfr
  cases m with
  | zero =>
    have hg : binA P .geq 3 true (.i .i64 (((0 : Nat) : Int) - 1)) (.i .i64 0) = some (.b false) := by rw [geqI]; rfl
    have hacc : acc = be size n := by simpa [be] using hacc
    subst hacc
    generalize (((0 : Nat) : Int) - 1) = mi at hg
    ((repeat with_reducible refine WP.seqs ?_); refine WP.rg ?_)
    ((repeat with_reducible refine WP.seqs ?_); first | refine WP.seq (WP.condF rfl ?_) | refine WP.condF rfl ?_)
    refine WP.exit ?_; repeat (first | with_reducible refine Sq.n ?_ | with_reducible refine Sq.ret ?_ | with_reducible refine Sq.exit ?_ | with_reducible refine Bk.n ?_ | with_reducible refine Bk.ret ?_ | with_reducible refine Bk.exit ?_ | with_reducible refine Bk.ex' (by decide) ?_ | with_reducible refine Lp.ret ?_ | with_reducible refine Lp.exit ?_ | with_reducible refine Lx.exit ?_)
    ((repeat with_reducible refine WP.seqs ?_); refine WP.rg ?_)
    refine WP.ret ?_; repeat (first | with_reducible refine Sq.n ?_ | with_reducible refine Sq.ret ?_ | with_reducible refine Sq.exit ?_ | with_reducible refine Bk.n ?_ | with_reducible refine Bk.ret ?_ | with_reducible refine Bk.exit ?_ | with_reducible refine Bk.ex' (by decide) ?_ | with_reducible refine Lp.ret ?_ | with_reducible refine Lp.exit ?_ | with_reducible refine Lx.exit ?_)
    exact Fe.ret rfl ⟨ho, hk⟩
  | succ m =>
    have em : (((m + 1 : Nat) : Int) - 1) = ((m : Nat) : Int) := by omega
    have hg : binA P .geq 3 true (.i .i64 ((m : Nat) : Int)) (.i .i64 0) = some (.b true) := by rw [geqI]; simp
    have hml := mulJ 3 true 8 (m : Nat) (by omega)
    rw [show (8 : Int) * ((m : Nat) : Int) = ((8 * m : Nat) : Int) by simp] at hml
    have hsh := shrJ 2 false n (8 * m) (by omega)
    have hcv := cvi64_8 (n / (2 : Int) ^ (8 * m))
    have e8 : (2 : Int) ^ (8 * m) = 256 ^ m := by rw [Int.pow_mul]; rfl
    obtain ⟨sl, H2, out', H3, hb, ha, hs', ho', hk'⟩ := push_x (UInt8.ofNat ((n / (2 : Int) ^ (8 * m)) % 256).toNat) hk.1 ho (by omega)
    have hacc' : (acc ++ [UInt8.ofNat ((n / (2 : Int) ^ (8 * m)) % 256).toNat]) ++ be m n = be size n := by rw [← hacc, e8]; simp [be]
    have hsb := subJ 3 true (m : Nat) 1 (by omega)
    generalize UInt8.ofNat ((n / (2 : Int) ^ (8 * m)) % 256).toNat = y0 at hb hcv ho' hacc'
    generalize n / (2 : Int) ^ (8 * m) = ns at hsh hcv
    generalize U8 y0 = y at hb hcv
    rw [em]
    generalize ((8 * m : Nat) : Int) = m8 at hml hsh
    generalize hmi : ((m : Nat) : Int) = mi at hg hml hsb
    ((repeat with_reducible refine WP.seqs ?_); refine WP.rg ?_)
    ((repeat with_reducible refine WP.seqs ?_); first | refine WP.seq (WP.condT rfl ?_) | refine WP.condT rfl ?_)
    refine WP.skip ?_; repeat (first | with_reducible refine Sq.n ?_ | with_reducible refine Sq.ret ?_ | with_reducible refine Sq.exit ?_ | with_reducible refine Bk.n ?_ | with_reducible refine Bk.ret ?_ | with_reducible refine Bk.exit ?_ | with_reducible refine Bk.ex' (by decide) ?_ | with_reducible refine Lp.ret ?_ | with_reducible refine Lp.exit ?_ | with_reducible refine Lx.exit ?_)
    ((repeat with_reducible refine WP.seqs ?_); first | refine WP.seq (WP.block ?_) | refine WP.block ?_)
    refine WP.re ?_; repeat (first | with_reducible refine Sq.n ?_ | with_reducible refine Sq.ret ?_ | with_reducible refine Sq.exit ?_ | with_reducible refine Bk.n ?_ | with_reducible refine Bk.ret ?_ | with_reducible refine Bk.exit ?_ | with_reducible refine Bk.ex' (by decide) ?_ | with_reducible refine Lp.ret ?_ | with_reducible refine Lp.exit ?_ | with_reducible refine Lx.exit ?_)
    refine WP.re ?_; repeat (first | with_reducible refine Sq.n ?_ | with_reducible refine Sq.ret ?_ | with_reducible refine Sq.exit ?_ | with_reducible refine Bk.n ?_ | with_reducible refine Bk.ret ?_ | with_reducible refine Bk.exit ?_ | with_reducible refine Bk.ex' (by decide) ?_ | with_reducible refine Lp.ret ?_ | with_reducible refine Lp.exit ?_ | with_reducible refine Lx.exit ?_)
    refine Lp.n ⟨by omega, _, _, _, _, _, _, _, _, _, _, _, _, _, _, _, _, _, _, _, m, _, by rw [hmi], by omega, hacc', by simp [hlen], ho', hk.wt hk'⟩
end Go.Proofs.YtdanlkiojkimaaaDoor.Rd

namespace Go.Proofs.YtdanlkiojkimaaaDoor.Rd
open Go Go.Proofs.YtdanlkiojkimaaaDoor.Ax Go.Proofs.YtdanlkiojkimaaaDoor.Wire
set_option maxRecDepth 100000
set_option maxHeartbeats 1000000
abbrev S (l : B) : AV := .s (bst l)
theorem bst_size (l : B) : (bst l).size = l.length := by simp [bst, ByteArray.size]
theorem bst_ext (l : B) (a b : Nat) : (bst l).extract a b = bst ((l.take b).drop a) := by
  unfold bst
  apply ByteArray.ext
  apply Array.ext'
  simp [ByteArray.data_extract, Array.toList_extract, List.extract_eq_take_drop]
  rw [List.drop_take]
theorem ustr : P.underlying 9 = some .string := by kernel_rfl
theorem elstr : elemA P 9 = none := by kernel_rfl
theorem s_len (l : B) : lenA P 9 (S l) = some (.i .i64 (l.length : Nat)) := by
  unfold lenA
  rw [ustr]
  simp [bst_size]
theorem s_lh (l : B) {a b : Nat} (h : a ≤ b) (hb : b ≤ l.length) : sliceA P 9 (S l) (some (.i .i64 (a : Nat))) (some (.i .i64 (b : Nat))) = some (S ((l.take b).drop a)) := by
  unfold sliceA
  rw [elstr]
  simp only [sliceStrA, ustr]
  rw [if_pos ⟨by omega, by omega, by rw [bst_size]; omega⟩]
  simp [bst_ext]
theorem s_hi (l : B) {b : Nat} (hb : b ≤ l.length) : sliceA P 9 (S l) none (some (.i .i64 (b : Nat))) = some (S (l.take b)) := by
  unfold sliceA
  rw [elstr]
  simp only [sliceStrA, ustr]
  rw [if_pos ⟨by omega, by rw [bst_size]; omega⟩]
  simp [bst_ext]
theorem s_lo (l : B) {a : Nat} (ha : a ≤ l.length) : sliceA P 9 (S l) (some (.i .i64 (a : Nat))) none = some (S (l.drop a)) := by
  unfold sliceA
  rw [elstr]
  simp only [sliceStrA, ustr]
  rw [if_pos ⟨by omega, by rw [bst_size]; omega⟩, bst_size]
  simp [bst_ext]
theorem bst_inj {l m : B} (h : bst l = bst m) : l = m := by
  unfold bst at h
  simpa using h
theorem bst_list (l : B) : (bst l).toList = l := by
  have h := first_s [] l
  simp only [firstA, Option.some.injEq, Prod.mk.injEq] at h
  have h2 := h.2
  apply List.ext_getElem?
  intro i
  have := congrArg (fun x => x[i]?) h2
  simp only [u8s, List.getElem?_map] at this
  cases h1 : (bst l).toList[i]? with
  | none => rw [h1] at this; simp at this; cases h3 : l[i]? with
    | none => rfl
    | some y => rw [h3] at this; cases this
  | some x =>
    rw [h1] at this
    cases h3 : l[i]? with
    | none => rw [h3] at this; cases this
    | some y =>
      rw [h3] at this
      simp only [Option.map_some, Option.some.injEq, U8, AV.i.injEq, true_and] at this
      congr 1
      exact UInt8.toNat_inj.1 (by omega)
theorem s_eq (t : TypeId) (c : Bool) (l m : B) : binA P .eql t c (S l) (S m) = some (.b (decide (l = m))) := by
  have e : binA P .eql t c (S l) (S m) = some (.b ((bst l).toList == (bst m).toList)) := by
    simp [binA, binOp, Op.stringOp, ofSem, ofV1]
    rfl
  rw [e, bst_list, bst_list]
  congr 2
  by_cases h : l = m
  · subst h; simp
  · rw [decide_eq_false h]; simpa using h
theorem s_ix {l : B} {i : Nat} {c : UInt8} (h : l[i]? = some c) : indexA P 9 (S l) (.i .i64 (i : Nat)) = some (U8 c) := by
  unfold indexA
  simp only [ustr]
  rw [if_pos (by omega)]
  have : (bst l)[((i : Nat) : Int).toNat]? = some c := by
    simp only [Int.toNat_natCast]
    have hi := (List.getElem?_eq_some_iff.1 h).1
    rw [getElem?_pos (bst l) i (by show i < (bst l).size; rw [bst_size]; exact hi)]
    congr 1
    have := (List.getElem?_eq_some_iff.1 h).2
    rw [← this]
    simp [bst, ByteArray.getElem_eq_getElem_data]
  rw [this]; rfl
theorem addn (t : TypeId) (c : Bool) (a b : Nat) (h : a + b < 9223372036854775808) : binA P .add t c (.i .i64 (a : Nat)) (.i .i64 (b : Nat)) = some (.i .i64 ((a + b : Nat) : Int)) := by
  rw [add]
  simp [IntKind.wrap, IntKind.signed, IntKind.bits]
  omega
section
variable {S : CallA} {fr fr1 : List AV} {H H1 : Heap} {ops : Array Oper} {l : List Oper} {v : AV}
theorem op_convB {s d : TypeId} {x : Operand} {a : AV} (h : ev fr x = some a) (h0 : convA P s d a = none) (hs : strA P H s d a = none) (hv : bytesOfA P H s d a = some (v, H1)) : opA P (.convert s d x) fr H = some (v, H1) := by simp [opA, h, h0, hs, hv]
theorem OS.sz {o : Oper} {r : List AV × Heap} (hg : wantA ops fr o.guard = some true) (hc : isCall o.op = false) (h2 : OS P S ops l (putA fr o.dst v) H1 r)
    (h1 : opA P o.op fr H = some (v, H1) := by first | exact opy | with_reducible exact op_sliceLH (by with_unfolding_all exact rfl) (by with_unfolding_all exact rfl) (by with_unfolding_all exact rfl) (by assumption) | with_reducible exact op_sliceLo (by with_unfolding_all exact rfl) (by with_unfolding_all exact rfl) (by assumption) | with_reducible exact op_index (by with_unfolding_all exact rfl) (by with_unfolding_all exact rfl) (by assumption) | with_reducible exact op_convS (by with_unfolding_all exact rfl) (by assumption) (by assumption) | with_reducible exact op_convB (by with_unfolding_all exact rfl) (by assumption) (by assumption) (by assumption) | with_reducible exact op_appendS (by with_unfolding_all exact rfl) (by with_unfolding_all exact rfl) ustr (by assumption) | with_reducible exact op_iface (by with_unfolding_all exact rfl) (by assumption) | with_reducible exact op_nilCheck (by with_unfolding_all exact rfl)) : OS P S ops (o :: l) fr H r := OS.opg hg hc h1 h2
theorem WP.rz {id : Nat} {c : Code} {Q : Ends} (k : WP S c fr1 H1 Q)
    (h : OS P S ops ops.toList fr H (fr1, H1) := by repeat (first | with_reducible exact OS.nil | (refine OS.sz rfl rfl ?_; dsimp only [AV.cells, putA, List.set_cons_zero, List.set_cons_succ]) | (refine OS.skip rfl ?_; dsimp only [AV.cells, putA, List.set_cons_zero, List.set_cons_succ]) | (refine OS.cl rfl rfl rfl ?_; dsimp only [AV.cells, putA, List.set_cons_zero, List.set_cons_succ]))) : WP S (.seq (.region id ops false) c) fr H Q := by
  obtain ⟨x, fr', H', h1, h2⟩ := k
  exact ⟨x, fr', H', RU.seq (RU.region h) h1, h2⟩
theorem WP.rze {id : Nat} {Q : Ends} (k : Q .normal fr1 H1)
    (h : OS P S ops ops.toList fr H (fr1, H1) := by repeat (first | with_reducible exact OS.nil | (refine OS.sz rfl rfl ?_; dsimp only [AV.cells, putA, List.set_cons_zero, List.set_cons_succ]) | (refine OS.skip rfl ?_; dsimp only [AV.cells, putA, List.set_cons_zero, List.set_cons_succ]) | (refine OS.cl rfl rfl rfl ?_; dsimp only [AV.cells, putA, List.set_cons_zero, List.set_cons_succ]))) : WP S (.region id ops false) fr H Q := ⟨_, _, _, RU.region h, k⟩
end
end Go.Proofs.YtdanlkiojkimaaaDoor.Rd

namespace Go.Proofs.YtdanlkiojkimaaaDoor.Rd
open Go Go.Proofs.YtdanlkiojkimaaaDoor.Ax Go.Proofs.YtdanlkiojkimaaaDoor.Wire
set_option maxRecDepth 100000
set_option maxHeartbeats 1000000
def IdxOf (l : B) (c : UInt8) (v : AV) : Prop := (c ∉ l ∧ v = .i .i64 (-1)) ∨ ∃ i : Nat, i < l.length ∧ v = .i .i64 (i : Nat) ∧ l[i]? = some c ∧ c ∉ l.take i
theorem one_at {l : B} {j : Nat} {c : UInt8} (h : l[j]? = some c) : (l.take (j + 1)).drop j = [c] := by
  rw [List.take_add_one, h]
  have hj := (List.getElem?_eq_some_iff.1 h).1
  simp only [Option.toList_some]
  rw [List.drop_append_of_le_length (by simp; omega), List.drop_eq_nil_of_le (by simp; omega)]
  rfl
theorem index_x (H : Heap) (l : B) (c : UInt8) (hl : l.length ≤ 1099511627776) : ∃ v H', CA P NS 161 [S l, S [c]] H (v, H') ∧ (IdxOf l c v ∧ H' = H) := by
  have hl0 := s_len l
  have hl1 : lenA P 9 (S [c]) = some (.i .i64 1) := s_len [c]
  refine CA.wp (fn := Tryd.f161) (R := fun v H' => IdxOf l c v ∧ H' = H) (by kernel_rfl) rfl ?_
  dsimp only [Tryd.f161]
  dsimp only [List.length_cons, List.length_nil, List.cons_append, List.nil_append, Nat.reduceSub, Nat.reduceAdd, List.replicate]
  ((repeat with_reducible refine WP.seqs ?_); refine WP.rz ?_)
  ((repeat with_reducible refine WP.seqs ?_); refine WP.rz ?_)
  ((repeat with_reducible refine WP.seqs ?_); first | refine WP.seq (WP.block ?_) | refine WP.block ?_)
  refine WP.loop (Inv := fun j fr H1 => ∃ (x2 x3 x4 x6 x7 x8 x9 x10 x11 x12 x13 x14 x15 x16 x17 x18 x19 x20 x21 x22 x23 x24 : AV), H1 = H ∧ j ≤ l.length ∧ c ∉ l.take j ∧ fr = [S l, S [c], x2, x3, x4, .i .i64 (j : Nat), x6, x7, x8, x9, x10, x11, x12, x13, x14, x15, x16, x17, x18, x19, x20, x21, x22, x23, x24]) l.length ?_ l.length 0 _ _ (by omega) ?_
  rotate_left
  · exact ⟨_, _, _, _, _, _, _, _, _, _, _, _, _, _, _, _, _, _, _, _, _, _, rfl, by omega, by simp, rfl⟩
  intro j fr H1 hj ⟨x2, x3, x4, x6, x7, x8, x9, x10, x11, x12, x13, x14, x15, x16, x17, x18, x19, x20, x21, x22, x23, x24, hH, hjl, hno, hfr⟩
  subst hfr
  subst hH
  have ha := addn 3 false j 1 (by omega)
  have ha2 := addn 3 true j 1 (by omega)
  have hq := leqI 3 false ((j + 1 : Nat) : Int) (l.length : Nat)
  have ha : binA P .add 3 false (.i .i64 (j : Nat)) (.i .i64 1) = some (.i .i64 ((j + 1 : Nat) : Int)) := ha
  have ha2 : binA P .add 3 true (.i .i64 (j : Nat)) (.i .i64 1) = some (.i .i64 ((j + 1 : Nat) : Int)) := ha2
  by_cases hlt : j < l.length
  · rw [decide_eq_true (by omega)] at hq
    obtain ⟨b, hb⟩ : ∃ b, l[j]? = some b := ⟨l[j], by simp [hlt]⟩
    have hsl := s_lh l (show j ≤ j + 1 by omega) (by omega)
    rw [one_at hb] at hsl
    have he := s_eq 9 false [b] [c]
    by_cases hbc : b = c
    · subst hbc
      rw [decide_eq_true rfl] at he
      have hR : IdxOf l b (.i .i64 (j : Nat)) ∧ H1 = H1 := ⟨.inr ⟨j, hlt, rfl, hb, hno⟩, rfl⟩
      generalize ((j + 1 : Nat) : Int) = j1 at ha ha2 hq hsl
      generalize ((j : Nat) : Int) = ji at ha ha2 hsl hR ⊢
      generalize ((l.length : Nat) : Int) = ni at hq hl0
      ((repeat with_reducible refine WP.seqs ?_); refine WP.rz ?_)
      ((repeat with_reducible refine WP.seqs ?_); first | refine WP.seq (WP.condT rfl ?_) | refine WP.condT rfl ?_)
      refine WP.skip ?_; repeat (first | with_reducible refine Sq.n ?_ | with_reducible refine Sq.ret ?_ | with_reducible refine Sq.exit ?_ | with_reducible refine Bk.n ?_ | with_reducible refine Bk.ret ?_ | with_reducible refine Bk.exit ?_ | with_reducible refine Bk.ex' (by decide) ?_ | with_reducible refine Lp.ret ?_ | with_reducible refine Lp.exit ?_ | with_reducible refine Lx.exit ?_)
      ((repeat with_reducible refine WP.seqs ?_); first | refine WP.seq (WP.block ?_) | refine WP.block ?_)
      ((repeat with_reducible refine WP.seqs ?_); refine WP.rz ?_)
      ((repeat with_reducible refine WP.seqs ?_); first | refine WP.seq (WP.condT rfl ?_) | refine WP.condT rfl ?_)
      ((repeat with_reducible refine WP.seqs ?_); refine WP.rz ?_)
      refine WP.ret ?_; repeat (first | with_reducible refine Sq.n ?_ | with_reducible refine Sq.ret ?_ | with_reducible refine Sq.exit ?_ | with_reducible refine Bk.n ?_ | with_reducible refine Bk.ret ?_ | with_reducible refine Bk.exit ?_ | with_reducible refine Bk.ex' (by decide) ?_ | with_reducible refine Lp.ret ?_ | with_reducible refine Lp.exit ?_ | with_reducible refine Lx.exit ?_)
      exact Fe.r1 rfl hR
    · rw [decide_eq_false (by simpa using hbc)] at he
      have hno' : c ∉ l.take (j + 1) := by
        rw [List.take_add_one, hb]
        simp only [Option.toList_some, List.mem_append, List.mem_singleton, not_or]
        exact ⟨hno, fun e => hbc e.symm⟩
      have hI : j < l.length ∧ (j + 1 ≤ l.length ∧ c ∉ l.take (j + 1)) := ⟨hlt, by omega, hno'⟩
      have hj1 : (((j + 1 : Nat) : Int)) = ((j + 1 : Nat) : Int) := rfl
      generalize hji : ((j : Nat) : Int) = ji at ha ha2 hsl
      generalize hj1i : ((j + 1 : Nat) : Int) = j1 at ha ha2 hq hsl
      generalize ((l.length : Nat) : Int) = ni at hq hl0
      ((repeat with_reducible refine WP.seqs ?_); refine WP.rz ?_)
      ((repeat with_reducible refine WP.seqs ?_); first | refine WP.seq (WP.condT rfl ?_) | refine WP.condT rfl ?_)
      refine WP.skip ?_; repeat (first | with_reducible refine Sq.n ?_ | with_reducible refine Sq.ret ?_ | with_reducible refine Sq.exit ?_ | with_reducible refine Bk.n ?_ | with_reducible refine Bk.ret ?_ | with_reducible refine Bk.exit ?_ | with_reducible refine Bk.ex' (by decide) ?_ | with_reducible refine Lp.ret ?_ | with_reducible refine Lp.exit ?_ | with_reducible refine Lx.exit ?_)
      ((repeat with_reducible refine WP.seqs ?_); first | refine WP.seq (WP.block ?_) | refine WP.block ?_)
      ((repeat with_reducible refine WP.seqs ?_); refine WP.rz ?_)
      ((repeat with_reducible refine WP.seqs ?_); first | refine WP.seq (WP.condF rfl ?_) | refine WP.condF rfl ?_)
      refine WP.skip ?_; repeat (first | with_reducible refine Sq.n ?_ | with_reducible refine Sq.ret ?_ | with_reducible refine Sq.exit ?_ | with_reducible refine Bk.n ?_ | with_reducible refine Bk.ret ?_ | with_reducible refine Bk.exit ?_ | with_reducible refine Bk.ex' (by decide) ?_ | with_reducible refine Lp.ret ?_ | with_reducible refine Lp.exit ?_ | with_reducible refine Lx.exit ?_)
      refine WP.rze ?_; repeat (first | with_reducible refine Sq.n ?_ | with_reducible refine Sq.ret ?_ | with_reducible refine Sq.exit ?_ | with_reducible refine Bk.n ?_ | with_reducible refine Bk.ret ?_ | with_reducible refine Bk.exit ?_ | with_reducible refine Bk.ex' (by decide) ?_ | with_reducible refine Lp.ret ?_ | with_reducible refine Lp.exit ?_ | with_reducible refine Lx.exit ?_)
      subst hj1i
      exact ⟨hI.1, _, _, _, _, _, _, _, _, _, _, _, _, _, _, _, _, _, _, _, _, _, _, rfl, hI.2.1, hI.2.2, rfl⟩
  · rw [decide_eq_false (by omega)] at hq
    obtain rfl : j = l.length := by omega
    rw [List.take_length] at hno
    have hR : IdxOf l c (.i .i64 (-1)) ∧ H1 = H1 := ⟨.inl ⟨hno, rfl⟩, rfl⟩
    generalize ((l.length + 1 : Nat) : Int) = j1 at ha hq
    generalize ((l.length : Nat) : Int) = ni at hq hl0 ha ⊢
    ((repeat with_reducible refine WP.seqs ?_); refine WP.rz ?_)
    ((repeat with_reducible refine WP.seqs ?_); first | refine WP.seq (WP.condF rfl ?_) | refine WP.condF rfl ?_)
    refine WP.exit ?_; repeat (first | with_reducible refine Sq.n ?_ | with_reducible refine Sq.ret ?_ | with_reducible refine Sq.exit ?_ | with_reducible refine Bk.n ?_ | with_reducible refine Bk.ret ?_ | with_reducible refine Bk.exit ?_ | with_reducible refine Bk.ex' (by decide) ?_ | with_reducible refine Lp.ret ?_ | with_reducible refine Lp.exit ?_ | with_reducible refine Lx.exit ?_)
    ((repeat with_reducible refine WP.seqs ?_); refine WP.rz ?_)
    refine WP.ret ?_; repeat (first | with_reducible refine Sq.n ?_ | with_reducible refine Sq.ret ?_ | with_reducible refine Sq.exit ?_ | with_reducible refine Bk.n ?_ | with_reducible refine Bk.ret ?_ | with_reducible refine Bk.exit ?_ | with_reducible refine Bk.ex' (by decide) ?_ | with_reducible refine Lp.ret ?_ | with_reducible refine Lp.exit ?_ | with_reducible refine Lx.exit ?_)
    exact Fe.r1 rfl hR
theorem filt_no {l : B} {c : UInt8} (h : c ∉ l) : l.filter (· != c) = l := by
  rw [List.filter_eq_self]
  intro a ha
  simp only [bne_iff_ne, ne_eq]
  exact fun e => h (e ▸ ha)
theorem filt_at {r : B} {c : UInt8} {i : Nat} (hc : r[i]? = some c) (h : c ∉ r.take i) : r.filter (· != c) = r.take i ++ (r.drop (i + 1)).filter (· != c) := by
  have hi := (List.getElem?_eq_some_iff.1 hc).1
  have e : r = r.take i ++ (c :: r.drop (i + 1)) := by
    have := List.getElem?_eq_some_iff.1 hc
    rw [← this.2, ← List.drop_eq_getElem_cons hi, List.take_append_drop]
  conv => lhs; rw [e]
  rw [List.filter_append, filt_no h]
  simp
theorem slconv {H : Heap} {out : AV} {bs : B} {L : Nat} (h : OutAt L H out bs) : convA P 22 9 out = none ∧ strA P H 22 9 out = some (S bs) := by
  have hb := OutAt.bytes h
  exact ⟨cvB_str _ (BytesAt.sl_of hb), by rw [strA_eq, hb.str]; rfl⟩
theorem replace_x (H : Heap) (l : B) (c : UInt8) (hl : l.length ≤ 1048576) : ∃ v H', CA P NS 134 [S l, S [c], S []] H (v, H') ∧ (v = S (l.filter (· != c)) ∧ Kp H H') := by
  have hl1 : lenA P 9 (S [c]) = some (.i .i64 1) := s_len [c]
  have h10 : binA P .eql 3 true (.i .i64 1) (.i .i64 0) = some (.b false) := by rw [eqlI]; rfl
  refine CA.wp (fn := Tryd.f134) (R := fun v H' => v = S (l.filter (· != c)) ∧ Kp H H') (by kernel_rfl) rfl ?_
  dsimp only [Tryd.f134]
  dsimp only [List.length_cons, List.length_nil, List.cons_append, List.nil_append, Nat.reduceSub, Nat.reduceAdd, List.replicate]
  ((repeat with_reducible refine WP.seqs ?_); refine WP.rz ?_)
  ((repeat with_reducible refine WP.seqs ?_); refine WP.rz ?_)
  ((repeat with_reducible refine WP.seqs ?_); refine WP.rz ?_)
  ((repeat with_reducible refine WP.seqs ?_); first | refine WP.seq (WP.condF rfl ?_) | refine WP.condF rfl ?_)
  refine WP.skip ?_; repeat (first | with_reducible refine Sq.n ?_ | with_reducible refine Sq.ret ?_ | with_reducible refine Sq.exit ?_ | with_reducible refine Bk.n ?_ | with_reducible refine Bk.ret ?_ | with_reducible refine Bk.exit ?_ | with_reducible refine Bk.ex' (by decide) ?_ | with_reducible refine Lp.ret ?_ | with_reducible refine Lp.exit ?_ | with_reducible refine Lx.exit ?_)
  ((repeat with_reducible refine WP.seqs ?_); first | refine WP.seq (WP.block ?_) | refine WP.block ?_)
  refine WP.loop (Inv := fun j fr H1 => ∃ (x3 x4 x5 x6 x8 x9 x10 x11 x12 x13 x14 x15 x16 x17 x18 x19 x20 x21 x22 x23 x24 x25 x26 x27 x28 x29 x30 x31 x32 x33 x34 x35 x36 x37 x38 x39 x40 x41 x42 x43 x44 x45 x46 x47 x48 x49 x50 x51 x52 x53 x54 x55 x56 x57 x58 x59 x60 x61 x62 x63 x64 x65 x66 : AV), ∃ (r : B) (out : AV) (acc : B), r.length + j ≤ l.length ∧ acc ++ r.filter (· != c) = l.filter (· != c) ∧ acc.length + r.length ≤ l.length ∧ OutAt H.length H1 out acc ∧ Kp H H1 ∧ fr = [S r, S [c], S [], x3, x4, x5, x6, out, x8, x9, x10, x11, x12, x13, x14, x15, x16, x17, x18, x19, x20, x21, x22, x23, x24, x25, x26, x27, x28, x29, x30, x31, x32, x33, x34, x35, x36, x37, x38, x39, x40, x41, x42, x43, x44, x45, x46, x47, x48, x49, x50, x51, x52, x53, x54, x55, x56, x57, x58, x59, x60, x61, x62, x63, x64, x65, x66]) l.length ?_ l.length 0 _ _ (by omega) ?_
  rotate_left
  · exact ⟨_, _, _, _, _, _, _, _, _, _, _, _, _, _, _, _, _, _, _, _, _, _, _, _, _, _, _, _, _, _, _, _, _, _, _, _, _, _, _, _, _, _, _, _, _, _, _, _, _, _, _, _, _, _, _, _, _, _, _, _, _, _, _, l, .s0, [], by omega, by simp, by simp, .inl ⟨rfl, rfl⟩, Kp.refl H, rfl⟩
  intro j fr H1 hj ⟨x3, x4, x5, x6, x8, x9, x10, x11, x12, x13, x14, x15, x16, x17, x18, x19, x20, x21, x22, x23, x24, x25, x26, x27, x28, x29, x30, x31, x32, x33, x34, x35, x36, x37, x38, x39, x40, x41, x42, x43, x44, x45, x46, x47, x48, x49, x50, x51, x52, x53, x54, x55, x56, x57, x58, x59, x60, x61, x62, x63, x64, x65, x66, r, out, acc, hr, hacc, hlen, ho, hk, hfr⟩
  subst hfr
  obtain ⟨iv, H2, hix, hidx, rfl⟩ := index_x H1 r c (by omega)
  rcases hidx with ⟨hno, rfl⟩ | ⟨i, hi, rfl, hc, hno⟩
  · have hg : binA P .lss 3 true (.i .i64 (-1)) (.i .i64 0) = some (.b true) := by rw [lssI]; rfl
    obtain ⟨out1, H3, happ, ho1, hk1⟩ := ap_bytes (str := true) hk.1 ho (first_s H2 r) (by omega)
    obtain ⟨h0, hs⟩ := slconv ho1
    have hres : S (acc ++ r) = S (l.filter (· != c)) ∧ Kp H H3 := by
      refine ⟨?_, hk.wt hk1⟩
      rw [← hacc, filt_no hno]
    generalize S (l.filter (· != c)) = goal at hres ⊢
    ((repeat with_reducible refine WP.seqs ?_); first | refine WP.seq (WP.block ?_) | refine WP.block ?_)
    ((repeat with_reducible refine WP.seqs ?_); refine WP.rz ?_)
    ((repeat with_reducible refine WP.seqs ?_); refine WP.rz ?_)
    ((repeat with_reducible refine WP.seqs ?_); first | refine WP.seq (WP.condT rfl ?_) | refine WP.condT rfl ?_)
    ((repeat with_reducible refine WP.seqs ?_); refine WP.rz ?_)
    refine WP.ret ?_; repeat (first | with_reducible refine Sq.n ?_ | with_reducible refine Sq.ret ?_ | with_reducible refine Sq.exit ?_ | with_reducible refine Bk.n ?_ | with_reducible refine Bk.ret ?_ | with_reducible refine Bk.exit ?_ | with_reducible refine Bk.ex' (by decide) ?_ | with_reducible refine Lp.ret ?_ | with_reducible refine Lp.exit ?_ | with_reducible refine Lx.exit ?_)
    exact Fe.r1 rfl hres
  · have hg : binA P .lss 3 true (.i .i64 (i : Nat)) (.i .i64 0) = some (.b false) := by rw [lssI]; simp
    have hsl := s_hi r (show i ≤ r.length by omega)
    obtain ⟨out1, H3, happ, ho1, hk1⟩ := ap_bytes (str := true) hk.1 ho (first_s H2 (r.take i)) (by simp; omega)
    have hk3 := hk.wt hk1
    obtain ⟨out2, H4, happ2, ho2, hk2⟩ := ap_bytes (str := true) hk3.1 ho1 (first_s H3 []) (by simp; omega)
    have hk4 := hk3.wt hk2
    have hadd : binA P .add 3 false (.i .i64 (i : Nat)) (.i .i64 1) = some (.i .i64 ((i + 1 : Nat) : Int)) := addn 3 false i 1 (by omega)
    have hlo := s_lo r (show i + 1 ≤ r.length by omega)
    have hI : j < l.length ∧ ((r.drop (i + 1)).length + (j + 1) ≤ l.length ∧ (acc ++ r.take i ++ []) ++ (r.drop (i + 1)).filter (· != c) = l.filter (· != c) ∧ (acc ++ r.take i ++ []).length + (r.drop (i + 1)).length ≤ l.length) := by
      refine ⟨by omega, by simp; omega, ?_, by simp; omega⟩
      rw [← hacc, filt_at hc hno]; simp
    have happ2 : appendA P H3 22 true out1 (S []) = some (out2, H4) := happ2
    generalize ((i + 1 : Nat) : Int) = i1 at hadd hlo
    generalize ((i : Nat) : Int) = ii at hix hg hsl hadd
    ((repeat with_reducible refine WP.seqs ?_); first | refine WP.seq (WP.block ?_) | refine WP.block ?_)
    ((repeat with_reducible refine WP.seqs ?_); refine WP.rz ?_)
    ((repeat with_reducible refine WP.seqs ?_); refine WP.rz ?_)
    ((repeat with_reducible refine WP.seqs ?_); first | refine WP.seq (WP.condF rfl ?_) | refine WP.condF rfl ?_)
    refine WP.skip ?_; repeat (first | with_reducible refine Sq.n ?_ | with_reducible refine Sq.ret ?_ | with_reducible refine Sq.exit ?_ | with_reducible refine Bk.n ?_ | with_reducible refine Bk.ret ?_ | with_reducible refine Bk.exit ?_ | with_reducible refine Bk.ex' (by decide) ?_ | with_reducible refine Lp.ret ?_ | with_reducible refine Lp.exit ?_ | with_reducible refine Lx.exit ?_)
    ((repeat with_reducible refine WP.seqs ?_); refine WP.rz ?_)
    refine WP.rze ?_; repeat (first | with_reducible refine Sq.n ?_ | with_reducible refine Sq.ret ?_ | with_reducible refine Sq.exit ?_ | with_reducible refine Bk.n ?_ | with_reducible refine Bk.ret ?_ | with_reducible refine Bk.exit ?_ | with_reducible refine Bk.ex' (by decide) ?_ | with_reducible refine Lp.ret ?_ | with_reducible refine Lp.exit ?_ | with_reducible refine Lx.exit ?_)
    exact ⟨hI.1, _, _, _, _, _, _, _, _, _, _, _, _, _, _, _, _, _, _, _, _, _, _, _, _, _, _, _, _, _, _, _, _, _, _, _, _, _, _, _, _, _, _, _, _, _, _, _, _, _, _, _, _, _, _, _, _, _, _, _, _, _, _, _, r.drop (i + 1), out2, acc ++ r.take i ++ [], hI.2.1, hI.2.2.1, hI.2.2.2, ho2, hk4, rfl⟩
end Go.Proofs.YtdanlkiojkimaaaDoor.Rd

