/-
  A TEXT MADE PLAIN, as the reference does it: spec.Normal.
-/
import Derived.Test.YtdanlkiojkimaaaDoorQTrLeafB
import Derived.Test.YtdanlkiojkimaaaDoorQTxPlain
set_option linter.constructorNameAsVariable false
set_option linter.unusedVariables false
set_option linter.unusedSimpArgs false
namespace Go.Proofs.YtdanlkiojkimaaaDoor.Rd
open Go Go.Proofs.YtdanlkiojkimaaaDoor.Ax Go.Proofs.YtdanlkiojkimaaaDoor.Wire
set_option maxRecDepth 100000
set_option maxHeartbeats 2000000
theorem WP.loopX {S : CallA} {b : Code} {Q : Ends} {Inv : Nat → List AV → Heap → Prop} {Post : List AV → Heap → Prop} {id : Nat} (n : Nat) (step : ∀ j fr H, j ≤ n → Inv j fr H → WP S b fr H (fun x fr' H' => (x = .normal ∧ j < n ∧ Inv (j + 1) fr' H') ∨ (x = .exit id ∧ Post fr' H'))) (post : ∀ fr H, Post fr H → Q (.exit id) fr H) {fr : List AV} {H : Heap} (h : Inv 0 fr H) : WP S (.loop b) fr H Q :=
  WP.loop n (fun j fr H hj hi => (step j fr H hj hi).mono fun x fr' H' hx => by
    rcases hx with ⟨rfl, h1, h2⟩ | ⟨rfl, h1⟩
    · exact ⟨h1, h2⟩
    · exact post _ _ h1) n 0 fr H (by omega) h
theorem neqB (t : TypeId) (c : Bool) (a : UInt8) (n : Nat) : binA P .neq t c (U8 a) (.i .u8 (n : Nat)) = some (.b (decide (a.toNat ≠ n))) := by
  have e : binA P .neq t c (U8 a) (.i .u8 (n : Nat)) = some (.b (decide ((a.toNat : Int) ≠ (n : Int)))) := by
    simp [U8, binA, binOp, Op.intCmp, ofSem, ofV1]
    rfl
  rw [e]; congr 2; simp; omega
theorem eqlB (t : TypeId) (c : Bool) (a : UInt8) (n : Nat) : binA P .eql t c (U8 a) (.i .u8 (n : Nat)) = some (.b (decide (a.toNat = n))) := by
  have e : binA P .eql t c (U8 a) (.i .u8 (n : Nat)) = some (.b (decide ((a.toNat : Int) = (n : Int)))) := by
    simp [U8, binA, binOp, Op.intCmp, ofSem, ofV1]
    rfl
  rw [e]; congr 2; simp; omega
theorem geqB (t : TypeId) (c : Bool) (a : UInt8) (n : Nat) : binA P .geq t c (U8 a) (.i .u8 (n : Nat)) = some (.b (decide (n ≤ a.toNat))) := by
  unfold U8; rw [geq]; congr 2; simp
theorem leqB (t : TypeId) (c : Bool) (a : UInt8) (n : Nat) : binA P .leq t c (U8 a) (.i .u8 (n : Nat)) = some (.b (decide (a.toNat ≤ n))) := by
  unfold U8; rw [leq]; congr 2; simp
theorem addB32 (t : TypeId) (c : Bool) (a : UInt8) (h : a.toNat ≤ 90) : binA P .add t c (U8 a) (.i .u8 32) = some (U8 (a + 32)) := by
  unfold U8; rw [add]
  have : (a + 32).toNat = a.toNat + 32 := by rw [UInt8.toNat_add]; simp; omega
  rw [this]
  simp [IntKind.wrap, IntKind.signed, IntKind.bits]; omega
theorem sp_iff (c : UInt8) : Lib.isSp c = (decide (c.toNat = 32) || (decide (9 ≤ c.toNat) && decide (c.toNat ≤ 13))) := by
  have := all_b (fun b => Lib.isSp b == (decide (b.toNat = 32) || (decide (9 ≤ b.toNat) && decide (b.toNat ≤ 13)))) (by decide +kernel) c
  simpa using this
theorem blank_x (H : Heap) (c : UInt8) : CA P NS 88 [U8 c] H (.b (Lib.isSp c), H) := by
  have key : ∃ v H', CA P NS 88 [U8 c] H (v, H') ∧ (v = .b (Lib.isSp c) ∧ H' = H) := by
    have h1 : binA P .eql 5 true (U8 c) (.i .u8 32) = some (.b (decide (c.toNat = 32))) := eqlB 5 true c 32
    have h2 : binA P .geq 5 true (U8 c) (.i .u8 9) = some (.b (decide (9 ≤ c.toNat))) := geqB 5 true c 9
    have h3 : binA P .leq 5 true (U8 c) (.i .u8 13) = some (.b (decide (c.toNat ≤ 13))) := leqB 5 true c 13
    have hs := sp_iff c
    refine CA.wp (fn := Tryd.f88) (R := fun v H' => v = .b (Lib.isSp c) ∧ H' = H) (by kernel_rfl) rfl ?_
    generalize Lib.isSp c = s at hs ⊢
    cases c1 : decide (c.toNat = 32) with
    | true =>
      rw [c1] at h1 hs
      have hs : s = true := by simpa using hs
      subst hs
      generalize U8 c = y at h1 ⊢
      dsimp only [Tryd.f88]
      dsimp only [List.length_cons, List.length_nil, List.cons_append, List.nil_append, Nat.reduceSub, Nat.reduceAdd, List.replicate]
      ((repeat with_reducible refine WP.seqs ?_); refine WP.rz ?_)
      ((repeat with_reducible refine WP.seqs ?_); refine WP.rz ?_)
      refine WP.ret ?_; repeat (first | with_reducible refine Sq.n ?_ | with_reducible refine Sq.ret ?_ | with_reducible refine Sq.exit ?_ | with_reducible refine Bk.n ?_ | with_reducible refine Bk.ret ?_ | with_reducible refine Bk.exit ?_ | with_reducible refine Bk.ex' (by decide) ?_ | with_reducible refine Lp.ret ?_ | with_reducible refine Lp.exit ?_ | with_reducible refine Lx.exit ?_)
      exact Fe.r1 rfl ⟨rfl, rfl⟩
    | false =>
      rw [c1] at h1 hs
      cases c2 : decide (9 ≤ c.toNat) with
      | false =>
        rw [c2] at h2 hs
        have hs : s = false := by simpa using hs
        subst hs
        generalize U8 c = y at h1 h2 ⊢
        dsimp only [Tryd.f88]
        dsimp only [List.length_cons, List.length_nil, List.cons_append, List.nil_append, Nat.reduceSub, Nat.reduceAdd, List.replicate]
        ((repeat with_reducible refine WP.seqs ?_); refine WP.rz ?_)
        ((repeat with_reducible refine WP.seqs ?_); refine WP.rz ?_)
        refine WP.ret ?_; repeat (first | with_reducible refine Sq.n ?_ | with_reducible refine Sq.ret ?_ | with_reducible refine Sq.exit ?_ | with_reducible refine Bk.n ?_ | with_reducible refine Bk.ret ?_ | with_reducible refine Bk.exit ?_ | with_reducible refine Bk.ex' (by decide) ?_ | with_reducible refine Lp.ret ?_ | with_reducible refine Lp.exit ?_ | with_reducible refine Lx.exit ?_)
        exact Fe.r1 rfl ⟨rfl, rfl⟩
      | true =>
        rw [c2] at h2 hs
        have hs : s = decide (c.toNat ≤ 13) := by simpa using hs
        subst hs
        generalize decide (c.toNat ≤ 13) = s at h3 ⊢
        generalize U8 c = y at h1 h2 h3 ⊢
        dsimp only [Tryd.f88]
        dsimp only [List.length_cons, List.length_nil, List.cons_append, List.nil_append, Nat.reduceSub, Nat.reduceAdd, List.replicate]
        ((repeat with_reducible refine WP.seqs ?_); refine WP.rz ?_)
        ((repeat with_reducible refine WP.seqs ?_); refine WP.rz ?_)
        refine WP.ret ?_; repeat (first | with_reducible refine Sq.n ?_ | with_reducible refine Sq.ret ?_ | with_reducible refine Sq.exit ?_ | with_reducible refine Bk.n ?_ | with_reducible refine Bk.ret ?_ | with_reducible refine Bk.exit ?_ | with_reducible refine Bk.ex' (by decide) ?_ | with_reducible refine Lp.ret ?_ | with_reducible refine Lp.exit ?_ | with_reducible refine Lx.exit ?_)
        exact Fe.r1 rfl ⟨rfl, rfl⟩
  obtain ⟨v, H', h, rfl, rfl⟩ := key
  exact h
def low1 (l : B) (j : Nat) : B := ((l.take j).map Lib.lowerB).filter keepB
theorem low1_next {l : B} {j : Nat} {b : UInt8} (h : l[j]? = some b) : low1 l (j + 1) = low1 l j ++ (if keepB (Lib.lowerB b) then [Lib.lowerB b] else []) := by
  unfold low1
  rw [List.take_add_one, h]
  simp only [Option.toList_some, List.map_append, List.filter_append, List.map_cons, List.map_nil]
  congr 1
  split
  · rename_i hk; simp [hk]
  · rename_i hk; simp [hk]
theorem low1_len (l : B) (j : Nat) : (low1 l j).length ≤ l.length := by
  unfold low1
  have h1 := (List.filter_sublist (p := keepB) (l := (l.take j).map Lib.lowerB)).length_le
  have h2 : ((l.take j).map Lib.lowerB).length ≤ l.length := by rw [List.length_map, List.length_take]; omega
  exact Nat.le_trans h1 h2
theorem low_up {b : UInt8} (h : 65 ≤ b.toNat ∧ b.toNat ≤ 90) : Lib.lowerB b = b + 32 ∧ keepB (b + 32) = true ∧ (b + 32).toNat ≠ 46 ∧ (b + 32).toNat ≠ 95 ∧ (b + 32).toNat ≠ 45 := by
  have := all_b (fun b => !(decide (65 ≤ b.toNat) && decide (b.toNat ≤ 90)) || (Lib.lowerB b == b + 32 && keepB (b + 32) && decide ((b + 32).toNat ≠ 46) && decide ((b + 32).toNat ≠ 95) && decide ((b + 32).toNat ≠ 45))) (by decide +kernel) b
  simp only [h.1, h.2, decide_true, Bool.and_true, Bool.not_true, Bool.false_or, Bool.and_eq_true, beq_iff_eq, decide_eq_true_eq] at this
  obtain ⟨⟨⟨⟨a, b⟩, c⟩, d⟩, e⟩ := this
  exact ⟨a, b, c, d, e⟩
theorem low_not {b : UInt8} (h : ¬ (65 ≤ b.toNat ∧ b.toNat ≤ 90)) : Lib.lowerB b = b := by
  have := all_b (fun b => (decide (65 ≤ b.toNat) && decide (b.toNat ≤ 90)) || (Lib.lowerB b == b)) (by decide +kernel) b
  have h2 : (decide (65 ≤ b.toNat) && decide (b.toNat ≤ 90)) = false := by
    simp only [Bool.and_eq_false_iff, decide_eq_false_iff_not]
    omega
  simpa [h2] using this
theorem keep_is (b : UInt8) : keepB b = (decide (b.toNat ≠ 46) && (decide (b.toNat ≠ 95) && decide (b.toNat ≠ 45))) := by
  have := all_b (fun b => keepB b == (decide (b.toNat ≠ 46) && (decide (b.toNat ≠ 95) && decide (b.toNat ≠ 45)))) (by decide +kernel) b
  simpa using this
def ByOr (H : Heap) (av : AV) (bs : B) : Prop := BytesAt (Lt H) H av bs ∨ (bs = [] ∧ ∃ i o ty kn cs, av = .sl i o 0 ∧ H[i]? = some (.cells ty kn cs) ∧ o ≤ cs.length)
theorem ByOr.len {H : Heap} {av : AV} {bs : B} (h : ByOr H av bs) : lenA P 22 av = some (.i .i64 (bs.length : Nat)) := by
  rcases h with h | ⟨rfl, i, o, ty, kn, cs, rfl, _⟩
  · exact h.len bty
  · have hu := elem_slice bty.elem
    unfold lenA
    simp [hu]
theorem ByOr.conv {H : Heap} {av : AV} {bs : B} (h : ByOr H av bs) : convA P 22 9 av = none ∧ strA P H 22 9 av = some (S bs) := by
  rcases h with h | ⟨rfl, i, o, ty, kn, cs, rfl, h1, h2⟩
  · exact ⟨cvB_str _ (BytesAt.sl_of h), by rw [strA_eq, h.str]; rfl⟩
  · refine ⟨cvB_str _ (.inr (.inr ⟨_, _, _, rfl⟩)), ?_⟩
    rw [strA_eq]
    have : strOf H (.sl i o 0) = some (bst []) := by
      simp only [strOf, h1]
      rw [if_pos (by omega)]
      simp [bytesOf, bst]
    rw [this]; rfl
theorem by_hi {A : Nat → Prop} {H : Heap} {av : AV} {bs : B} (h : BytesAt A H av bs) {n : Nat} (hn : n ≤ bs.length) (h0 : 0 < n ∨ bs.length = 0) : ∃ av', sliceA P 22 av none (some (.i .i64 (n : Nat))) = some av' ∧ BytesAt A H av' (bs.take n) := by
  unfold sliceA
  simp only [bty.elem, bty.size]
  cases h with
  | z =>
    obtain rfl : n = 0 := by simpa using hn
    exact ⟨.s0, by simp, by simpa using BytesAt.z⟩
  | e =>
    obtain rfl : n = 0 := by simpa using hn
    exact ⟨.se, by simp, by simpa using BytesAt.e⟩
  | @s i o ty kn cs bs hA h h1 h2 =>
    have hp : 0 < n := by omega
    have hl : (bs.take n).length = n := by simp; omega
    refine ⟨.sl i o n, by simp; omega, ?_⟩
    have := @BytesAt.s A H i o ty kn cs (bs.take n) hA h (by omega) (by
      rw [hl]
      have : (cs.drop o).take n = ((cs.drop o).take bs.length).take n := by rw [List.take_take]; congr 1; omega
      rw [this, h2]; simp [u8s, List.map_take])
    rw [hl] at this
    exact this
theorem ByOr.last {H : Heap} {av : AV} {bs : B} (h : BytesAt (Lt H) H av bs) (h0 : 0 < bs.length) : ∃ av', sliceA P 22 av none (some (.i .i64 ((bs.length - 1 : Nat) : Int))) = some av' ∧ ByOr H av' (bs.take (bs.length - 1)) := by
  by_cases h1 : 1 < bs.length
  · obtain ⟨av', h2, h3⟩ := by_hi h (n := bs.length - 1) (by omega) (.inl (by omega))
    exact ⟨av', h2, .inl h3⟩
  · cases h with
    | z => simp at h0
    | e => simp at h0
    | @s i o ty kn cs bs hA hx hp ht =>
      have hl : bs.length = 1 := by omega
      refine ⟨.sl i o 0, ?_, .inr ⟨by rw [hl]; rfl, i, o, ty, kn, cs, rfl, hx, ?_⟩⟩
      · unfold sliceA
        simp only [bty.elem, bty.size]
        rw [hl]
        simp
      · have := congrArg List.length ht
        rw [u8s_length, List.length_take, List.length_drop] at this
        omega
theorem norm_x (H : Heap) (l : B) (hl : l.length ≤ 1048576) : ∃ v H', CA P NS 51 [S l] H (v, H') ∧ (v = S (nrm l) ∧ Kp H H') := by
  have hlen := s_len l
  refine CA.wp (fn := Tryd.f51) (R := fun v H' => v = S (nrm l) ∧ Kp H H') (by kernel_rfl) rfl ?_
  dsimp only [Tryd.f51]
  dsimp only [List.length_cons, List.length_nil, List.cons_append, List.nil_append, Nat.reduceSub, Nat.reduceAdd, List.replicate]
  ((repeat with_reducible refine WP.seqs ?_); refine WP.rz ?_)
  ((repeat with_reducible refine WP.seqs ?_); refine WP.rz ?_)
  ((repeat with_reducible refine WP.seqs ?_); refine WP.rz ?_)
  ((repeat with_reducible refine WP.seqs ?_); first | refine WP.seq (WP.block ?_) | refine WP.block ?_)
  refine WP.loopX (id := 0) (Inv := fun j fr H1 => ∃ (x1 x2 x5 x6 x7 x8 x9 x10 x11 x12 x13 x14 x15 x16 x17 x18 x19 x20 x21 x22 x23 x24 x25 x26 x27 x28 x29 x30 x31 x32 x33 x34 x35 x36 x37 x38 x39 x40 x41 x42 x43 x44 x45 x46 x47 x48 x49 x50 x51 x52 x53 x54 x55 x56 x57 x58 x59 x60 x61 x62 x63 x64 x65 x66 : AV), ∃ out : AV, j ≤ l.length ∧ OutAt H.length H1 out (low1 l j) ∧ Kp H H1 ∧ fr = [S l, x1, x2, out, .i .i64 (j : Nat), x5, x6, x7, x8, x9, x10, x11, x12, x13, x14, x15, x16, x17, x18, x19, x20, x21, x22, x23, x24, x25, x26, x27, x28, x29, x30, x31, x32, x33, x34, x35, x36, x37, x38, x39, x40, x41, x42, x43, x44, x45, x46, x47, x48, x49, x50, x51, x52, x53, x54, x55, x56, x57, x58, x59, x60, x61, x62, x63, x64, x65, x66]) (Post := fun fr H1 => ∃ (x0 x1 x2 x4 x5 x6 x7 x8 x9 x10 x11 x12 x13 x14 x15 x16 x17 x18 x19 x20 x21 x22 x23 x24 x25 x26 x27 x28 x29 x30 x31 x32 x33 x34 x35 x36 x37 x38 x39 x40 x41 x42 x43 x44 x45 x46 x47 x48 x49 x50 x51 x52 x53 x54 x55 x56 x57 x58 x59 x60 x61 x62 x63 x64 x65 x66 : AV), ∃ out : AV, OutAt H.length H1 out (low1 l l.length) ∧ Kp H H1 ∧ fr = [x0, x1, x2, out, x4, x5, x6, x7, x8, x9, x10, x11, x12, x13, x14, x15, x16, x17, x18, x19, x20, x21, x22, x23, x24, x25, x26, x27, x28, x29, x30, x31, x32, x33, x34, x35, x36, x37, x38, x39, x40, x41, x42, x43, x44, x45, x46, x47, x48, x49, x50, x51, x52, x53, x54, x55, x56, x57, x58, x59, x60, x61, x62, x63, x64, x65, x66]) l.length ?_ ?_ ?_
  rotate_right 1
  · exact ⟨_, _, _, _, _, _, _, _, _, _, _, _, _, _, _, _, _, _, _, _, _, _, _, _, _, _, _, _, _, _, _, _, _, _, _, _, _, _, _, _, _, _, _, _, _, _, _, _, _, _, _, _, _, _, _, _, _, _, _, _, _, _, _, _, .s0, by omega, .inl ⟨rfl, rfl⟩, Kp.refl H, rfl⟩
  · intro j fr H1 hj ⟨x1, x2, x5, x6, x7, x8, x9, x10, x11, x12, x13, x14, x15, x16, x17, x18, x19, x20, x21, x22, x23, x24, x25, x26, x27, x28, x29, x30, x31, x32, x33, x34, x35, x36, x37, x38, x39, x40, x41, x42, x43, x44, x45, x46, x47, x48, x49, x50, x51, x52, x53, x54, x55, x56, x57, x58, x59, x60, x61, x62, x63, x64, x65, x66, out, hjl, ho, hk, hfr⟩
    subst hfr
    have hls := lssI 3 false (j : Nat) (l.length : Nat)
    by_cases hlt : j < l.length
    rotate_left
    · obtain rfl : j = l.length := by omega
      rw [decide_eq_false (by omega)] at hls
      generalize ((l.length : Nat) : Int) = ni at hls hlen
      ((repeat with_reducible refine WP.seqs ?_); refine WP.rz ?_)
      ((repeat with_reducible refine WP.seqs ?_); first | refine WP.seq (WP.condF rfl ?_) | refine WP.condF rfl ?_)
      refine WP.exit ?_; repeat (first | with_reducible refine Sq.n ?_ | with_reducible refine Sq.ret ?_ | with_reducible refine Sq.exit ?_ | with_reducible refine Bk.n ?_ | with_reducible refine Bk.ret ?_ | with_reducible refine Bk.exit ?_ | with_reducible refine Bk.ex' (by decide) ?_ | with_reducible refine Lp.ret ?_ | with_reducible refine Lp.exit ?_ | with_reducible refine Lx.exit ?_)
      exact .inr ⟨rfl, _, _, _, _, _, _, _, _, _, _, _, _, _, _, _, _, _, _, _, _, _, _, _, _, _, _, _, _, _, _, _, _, _, _, _, _, _, _, _, _, _, _, _, _, _, _, _, _, _, _, _, _, _, _, _, _, _, _, _, _, _, _, _, _, _, _, out, ho, hk, rfl⟩
    rw [decide_eq_true (by omega)] at hls
    obtain ⟨b, hb⟩ : ∃ b, l[j]? = some b := ⟨l[j], by simp [hlt]⟩
    have hix := s_ix hb
    have had : binA P .add 3 true (.i .i64 (j : Nat)) (.i .i64 1) = some (.i .i64 ((j + 1 : Nat) : Int)) := addn 3 true j 1 (by omega)
    have hnx := low1_next hb
    have hll := low1_len l j
    have hg : binA P .geq 5 true (U8 b) (.i .u8 65) = some (.b (decide (65 ≤ b.toNat))) := geqB 5 true b 65
    have hq : binA P .leq 5 true (U8 b) (.i .u8 90) = some (.b (decide (b.toNat ≤ 90))) := leqB 5 true b 90
    have nn : ∀ c : UInt8, binA P .neq 5 true (U8 c) (.i .u8 46) = some (.b (decide (c.toNat ≠ 46))) ∧ binA P .neq 5 true (U8 c) (.i .u8 95) = some (.b (decide (c.toNat ≠ 95))) ∧ binA P .neq 5 true (U8 c) (.i .u8 45) = some (.b (decide (c.toNat ≠ 45))) := fun c => ⟨neqB 5 true c 46, neqB 5 true c 95, neqB 5 true c 45⟩
    by_cases hup : 65 ≤ b.toNat ∧ b.toNat ≤ 90
    · obtain ⟨hlow, hkp, q46, q95, q45⟩ := low_up hup
      rw [decide_eq_true hup.1] at hg
      rw [decide_eq_true hup.2] at hq
      have ha := addB32 5 true b (by omega)
      obtain ⟨n46, n95, n45⟩ := nn (b + 32)
      rw [decide_eq_true (by omega)] at n46
      rw [decide_eq_true (by omega)] at n95
      rw [decide_eq_true (by omega)] at n45
      obtain ⟨sl, H2, out1, H3, hbs, happ, hsl, ho1, hk1⟩ := push_x (b + 32) hk.1 ho (by omega)
      have hk3 := hk.wt hk1
      have hfin : low1 l (j + 1) = low1 l j ++ [(b + 32)] := by rw [hnx, hlow]; simp [hkp]
      generalize hji : ((j : Nat) : Int) = ji at hls hix had
      generalize hj1 : ((j + 1 : Nat) : Int) = j1 at had
      generalize ((l.length : Nat) : Int) = ni at hls hlen
      generalize U8 b = y0 at hix hg hq ha
      generalize U8 (b + 32) = y at ha n46 n95 n45 hbs
      ((repeat with_reducible refine WP.seqs ?_); refine WP.rz ?_)
      ((repeat with_reducible refine WP.seqs ?_); first | refine WP.seq (WP.condT rfl ?_) | refine WP.condT rfl ?_)
      refine WP.skip ?_; repeat (first | with_reducible refine Sq.n ?_ | with_reducible refine Sq.ret ?_ | with_reducible refine Sq.exit ?_ | with_reducible refine Bk.n ?_ | with_reducible refine Bk.ret ?_ | with_reducible refine Bk.exit ?_ | with_reducible refine Bk.ex' (by decide) ?_ | with_reducible refine Lp.ret ?_ | with_reducible refine Lp.exit ?_ | with_reducible refine Lx.exit ?_)
      ((repeat with_reducible refine WP.seqs ?_); first | refine WP.seq (WP.block ?_) | refine WP.block ?_)
      ((repeat with_reducible refine WP.seqs ?_); refine WP.rz ?_)
      ((repeat with_reducible refine WP.seqs ?_); refine WP.rz ?_)
      ((repeat with_reducible refine WP.seqs ?_); first | refine WP.seq (WP.condT rfl ?_) | refine WP.condT rfl ?_)
      refine WP.rze ?_; repeat (first | with_reducible refine Sq.n ?_ | with_reducible refine Sq.ret ?_ | with_reducible refine Sq.exit ?_ | with_reducible refine Bk.n ?_ | with_reducible refine Bk.ret ?_ | with_reducible refine Bk.exit ?_ | with_reducible refine Bk.ex' (by decide) ?_ | with_reducible refine Lp.ret ?_ | with_reducible refine Lp.exit ?_ | with_reducible refine Lx.exit ?_)
      ((repeat with_reducible refine WP.seqs ?_); refine WP.rz ?_)
      ((repeat with_reducible refine WP.seqs ?_); first | refine WP.seq (WP.condT rfl ?_) | refine WP.condT rfl ?_)
      refine WP.rze ?_; repeat (first | with_reducible refine Sq.n ?_ | with_reducible refine Sq.ret ?_ | with_reducible refine Sq.exit ?_ | with_reducible refine Bk.n ?_ | with_reducible refine Bk.ret ?_ | with_reducible refine Bk.exit ?_ | with_reducible refine Bk.ex' (by decide) ?_ | with_reducible refine Lp.ret ?_ | with_reducible refine Lp.exit ?_ | with_reducible refine Lx.exit ?_)
      refine WP.rze ?_; repeat (first | with_reducible refine Sq.n ?_ | with_reducible refine Sq.ret ?_ | with_reducible refine Sq.exit ?_ | with_reducible refine Bk.n ?_ | with_reducible refine Bk.ret ?_ | with_reducible refine Bk.exit ?_ | with_reducible refine Bk.ex' (by decide) ?_ | with_reducible refine Lp.ret ?_ | with_reducible refine Lp.exit ?_ | with_reducible refine Lx.exit ?_)
      subst hj1
      exact .inl ⟨rfl, hlt, _, _, _, _, _, _, _, _, _, _, _, _, _, _, _, _, _, _, _, _, _, _, _, _, _, _, _, _, _, _, _, _, _, _, _, _, _, _, _, _, _, _, _, _, _, _, _, _, _, _, _, _, _, _, _, _, _, _, _, _, _, _, _, _, out1, by omega, by rw [hfin]; exact ho1, hk3, rfl⟩
    have hlow := low_not hup
    have hkis := keep_is b
    by_cases hlo : 65 ≤ b.toNat
    · skip
      rw [decide_eq_true hlo] at hg
      rw [decide_eq_false (by omega)] at hq
      by_cases e95 : b.toNat = 95
      · have hkp : keepB b = false := by rw [hkis]; simp [e95]
        obtain ⟨n46, n95, n45⟩ := nn b
        rw [decide_eq_true (by omega)] at n46
        rw [decide_eq_false (by omega)] at n95
        have hfin : low1 l (j + 1) = low1 l j := by rw [hnx, hlow]; simp [hkp]
        generalize hji : ((j : Nat) : Int) = ji at hls hix had
        generalize hj1 : ((j + 1 : Nat) : Int) = j1 at had
        generalize ((l.length : Nat) : Int) = ni at hls hlen
        generalize U8 b = y at hix hg hq n46 n95 n45
        ((repeat with_reducible refine WP.seqs ?_); refine WP.rz ?_)
        ((repeat with_reducible refine WP.seqs ?_); first | refine WP.seq (WP.condT rfl ?_) | refine WP.condT rfl ?_)
        refine WP.skip ?_; repeat (first | with_reducible refine Sq.n ?_ | with_reducible refine Sq.ret ?_ | with_reducible refine Sq.exit ?_ | with_reducible refine Bk.n ?_ | with_reducible refine Bk.ret ?_ | with_reducible refine Bk.exit ?_ | with_reducible refine Bk.ex' (by decide) ?_ | with_reducible refine Lp.ret ?_ | with_reducible refine Lp.exit ?_ | with_reducible refine Lx.exit ?_)
        ((repeat with_reducible refine WP.seqs ?_); first | refine WP.seq (WP.block ?_) | refine WP.block ?_)
        ((repeat with_reducible refine WP.seqs ?_); refine WP.rz ?_)
        ((repeat with_reducible refine WP.seqs ?_); refine WP.rz ?_)
        ((repeat with_reducible refine WP.seqs ?_); first | refine WP.seq (WP.condF rfl ?_) | refine WP.condF rfl ?_)
        refine WP.skip ?_; repeat (first | with_reducible refine Sq.n ?_ | with_reducible refine Sq.ret ?_ | with_reducible refine Sq.exit ?_ | with_reducible refine Bk.n ?_ | with_reducible refine Bk.ret ?_ | with_reducible refine Bk.exit ?_ | with_reducible refine Bk.ex' (by decide) ?_ | with_reducible refine Lp.ret ?_ | with_reducible refine Lp.exit ?_ | with_reducible refine Lx.exit ?_)
        ((repeat with_reducible refine WP.seqs ?_); refine WP.rz ?_)
        ((repeat with_reducible refine WP.seqs ?_); first | refine WP.seq (WP.condF rfl ?_) | refine WP.condF rfl ?_)
        refine WP.skip ?_; repeat (first | with_reducible refine Sq.n ?_ | with_reducible refine Sq.ret ?_ | with_reducible refine Sq.exit ?_ | with_reducible refine Bk.n ?_ | with_reducible refine Bk.ret ?_ | with_reducible refine Bk.exit ?_ | with_reducible refine Bk.ex' (by decide) ?_ | with_reducible refine Lp.ret ?_ | with_reducible refine Lp.exit ?_ | with_reducible refine Lx.exit ?_)
        refine WP.rze ?_; repeat (first | with_reducible refine Sq.n ?_ | with_reducible refine Sq.ret ?_ | with_reducible refine Sq.exit ?_ | with_reducible refine Bk.n ?_ | with_reducible refine Bk.ret ?_ | with_reducible refine Bk.exit ?_ | with_reducible refine Bk.ex' (by decide) ?_ | with_reducible refine Lp.ret ?_ | with_reducible refine Lp.exit ?_ | with_reducible refine Lx.exit ?_)
        subst hj1
        exact .inl ⟨rfl, hlt, _, _, _, _, _, _, _, _, _, _, _, _, _, _, _, _, _, _, _, _, _, _, _, _, _, _, _, _, _, _, _, _, _, _, _, _, _, _, _, _, _, _, _, _, _, _, _, _, _, _, _, _, _, _, _, _, _, _, _, _, _, _, _, _, out, by omega, by rw [hfin]; exact ho, hk, rfl⟩
      · have hkp : keepB b = true := by rw [hkis]; simp only [Bool.and_eq_true, decide_eq_true_eq]; omega
        obtain ⟨n46, n95, n45⟩ := nn b
        rw [decide_eq_true (by omega)] at n46
        rw [decide_eq_true (by omega)] at n95
        rw [decide_eq_true (by omega)] at n45
        obtain ⟨sl, H2, out1, H3, hbs, happ, hsl, ho1, hk1⟩ := push_x b hk.1 ho (by omega)
        have hk3 := hk.wt hk1
        have hfin : low1 l (j + 1) = low1 l j ++ [b] := by rw [hnx, hlow]; simp [hkp]
        generalize hji : ((j : Nat) : Int) = ji at hls hix had
        generalize hj1 : ((j + 1 : Nat) : Int) = j1 at had
        generalize ((l.length : Nat) : Int) = ni at hls hlen
        generalize U8 b = y at hix hg hq n46 n95 n45 hbs
        ((repeat with_reducible refine WP.seqs ?_); refine WP.rz ?_)
        ((repeat with_reducible refine WP.seqs ?_); first | refine WP.seq (WP.condT rfl ?_) | refine WP.condT rfl ?_)
        refine WP.skip ?_; repeat (first | with_reducible refine Sq.n ?_ | with_reducible refine Sq.ret ?_ | with_reducible refine Sq.exit ?_ | with_reducible refine Bk.n ?_ | with_reducible refine Bk.ret ?_ | with_reducible refine Bk.exit ?_ | with_reducible refine Bk.ex' (by decide) ?_ | with_reducible refine Lp.ret ?_ | with_reducible refine Lp.exit ?_ | with_reducible refine Lx.exit ?_)
        ((repeat with_reducible refine WP.seqs ?_); first | refine WP.seq (WP.block ?_) | refine WP.block ?_)
        ((repeat with_reducible refine WP.seqs ?_); refine WP.rz ?_)
        ((repeat with_reducible refine WP.seqs ?_); refine WP.rz ?_)
        ((repeat with_reducible refine WP.seqs ?_); first | refine WP.seq (WP.condF rfl ?_) | refine WP.condF rfl ?_)
        refine WP.skip ?_; repeat (first | with_reducible refine Sq.n ?_ | with_reducible refine Sq.ret ?_ | with_reducible refine Sq.exit ?_ | with_reducible refine Bk.n ?_ | with_reducible refine Bk.ret ?_ | with_reducible refine Bk.exit ?_ | with_reducible refine Bk.ex' (by decide) ?_ | with_reducible refine Lp.ret ?_ | with_reducible refine Lp.exit ?_ | with_reducible refine Lx.exit ?_)
        ((repeat with_reducible refine WP.seqs ?_); refine WP.rz ?_)
        ((repeat with_reducible refine WP.seqs ?_); first | refine WP.seq (WP.condT rfl ?_) | refine WP.condT rfl ?_)
        refine WP.rze ?_; repeat (first | with_reducible refine Sq.n ?_ | with_reducible refine Sq.ret ?_ | with_reducible refine Sq.exit ?_ | with_reducible refine Bk.n ?_ | with_reducible refine Bk.ret ?_ | with_reducible refine Bk.exit ?_ | with_reducible refine Bk.ex' (by decide) ?_ | with_reducible refine Lp.ret ?_ | with_reducible refine Lp.exit ?_ | with_reducible refine Lx.exit ?_)
        refine WP.rze ?_; repeat (first | with_reducible refine Sq.n ?_ | with_reducible refine Sq.ret ?_ | with_reducible refine Sq.exit ?_ | with_reducible refine Bk.n ?_ | with_reducible refine Bk.ret ?_ | with_reducible refine Bk.exit ?_ | with_reducible refine Bk.ex' (by decide) ?_ | with_reducible refine Lp.ret ?_ | with_reducible refine Lp.exit ?_ | with_reducible refine Lx.exit ?_)
        subst hj1
        exact .inl ⟨rfl, hlt, _, _, _, _, _, _, _, _, _, _, _, _, _, _, _, _, _, _, _, _, _, _, _, _, _, _, _, _, _, _, _, _, _, _, _, _, _, _, _, _, _, _, _, _, _, _, _, _, _, _, _, _, _, _, _, _, _, _, _, _, _, _, _, _, out1, by omega, by rw [hfin]; exact ho1, hk3, rfl⟩
    · skip
      rw [decide_eq_false hlo] at hg
      by_cases e46 : b.toNat = 46
      · have hkp : keepB b = false := by rw [hkis]; simp [e46]
        obtain ⟨n46, n95, n45⟩ := nn b
        rw [decide_eq_false (by omega)] at n46
        have hfin : low1 l (j + 1) = low1 l j := by rw [hnx, hlow]; simp [hkp]
        generalize hji : ((j : Nat) : Int) = ji at hls hix had
        generalize hj1 : ((j + 1 : Nat) : Int) = j1 at had
        generalize ((l.length : Nat) : Int) = ni at hls hlen
        generalize U8 b = y at hix hg hq n46 n95 n45
        ((repeat with_reducible refine WP.seqs ?_); refine WP.rz ?_)
        ((repeat with_reducible refine WP.seqs ?_); first | refine WP.seq (WP.condT rfl ?_) | refine WP.condT rfl ?_)
        refine WP.skip ?_; repeat (first | with_reducible refine Sq.n ?_ | with_reducible refine Sq.ret ?_ | with_reducible refine Sq.exit ?_ | with_reducible refine Bk.n ?_ | with_reducible refine Bk.ret ?_ | with_reducible refine Bk.exit ?_ | with_reducible refine Bk.ex' (by decide) ?_ | with_reducible refine Lp.ret ?_ | with_reducible refine Lp.exit ?_ | with_reducible refine Lx.exit ?_)
        ((repeat with_reducible refine WP.seqs ?_); first | refine WP.seq (WP.block ?_) | refine WP.block ?_)
        ((repeat with_reducible refine WP.seqs ?_); refine WP.rz ?_)
        ((repeat with_reducible refine WP.seqs ?_); refine WP.rz ?_)
        ((repeat with_reducible refine WP.seqs ?_); first | refine WP.seq (WP.condF rfl ?_) | refine WP.condF rfl ?_)
        refine WP.skip ?_; repeat (first | with_reducible refine Sq.n ?_ | with_reducible refine Sq.ret ?_ | with_reducible refine Sq.exit ?_ | with_reducible refine Bk.n ?_ | with_reducible refine Bk.ret ?_ | with_reducible refine Bk.exit ?_ | with_reducible refine Bk.ex' (by decide) ?_ | with_reducible refine Lp.ret ?_ | with_reducible refine Lp.exit ?_ | with_reducible refine Lx.exit ?_)
        ((repeat with_reducible refine WP.seqs ?_); refine WP.rz ?_)
        ((repeat with_reducible refine WP.seqs ?_); first | refine WP.seq (WP.condF rfl ?_) | refine WP.condF rfl ?_)
        refine WP.skip ?_; repeat (first | with_reducible refine Sq.n ?_ | with_reducible refine Sq.ret ?_ | with_reducible refine Sq.exit ?_ | with_reducible refine Bk.n ?_ | with_reducible refine Bk.ret ?_ | with_reducible refine Bk.exit ?_ | with_reducible refine Bk.ex' (by decide) ?_ | with_reducible refine Lp.ret ?_ | with_reducible refine Lp.exit ?_ | with_reducible refine Lx.exit ?_)
        refine WP.rze ?_; repeat (first | with_reducible refine Sq.n ?_ | with_reducible refine Sq.ret ?_ | with_reducible refine Sq.exit ?_ | with_reducible refine Bk.n ?_ | with_reducible refine Bk.ret ?_ | with_reducible refine Bk.exit ?_ | with_reducible refine Bk.ex' (by decide) ?_ | with_reducible refine Lp.ret ?_ | with_reducible refine Lp.exit ?_ | with_reducible refine Lx.exit ?_)
        subst hj1
        exact .inl ⟨rfl, hlt, _, _, _, _, _, _, _, _, _, _, _, _, _, _, _, _, _, _, _, _, _, _, _, _, _, _, _, _, _, _, _, _, _, _, _, _, _, _, _, _, _, _, _, _, _, _, _, _, _, _, _, _, _, _, _, _, _, _, _, _, _, _, _, _, out, by omega, by rw [hfin]; exact ho, hk, rfl⟩
      by_cases e45 : b.toNat = 45
      · have hkp : keepB b = false := by rw [hkis]; simp [e45]
        obtain ⟨n46, n95, n45⟩ := nn b
        rw [decide_eq_true (by omega)] at n46
        rw [decide_eq_true (by omega)] at n95
        rw [decide_eq_false (by omega)] at n45
        have hfin : low1 l (j + 1) = low1 l j := by rw [hnx, hlow]; simp [hkp]
        generalize hji : ((j : Nat) : Int) = ji at hls hix had
        generalize hj1 : ((j + 1 : Nat) : Int) = j1 at had
        generalize ((l.length : Nat) : Int) = ni at hls hlen
        generalize U8 b = y at hix hg hq n46 n95 n45
        ((repeat with_reducible refine WP.seqs ?_); refine WP.rz ?_)
        ((repeat with_reducible refine WP.seqs ?_); first | refine WP.seq (WP.condT rfl ?_) | refine WP.condT rfl ?_)
        refine WP.skip ?_; repeat (first | with_reducible refine Sq.n ?_ | with_reducible refine Sq.ret ?_ | with_reducible refine Sq.exit ?_ | with_reducible refine Bk.n ?_ | with_reducible refine Bk.ret ?_ | with_reducible refine Bk.exit ?_ | with_reducible refine Bk.ex' (by decide) ?_ | with_reducible refine Lp.ret ?_ | with_reducible refine Lp.exit ?_ | with_reducible refine Lx.exit ?_)
        ((repeat with_reducible refine WP.seqs ?_); first | refine WP.seq (WP.block ?_) | refine WP.block ?_)
        ((repeat with_reducible refine WP.seqs ?_); refine WP.rz ?_)
        ((repeat with_reducible refine WP.seqs ?_); refine WP.rz ?_)
        ((repeat with_reducible refine WP.seqs ?_); first | refine WP.seq (WP.condF rfl ?_) | refine WP.condF rfl ?_)
        refine WP.skip ?_; repeat (first | with_reducible refine Sq.n ?_ | with_reducible refine Sq.ret ?_ | with_reducible refine Sq.exit ?_ | with_reducible refine Bk.n ?_ | with_reducible refine Bk.ret ?_ | with_reducible refine Bk.exit ?_ | with_reducible refine Bk.ex' (by decide) ?_ | with_reducible refine Lp.ret ?_ | with_reducible refine Lp.exit ?_ | with_reducible refine Lx.exit ?_)
        ((repeat with_reducible refine WP.seqs ?_); refine WP.rz ?_)
        ((repeat with_reducible refine WP.seqs ?_); first | refine WP.seq (WP.condF rfl ?_) | refine WP.condF rfl ?_)
        refine WP.skip ?_; repeat (first | with_reducible refine Sq.n ?_ | with_reducible refine Sq.ret ?_ | with_reducible refine Sq.exit ?_ | with_reducible refine Bk.n ?_ | with_reducible refine Bk.ret ?_ | with_reducible refine Bk.exit ?_ | with_reducible refine Bk.ex' (by decide) ?_ | with_reducible refine Lp.ret ?_ | with_reducible refine Lp.exit ?_ | with_reducible refine Lx.exit ?_)
        refine WP.rze ?_; repeat (first | with_reducible refine Sq.n ?_ | with_reducible refine Sq.ret ?_ | with_reducible refine Sq.exit ?_ | with_reducible refine Bk.n ?_ | with_reducible refine Bk.ret ?_ | with_reducible refine Bk.exit ?_ | with_reducible refine Bk.ex' (by decide) ?_ | with_reducible refine Lp.ret ?_ | with_reducible refine Lp.exit ?_ | with_reducible refine Lx.exit ?_)
        subst hj1
        exact .inl ⟨rfl, hlt, _, _, _, _, _, _, _, _, _, _, _, _, _, _, _, _, _, _, _, _, _, _, _, _, _, _, _, _, _, _, _, _, _, _, _, _, _, _, _, _, _, _, _, _, _, _, _, _, _, _, _, _, _, _, _, _, _, _, _, _, _, _, _, _, out, by omega, by rw [hfin]; exact ho, hk, rfl⟩
      · have hkp : keepB b = true := by rw [hkis]; simp only [Bool.and_eq_true, decide_eq_true_eq]; omega
        obtain ⟨n46, n95, n45⟩ := nn b
        rw [decide_eq_true (by omega)] at n46
        rw [decide_eq_true (by omega)] at n95
        rw [decide_eq_true (by omega)] at n45
        obtain ⟨sl, H2, out1, H3, hbs, happ, hsl, ho1, hk1⟩ := push_x b hk.1 ho (by omega)
        have hk3 := hk.wt hk1
        have hfin : low1 l (j + 1) = low1 l j ++ [b] := by rw [hnx, hlow]; simp [hkp]
        generalize hji : ((j : Nat) : Int) = ji at hls hix had
        generalize hj1 : ((j + 1 : Nat) : Int) = j1 at had
        generalize ((l.length : Nat) : Int) = ni at hls hlen
        generalize U8 b = y at hix hg hq n46 n95 n45 hbs
        ((repeat with_reducible refine WP.seqs ?_); refine WP.rz ?_)
        ((repeat with_reducible refine WP.seqs ?_); first | refine WP.seq (WP.condT rfl ?_) | refine WP.condT rfl ?_)
        refine WP.skip ?_; repeat (first | with_reducible refine Sq.n ?_ | with_reducible refine Sq.ret ?_ | with_reducible refine Sq.exit ?_ | with_reducible refine Bk.n ?_ | with_reducible refine Bk.ret ?_ | with_reducible refine Bk.exit ?_ | with_reducible refine Bk.ex' (by decide) ?_ | with_reducible refine Lp.ret ?_ | with_reducible refine Lp.exit ?_ | with_reducible refine Lx.exit ?_)
        ((repeat with_reducible refine WP.seqs ?_); first | refine WP.seq (WP.block ?_) | refine WP.block ?_)
        ((repeat with_reducible refine WP.seqs ?_); refine WP.rz ?_)
        ((repeat with_reducible refine WP.seqs ?_); refine WP.rz ?_)
        ((repeat with_reducible refine WP.seqs ?_); first | refine WP.seq (WP.condF rfl ?_) | refine WP.condF rfl ?_)
        refine WP.skip ?_; repeat (first | with_reducible refine Sq.n ?_ | with_reducible refine Sq.ret ?_ | with_reducible refine Sq.exit ?_ | with_reducible refine Bk.n ?_ | with_reducible refine Bk.ret ?_ | with_reducible refine Bk.exit ?_ | with_reducible refine Bk.ex' (by decide) ?_ | with_reducible refine Lp.ret ?_ | with_reducible refine Lp.exit ?_ | with_reducible refine Lx.exit ?_)
        ((repeat with_reducible refine WP.seqs ?_); refine WP.rz ?_)
        ((repeat with_reducible refine WP.seqs ?_); first | refine WP.seq (WP.condT rfl ?_) | refine WP.condT rfl ?_)
        refine WP.rze ?_; repeat (first | with_reducible refine Sq.n ?_ | with_reducible refine Sq.ret ?_ | with_reducible refine Sq.exit ?_ | with_reducible refine Bk.n ?_ | with_reducible refine Bk.ret ?_ | with_reducible refine Bk.exit ?_ | with_reducible refine Bk.ex' (by decide) ?_ | with_reducible refine Lp.ret ?_ | with_reducible refine Lp.exit ?_ | with_reducible refine Lx.exit ?_)
        refine WP.rze ?_; repeat (first | with_reducible refine Sq.n ?_ | with_reducible refine Sq.ret ?_ | with_reducible refine Sq.exit ?_ | with_reducible refine Bk.n ?_ | with_reducible refine Bk.ret ?_ | with_reducible refine Bk.exit ?_ | with_reducible refine Bk.ex' (by decide) ?_ | with_reducible refine Lp.ret ?_ | with_reducible refine Lp.exit ?_ | with_reducible refine Lx.exit ?_)
        subst hj1
        exact .inl ⟨rfl, hlt, _, _, _, _, _, _, _, _, _, _, _, _, _, _, _, _, _, _, _, _, _, _, _, _, _, _, _, _, _, _, _, _, _, _, _, _, _, _, _, _, _, _, _, _, _, _, _, _, _, _, _, _, _, _, _, _, _, _, _, _, _, _, _, _, out1, by omega, by rw [hfin]; exact ho1, hk3, rfl⟩
  · intro fr H1 ⟨x0, x1, x2, x4, x5, x6, x7, x8, x9, x10, x11, x12, x13, x14, x15, x16, x17, x18, x19, x20, x21, x22, x23, x24, x25, x26, x27, x28, x29, x30, x31, x32, x33, x34, x35, x36, x37, x38, x39, x40, x41, x42, x43, x44, x45, x46, x47, x48, x49, x50, x51, x52, x53, x54, x55, x56, x57, x58, x59, x60, x61, x62, x63, x64, x65, x66, out, ho, hk, hfr⟩
    subst hfr
    have hb0 : ByOr H1 out (low1 l l.length) := .inl ho.below
    have hacc : low1 l l.length = (l.map Lib.lowerB).filter keepB := by unfold low1; rw [List.take_length]
    have hnl := low1_len l l.length
    generalize low1 l l.length = acc at ho hb0 hacc hnl
    repeat (first | with_reducible refine Sq.n ?_ | with_reducible refine Sq.ret ?_ | with_reducible refine Sq.exit ?_ | with_reducible refine Bk.n ?_ | with_reducible refine Bk.ret ?_ | with_reducible refine Bk.exit ?_ | with_reducible refine Bk.ex' (by decide) ?_ | with_reducible refine Lp.ret ?_ | with_reducible refine Lp.exit ?_ | with_reducible refine Lx.exit ?_)
    ((repeat with_reducible refine WP.seqs ?_); first | refine WP.seq (WP.block ?_) | refine WP.block ?_)
    refine WP.loopX (id := 2) (Inv := fun j fr H2 => ∃ (x0 x1 x2 x4 x5 x6 x7 x8 x9 x10 x11 x12 x13 x14 x15 x16 x17 x18 x19 x20 x21 x22 x23 x24 x25 x26 x27 x28 x29 x30 x31 x32 x33 x34 x35 x36 x37 x38 x39 x40 x41 x42 x43 x44 x45 x46 x47 x48 x49 x50 x51 x52 x53 x54 x55 x56 x57 x58 x59 x60 x61 x62 x63 x64 x65 x66 : AV), ∃ (av : AV) (r : B), H2 = H1 ∧ r.length + j ≤ acc.length ∧ BytesAt (Lt H1) H1 av r ∧ r.dropWhile Lib.isSp = acc.dropWhile Lib.isSp ∧ fr = [x0, x1, x2, av, x4, x5, x6, x7, x8, x9, x10, x11, x12, x13, x14, x15, x16, x17, x18, x19, x20, x21, x22, x23, x24, x25, x26, x27, x28, x29, x30, x31, x32, x33, x34, x35, x36, x37, x38, x39, x40, x41, x42, x43, x44, x45, x46, x47, x48, x49, x50, x51, x52, x53, x54, x55, x56, x57, x58, x59, x60, x61, x62, x63, x64, x65, x66]) (Post := fun fr H2 => ∃ (x0 x1 x2 x4 x5 x6 x7 x8 x9 x10 x11 x12 x13 x14 x15 x16 x17 x18 x19 x20 x21 x22 x23 x24 x25 x26 x27 x28 x29 x30 x31 x32 x33 x34 x35 x36 x37 x38 x39 x40 x41 x42 x43 x44 x45 x46 x47 x48 x49 x50 x51 x52 x53 x54 x55 x56 x57 x58 x59 x60 x61 x62 x63 x64 x65 x66 : AV), ∃ (av : AV) (r : B), H2 = H1 ∧ r.length ≤ acc.length ∧ BytesAt (Lt H1) H1 av r ∧ r = acc.dropWhile Lib.isSp ∧ fr = [x0, x1, x2, av, x4, x5, x6, x7, x8, x9, x10, x11, x12, x13, x14, x15, x16, x17, x18, x19, x20, x21, x22, x23, x24, x25, x26, x27, x28, x29, x30, x31, x32, x33, x34, x35, x36, x37, x38, x39, x40, x41, x42, x43, x44, x45, x46, x47, x48, x49, x50, x51, x52, x53, x54, x55, x56, x57, x58, x59, x60, x61, x62, x63, x64, x65, x66]) acc.length ?_ ?_ ?_
    rotate_right 1
    · exact ⟨_, _, _, _, _, _, _, _, _, _, _, _, _, _, _, _, _, _, _, _, _, _, _, _, _, _, _, _, _, _, _, _, _, _, _, _, _, _, _, _, _, _, _, _, _, _, _, _, _, _, _, _, _, _, _, _, _, _, _, _, _, _, _, _, _, _, out, acc, rfl, by omega, ho.below, rfl, rfl⟩
    · intro j fr H2 hj ⟨x0, x1, x2, x4, x5, x6, x7, x8, x9, x10, x11, x12, x13, x14, x15, x16, x17, x18, x19, x20, x21, x22, x23, x24, x25, x26, x27, x28, x29, x30, x31, x32, x33, x34, x35, x36, x37, x38, x39, x40, x41, x42, x43, x44, x45, x46, x47, x48, x49, x50, x51, x52, x53, x54, x55, x56, x57, x58, x59, x60, x61, x62, x63, x64, x65, x66, av, r, hH, hrj, hb, hd, hfr⟩
      subst hfr
      subst hH
      have hln := hb.len bty
      cases r with
      | nil =>
        have hgt : binA P .gtr 3 true (.i .i64 (([] : B).length : Nat)) (.i .i64 0) = some (.b false) := by rw [gtrJ]; rfl
        generalize ((([] : B).length : Nat) : Int) = ni at hln hgt
        ((repeat with_reducible refine WP.seqs ?_); refine WP.rz ?_)
        ((repeat with_reducible refine WP.seqs ?_); first | refine WP.seq (WP.condF rfl ?_) | refine WP.condF rfl ?_)
        refine WP.exit ?_; repeat (first | with_reducible refine Sq.n ?_ | with_reducible refine Sq.ret ?_ | with_reducible refine Sq.exit ?_ | with_reducible refine Bk.n ?_ | with_reducible refine Bk.ret ?_ | with_reducible refine Bk.exit ?_ | with_reducible refine Bk.ex' (by decide) ?_ | with_reducible refine Lp.ret ?_ | with_reducible refine Lp.exit ?_ | with_reducible refine Lx.exit ?_)
        exact .inr ⟨rfl, _, _, _, _, _, _, _, _, _, _, _, _, _, _, _, _, _, _, _, _, _, _, _, _, _, _, _, _, _, _, _, _, _, _, _, _, _, _, _, _, _, _, _, _, _, _, _, _, _, _, _, _, _, _, _, _, _, _, _, _, _, _, _, _, _, _, av, [], rfl, by simp, hb, hd, rfl⟩
      | cons b r =>
        have hgt : binA P .gtr 3 true (.i .i64 ((b :: r).length : Nat)) (.i .i64 0) = some (.b true) := by rw [gtrJ, decide_eq_true (by simp only [List.length_cons]; omega)]
        obtain ⟨p, hip, hld⟩ := hb.idx bty .i64 (n := 0) (b := b) rfl
        have hip : indexAddrA P 22 av (.i .i64 0) = some p := hip
        have hbl := blank_x H2 b
        obtain ⟨av1, hsl, hb1, _⟩ := hb.lo bty .i64 (n := 1) (by simp)
        have hsl : sliceA P 22 av (some (.i .i64 1)) none = some av1 := hsl
        have hb1 : BytesAt (Lt H2) H2 av1 r := hb1
        have hrl : r.length + (j + 1) ≤ acc.length := by simp at hrj; omega
        generalize (((b :: r).length : Nat) : Int) = ni at hln hgt
        cases hsp : Lib.isSp b with
        | true =>
          rw [hsp] at hbl
          have hd1 : r.dropWhile Lib.isSp = acc.dropWhile Lib.isSp := by rw [← hd, List.dropWhile_cons, if_pos hsp]
          ((repeat with_reducible refine WP.seqs ?_); refine WP.rz ?_)
          ((repeat with_reducible refine WP.seqs ?_); first | refine WP.seq (WP.condT rfl ?_) | refine WP.condT rfl ?_)
          refine WP.skip ?_; repeat (first | with_reducible refine Sq.n ?_ | with_reducible refine Sq.ret ?_ | with_reducible refine Sq.exit ?_ | with_reducible refine Bk.n ?_ | with_reducible refine Bk.ret ?_ | with_reducible refine Bk.exit ?_ | with_reducible refine Bk.ex' (by decide) ?_ | with_reducible refine Lp.ret ?_ | with_reducible refine Lp.exit ?_ | with_reducible refine Lx.exit ?_)
          ((repeat with_reducible refine WP.seqs ?_); first | refine WP.seq (WP.block ?_) | refine WP.block ?_)
          refine WP.rze ?_; repeat (first | with_reducible refine Sq.n ?_ | with_reducible refine Sq.ret ?_ | with_reducible refine Sq.exit ?_ | with_reducible refine Bk.n ?_ | with_reducible refine Bk.ret ?_ | with_reducible refine Bk.exit ?_ | with_reducible refine Bk.ex' (by decide) ?_ | with_reducible refine Lp.ret ?_ | with_reducible refine Lp.exit ?_ | with_reducible refine Lx.exit ?_)
          exact .inl ⟨rfl, by omega, _, _, _, _, _, _, _, _, _, _, _, _, _, _, _, _, _, _, _, _, _, _, _, _, _, _, _, _, _, _, _, _, _, _, _, _, _, _, _, _, _, _, _, _, _, _, _, _, _, _, _, _, _, _, _, _, _, _, _, _, _, _, _, _, _, _, av1, r, rfl, hrl, hb1, hd1, rfl⟩
        | false =>
          rw [hsp] at hbl
          have hd1 : b :: r = acc.dropWhile Lib.isSp := by rw [← hd, List.dropWhile_cons, if_neg (by simp [hsp])]
          ((repeat with_reducible refine WP.seqs ?_); refine WP.rz ?_)
          ((repeat with_reducible refine WP.seqs ?_); first | refine WP.seq (WP.condF rfl ?_) | refine WP.condF rfl ?_)
          refine WP.exit ?_; repeat (first | with_reducible refine Sq.n ?_ | with_reducible refine Sq.ret ?_ | with_reducible refine Sq.exit ?_ | with_reducible refine Bk.n ?_ | with_reducible refine Bk.ret ?_ | with_reducible refine Bk.exit ?_ | with_reducible refine Bk.ex' (by decide) ?_ | with_reducible refine Lp.ret ?_ | with_reducible refine Lp.exit ?_ | with_reducible refine Lx.exit ?_)
          exact .inr ⟨rfl, _, _, _, _, _, _, _, _, _, _, _, _, _, _, _, _, _, _, _, _, _, _, _, _, _, _, _, _, _, _, _, _, _, _, _, _, _, _, _, _, _, _, _, _, _, _, _, _, _, _, _, _, _, _, _, _, _, _, _, _, _, _, _, _, _, _, av, b :: r, rfl, by simp; omega, hb, hd1, rfl⟩
    · intro fr H2 ⟨x0, x1, x2, x4, x5, x6, x7, x8, x9, x10, x11, x12, x13, x14, x15, x16, x17, x18, x19, x20, x21, x22, x23, x24, x25, x26, x27, x28, x29, x30, x31, x32, x33, x34, x35, x36, x37, x38, x39, x40, x41, x42, x43, x44, x45, x46, x47, x48, x49, x50, x51, x52, x53, x54, x55, x56, x57, x58, x59, x60, x61, x62, x63, x64, x65, x66, av, r, hH, hrl, hb, hr, hfr⟩
      subst hfr
      subst hH
      repeat (first | with_reducible refine Sq.n ?_ | with_reducible refine Sq.ret ?_ | with_reducible refine Sq.exit ?_ | with_reducible refine Bk.n ?_ | with_reducible refine Bk.ret ?_ | with_reducible refine Bk.exit ?_ | with_reducible refine Bk.ex' (by decide) ?_ | with_reducible refine Lp.ret ?_ | with_reducible refine Lp.exit ?_ | with_reducible refine Lx.exit ?_)
      ((repeat with_reducible refine WP.seqs ?_); first | refine WP.seq (WP.block ?_) | refine WP.block ?_)
      refine WP.loopX (id := 4) (Inv := fun j fr H3 => ∃ (x0 x1 x2 x4 x5 x6 x7 x8 x9 x10 x11 x12 x13 x14 x15 x16 x17 x18 x19 x20 x21 x22 x23 x24 x25 x26 x27 x28 x29 x30 x31 x32 x33 x34 x35 x36 x37 x38 x39 x40 x41 x42 x43 x44 x45 x46 x47 x48 x49 x50 x51 x52 x53 x54 x55 x56 x57 x58 x59 x60 x61 x62 x63 x64 x65 x66 : AV), ∃ (av : AV) (q : B), H3 = H2 ∧ q.length + j ≤ r.length ∧ ByOr H2 av q ∧ q.reverse.dropWhile Lib.isSp = r.reverse.dropWhile Lib.isSp ∧ fr = [x0, x1, x2, av, x4, x5, x6, x7, x8, x9, x10, x11, x12, x13, x14, x15, x16, x17, x18, x19, x20, x21, x22, x23, x24, x25, x26, x27, x28, x29, x30, x31, x32, x33, x34, x35, x36, x37, x38, x39, x40, x41, x42, x43, x44, x45, x46, x47, x48, x49, x50, x51, x52, x53, x54, x55, x56, x57, x58, x59, x60, x61, x62, x63, x64, x65, x66]) (Post := fun fr H3 => ∃ (x0 x1 x2 x4 x5 x6 x7 x8 x9 x10 x11 x12 x13 x14 x15 x16 x17 x18 x19 x20 x21 x22 x23 x24 x25 x26 x27 x28 x29 x30 x31 x32 x33 x34 x35 x36 x37 x38 x39 x40 x41 x42 x43 x44 x45 x46 x47 x48 x49 x50 x51 x52 x53 x54 x55 x56 x57 x58 x59 x60 x61 x62 x63 x64 x65 x66 : AV), ∃ (av : AV) (q : B), H3 = H2 ∧ ByOr H2 av q ∧ q.reverse = r.reverse.dropWhile Lib.isSp ∧ fr = [x0, x1, x2, av, x4, x5, x6, x7, x8, x9, x10, x11, x12, x13, x14, x15, x16, x17, x18, x19, x20, x21, x22, x23, x24, x25, x26, x27, x28, x29, x30, x31, x32, x33, x34, x35, x36, x37, x38, x39, x40, x41, x42, x43, x44, x45, x46, x47, x48, x49, x50, x51, x52, x53, x54, x55, x56, x57, x58, x59, x60, x61, x62, x63, x64, x65, x66]) r.length ?_ ?_ ?_
      rotate_right 1
      · exact ⟨_, _, _, _, _, _, _, _, _, _, _, _, _, _, _, _, _, _, _, _, _, _, _, _, _, _, _, _, _, _, _, _, _, _, _, _, _, _, _, _, _, _, _, _, _, _, _, _, _, _, _, _, _, _, _, _, _, _, _, _, _, _, _, _, _, _, av, r, rfl, by omega, .inl hb, rfl, rfl⟩
      · intro j fr H3 hj ⟨x0, x1, x2, x4, x5, x6, x7, x8, x9, x10, x11, x12, x13, x14, x15, x16, x17, x18, x19, x20, x21, x22, x23, x24, x25, x26, x27, x28, x29, x30, x31, x32, x33, x34, x35, x36, x37, x38, x39, x40, x41, x42, x43, x44, x45, x46, x47, x48, x49, x50, x51, x52, x53, x54, x55, x56, x57, x58, x59, x60, x61, x62, x63, x64, x65, x66, av, q, hH, hqj, hb, hd, hfr⟩
        subst hfr
        subst hH
        have hln := hb.len
        by_cases h0 : q.length = 0
        · have hgt : binA P .gtr 3 true (.i .i64 (q.length : Nat)) (.i .i64 0) = some (.b false) := by rw [gtrJ, decide_eq_false (by omega)]
          have hq0 : q = [] := List.eq_nil_of_length_eq_zero h0
          generalize ((q.length : Nat) : Int) = ni at hln hgt
          ((repeat with_reducible refine WP.seqs ?_); refine WP.rz ?_)
          ((repeat with_reducible refine WP.seqs ?_); first | refine WP.seq (WP.condF rfl ?_) | refine WP.condF rfl ?_)
          refine WP.exit ?_; repeat (first | with_reducible refine Sq.n ?_ | with_reducible refine Sq.ret ?_ | with_reducible refine Sq.exit ?_ | with_reducible refine Bk.n ?_ | with_reducible refine Bk.ret ?_ | with_reducible refine Bk.exit ?_ | with_reducible refine Bk.ex' (by decide) ?_ | with_reducible refine Lp.ret ?_ | with_reducible refine Lp.exit ?_ | with_reducible refine Lx.exit ?_)
          exact .inr ⟨rfl, _, _, _, _, _, _, _, _, _, _, _, _, _, _, _, _, _, _, _, _, _, _, _, _, _, _, _, _, _, _, _, _, _, _, _, _, _, _, _, _, _, _, _, _, _, _, _, _, _, _, _, _, _, _, _, _, _, _, _, _, _, _, _, _, _, _, av, q, rfl, hb, by rw [← hd, hq0]; rfl, rfl⟩
        · have hgt : binA P .gtr 3 true (.i .i64 (q.length : Nat)) (.i .i64 0) = some (.b true) := by rw [gtrJ, decide_eq_true (by omega)]
          have hbb : BytesAt (Lt H3) H3 av q := by
            rcases hb with hb | ⟨hq, _⟩
            · exact hb
            · rw [hq] at h0; exact absurd rfl h0
          obtain ⟨b, hb9⟩ : ∃ b, q[q.length - 1]? = some b := ⟨q[q.length - 1], by simp⟩
          have hsb : binA P .sub 3 true (.i .i64 (q.length : Nat)) (.i .i64 1) = some (.i .i64 ((q.length - 1 : Nat) : Int)) := by
            rw [subJ _ _ _ _ (by omega)]; congr 2; omega
          obtain ⟨p, hip, hld⟩ := hbb.idx bty .i64 hb9
          have hbl := blank_x H3 b
          obtain ⟨av1, hsl, hb1⟩ := ByOr.last hbb (by omega)
          have hqe : q = q.take (q.length - 1) ++ [b] := by
            have hlt : q.length - 1 < q.length := by omega
            have he := (List.getElem?_eq_some_iff.1 hb9).2
            conv => lhs; rw [← List.take_append_drop (q.length - 1) q, List.drop_eq_getElem_cons hlt, he]
            rw [List.drop_eq_nil_of_le (by omega)]
          have hrv : q.reverse = b :: (q.take (q.length - 1)).reverse := (congrArg List.reverse hqe).trans (by rw [List.reverse_append]; rfl)
          have hql : (q.take (q.length - 1)).length + (j + 1) ≤ r.length := by simp; omega
          generalize q.take (q.length - 1) = q1 at hb1 hrv hql
          generalize ((q.length - 1 : Nat) : Int) = n1 at hsb hip hsl
          generalize ((q.length : Nat) : Int) = ni at hln hgt hsb
          cases hsp : Lib.isSp b with
          | true =>
            rw [hsp] at hbl
            have hd1 : q1.reverse.dropWhile Lib.isSp = r.reverse.dropWhile Lib.isSp := by rw [← hd, hrv, List.dropWhile_cons, if_pos hsp]
            ((repeat with_reducible refine WP.seqs ?_); refine WP.rz ?_)
            ((repeat with_reducible refine WP.seqs ?_); first | refine WP.seq (WP.condT rfl ?_) | refine WP.condT rfl ?_)
            refine WP.skip ?_; repeat (first | with_reducible refine Sq.n ?_ | with_reducible refine Sq.ret ?_ | with_reducible refine Sq.exit ?_ | with_reducible refine Bk.n ?_ | with_reducible refine Bk.ret ?_ | with_reducible refine Bk.exit ?_ | with_reducible refine Bk.ex' (by decide) ?_ | with_reducible refine Lp.ret ?_ | with_reducible refine Lp.exit ?_ | with_reducible refine Lx.exit ?_)
            ((repeat with_reducible refine WP.seqs ?_); first | refine WP.seq (WP.block ?_) | refine WP.block ?_)
            refine WP.rze ?_; repeat (first | with_reducible refine Sq.n ?_ | with_reducible refine Sq.ret ?_ | with_reducible refine Sq.exit ?_ | with_reducible refine Bk.n ?_ | with_reducible refine Bk.ret ?_ | with_reducible refine Bk.exit ?_ | with_reducible refine Bk.ex' (by decide) ?_ | with_reducible refine Lp.ret ?_ | with_reducible refine Lp.exit ?_ | with_reducible refine Lx.exit ?_)
            exact .inl ⟨rfl, by omega, _, _, _, _, _, _, _, _, _, _, _, _, _, _, _, _, _, _, _, _, _, _, _, _, _, _, _, _, _, _, _, _, _, _, _, _, _, _, _, _, _, _, _, _, _, _, _, _, _, _, _, _, _, _, _, _, _, _, _, _, _, _, _, _, _, _, av1, q1, rfl, hql, hb1, hd1, rfl⟩
          | false =>
            rw [hsp] at hbl
            have hd1 : q.reverse = r.reverse.dropWhile Lib.isSp := by rw [← hd, hrv, List.dropWhile_cons, if_neg (by simp [hsp])]
            ((repeat with_reducible refine WP.seqs ?_); refine WP.rz ?_)
            ((repeat with_reducible refine WP.seqs ?_); first | refine WP.seq (WP.condF rfl ?_) | refine WP.condF rfl ?_)
            refine WP.exit ?_; repeat (first | with_reducible refine Sq.n ?_ | with_reducible refine Sq.ret ?_ | with_reducible refine Sq.exit ?_ | with_reducible refine Bk.n ?_ | with_reducible refine Bk.ret ?_ | with_reducible refine Bk.exit ?_ | with_reducible refine Bk.ex' (by decide) ?_ | with_reducible refine Lp.ret ?_ | with_reducible refine Lp.exit ?_ | with_reducible refine Lx.exit ?_)
            exact .inr ⟨rfl, _, _, _, _, _, _, _, _, _, _, _, _, _, _, _, _, _, _, _, _, _, _, _, _, _, _, _, _, _, _, _, _, _, _, _, _, _, _, _, _, _, _, _, _, _, _, _, _, _, _, _, _, _, _, _, _, _, _, _, _, _, _, _, _, _, _, av, q, rfl, hb, hd1, rfl⟩
      · intro fr H3 ⟨x0, x1, x2, x4, x5, x6, x7, x8, x9, x10, x11, x12, x13, x14, x15, x16, x17, x18, x19, x20, x21, x22, x23, x24, x25, x26, x27, x28, x29, x30, x31, x32, x33, x34, x35, x36, x37, x38, x39, x40, x41, x42, x43, x44, x45, x46, x47, x48, x49, x50, x51, x52, x53, x54, x55, x56, x57, x58, x59, x60, x61, x62, x63, x64, x65, x66, av, q, hH, hb, hd, hfr⟩
        subst hfr
        subst hH
        obtain ⟨h0, hs⟩ := hb.conv
        have hres : S q = S (nrm l) ∧ Kp H H3 := by
          refine ⟨?_, hk⟩
          have e : q = nrm l := by
            rw [← nrm_eq, ← hacc]
            unfold Lib.trimSpace
            rw [← hr, ← hd, List.reverse_reverse]
          rw [e]
        generalize S (nrm l) = goal at hres ⊢
        repeat (first | with_reducible refine Sq.n ?_ | with_reducible refine Sq.ret ?_ | with_reducible refine Sq.exit ?_ | with_reducible refine Bk.n ?_ | with_reducible refine Bk.ret ?_ | with_reducible refine Bk.exit ?_ | with_reducible refine Bk.ex' (by decide) ?_ | with_reducible refine Lp.ret ?_ | with_reducible refine Lp.exit ?_ | with_reducible refine Lx.exit ?_)
        ((repeat with_reducible refine WP.seqs ?_); refine WP.rz ?_)
        refine WP.ret ?_; repeat (first | with_reducible refine Sq.n ?_ | with_reducible refine Sq.ret ?_ | with_reducible refine Sq.exit ?_ | with_reducible refine Bk.n ?_ | with_reducible refine Bk.ret ?_ | with_reducible refine Bk.exit ?_ | with_reducible refine Bk.ex' (by decide) ?_ | with_reducible refine Lp.ret ?_ | with_reducible refine Lp.exit ?_ | with_reducible refine Lx.exit ?_)
        exact Fe.r1 rfl hres
end Go.Proofs.YtdanlkiojkimaaaDoor.Rd

