/-
  READING A WORD: kmsg.strnorm, kmsg.ParseACLResourcePatternType, UnmarshalText; the law FnParseACLResourcePatternType.
-/
import Derived.Test.YtdanlkiojkimaaaDoorQTxSpec
import Derived.Test.YtdanlkiojkimaaaDoorQRdEachC
import Derived.Test.YtdanlkiojkimaaaDoorProg
import Derived.LaidLaws
set_option linter.constructorNameAsVariable false
set_option linter.unusedVariables false
set_option linter.unusedSimpArgs false
namespace Go.Proofs.YtdanlkiojkimaaaDoor.Rd
open Go Go.RowKit Go.Proofs.YtdanlkiojkimaaaDoor.Ax Go.Proofs.YtdanlkiojkimaaaDoor.Wire
set_option maxRecDepth 100000
set_option maxHeartbeats 2000000
theorem space_kp {H H' : Heap} (h : spaceAt H = true) (k : Kp H H') : spaceAt H' = true := by
  have hl : (2 : Nat) < H.length := by
    unfold spaceAt at h
    split at h
    · rename_i e; exact (List.getElem?_eq_some_iff.1 e).1
    · cases h
  unfold spaceAt at h ⊢
  rw [k.2 _ hl]; exact h
theorem bst_data (l : B) : (bst l).data.toList = l := by simp [bst]
structure Asc (l : B) : Prop where
  len : l.length ≤ 1048576
  low : ∀ c ∈ l, c.toNat < 128
theorem Asc.sub {l m : B} (h : Asc l) (hl : m.length ≤ l.length) (hm : ∀ c ∈ m, c ∈ l) : Asc m := ⟨Nat.le_trans hl h.len, fun c hc => h.low c (hm c hc)⟩
theorem Asc.asciiB {l : B} (h : Asc l) : asciiB (bst l) = true := by
  unfold Rd.asciiB
  simp only [Bool.and_eq_true, decide_eq_true_eq, List.all_eq_true]
  exact ⟨by rw [bst_size]; exact h.len, fun b hb => h.low b (by rw [bst_data] at hb; exact hb)⟩
theorem trim_ca {l : B} (h : Asc l) {H : Heap} (hs : spaceAt H = true) : CA P NS 135 [S l] H (S (Lib.trimSpace l), H) := by
  refine CA.sum ?_
  have h1 : nsEach 135 [S l] H = none := nsEach_none rfl _ _
  have h2 : nsLow 135 [S l] H = none := nsLow_none rfl _ _
  have h3 : nsTrim 135 [S l] H = some (S (Lib.trimSpace l), H) := by
    show (if Rd.asciiB (bst l) = true ∧ spaceAt H = true then some (AV.s ⟨(Lib.trimSpace (bst l).data.toList).toArray⟩, H) else none) = _
    rw [if_pos ⟨h.asciiB, hs⟩, bst_data]
    rfl
  unfold NS orS
  rw [h1]
  simp only [h2, h3]
theorem low_ca {l : B} (h : Asc l) {H : Heap} : CA P NS 136 [S l] H (S (Lib.toLowerA l), H) := by
  refine CA.sum ?_
  have h1 : nsEach 136 [S l] H = none := nsEach_none rfl _ _
  have h3 : nsLow 136 [S l] H = some (S (Lib.toLowerA l), H) := by
    show (if Rd.asciiB (bst l) = true then some (AV.s ⟨(Lib.toLowerA (bst l).data.toList).toArray⟩, H) else none) = _
    rw [if_pos h.asciiB, bst_data]
    rfl
  unfold NS orS
  rw [h1]
  simp only [h3]
theorem trim_mem (l : B) : ∀ c ∈ Lib.trimSpace l, c ∈ l := fun c hc => by
  unfold Lib.trimSpace at hc
  rw [List.mem_reverse] at hc
  have := (List.dropWhile_sublist _).subset hc
  rw [List.mem_reverse] at this
  exact (List.dropWhile_sublist _).subset this
theorem trim_len (l : B) : (Lib.trimSpace l).length ≤ l.length := by
  unfold Lib.trimSpace
  rw [List.length_reverse]
  have h1 := (List.dropWhile_sublist Lib.isSp (l := (l.dropWhile Lib.isSp).reverse)).length_le
  rw [List.length_reverse] at h1
  exact Nat.le_trans h1 (List.dropWhile_sublist _).length_le
theorem strnorm_x {l : B} (h : Asc l) (H : Heap) (hs : spaceAt H = true) : ∃ v H', CA P NS 89 [S l] H (v, H') ∧ (v = S (nrm l) ∧ Kp H H') := by
  have f1 := (List.filter_sublist (p := (· != (46 : UInt8))) (l := l)).length_le
  have f2 := (List.filter_sublist (p := (· != (95 : UInt8))) (l := l.filter (· != 46))).length_le
  have f3 := (List.filter_sublist (p := keepB) (l := l)).length_le
  have hlen := h.len
  obtain ⟨v1, H1, c1, rfl, k1⟩ := replace_x H l 46 h.len
  obtain ⟨v2, H2, c2, rfl, k2⟩ := replace_x H1 (l.filter (· != 46)) 95 (by omega)
  obtain ⟨v3, H3, c3, rfl, k3⟩ := replace_x H2 ((l.filter (· != 46)).filter (· != 95)) 45 (by omega)
  have hk := (k1.trans k2).trans k3
  rw [keep_three] at c3
  have c1 : CA P NS 134 [S l, .s { data := #[46] }, .s { data := #[] }] H (_, H1) := c1
  have c2 : CA P NS 134 [_, .s { data := #[95] }, .s { data := #[] }] H1 (_, H2) := c2
  have c3 : CA P NS 134 [_, .s { data := #[45] }, .s { data := #[] }] H2 (_, H3) := c3
  have a1 : Asc (l.filter keepB) := h.sub f3 fun c hc => (List.mem_filter.1 hc).1
  have c4 := trim_ca a1 (space_kp hs hk)
  have c5 := low_ca (l := Lib.trimSpace (l.filter keepB)) (a1.sub (trim_len _) (trim_mem _)) (H := H3)
  have hres : S (Lib.toLowerA (Lib.trimSpace (l.filter keepB))) = S (nrm l) ∧ Kp H H3 := ⟨rfl, hk⟩
  generalize S (Lib.toLowerA (Lib.trimSpace (l.filter keepB))) = y at c5 hres
  refine CA.wp (fn := Tryd.f89) (R := fun v H' => v = S (nrm l) ∧ Kp H H') (by kernel_rfl) rfl ?_
  dsimp only [Tryd.f89]
  dsimp only [List.length_cons, List.length_nil, List.cons_append, List.nil_append, Nat.reduceSub, Nat.reduceAdd, List.replicate]
  ((repeat with_reducible refine WP.seqs ?_); refine WP.rz ?_)
  ((repeat with_reducible refine WP.seqs ?_); refine WP.rz ?_)
  ((repeat with_reducible refine WP.seqs ?_); refine WP.rz ?_)
  ((repeat with_reducible refine WP.seqs ?_); refine WP.rz ?_)
  ((repeat with_reducible refine WP.seqs ?_); refine WP.rz ?_)
  ((repeat with_reducible refine WP.seqs ?_); refine WP.rz ?_)
  ((repeat with_reducible refine WP.seqs ?_); refine WP.rz ?_)
  refine WP.ret ?_; repeat (first | with_reducible refine Sq.n ?_ | with_reducible refine Sq.ret ?_ | with_reducible refine Sq.exit ?_ | with_reducible refine Bk.n ?_ | with_reducible refine Bk.ret ?_ | with_reducible refine Bk.exit ?_ | with_reducible refine Bk.ex' (by decide) ?_ | with_reducible refine Lp.ret ?_ | with_reducible refine Lp.exit ?_ | with_reducible refine Lx.exit ?_)
  exact Fe.r1 rfl hres
theorem err_x (m : ByteArray) (H : Heap) : ∃ v H', CA P NS 90 [.s m] H (v, H') ∧ (v = .e ∧ Kp H H') := by
  have hb : buildA P 211 [(0, .s m)] = some (.g [.s m]) := by kernel_rfl
  obtain ⟨b, H1, hx, k1, _, _⟩ := box_new (H := H) (e := 211) (cs := [.s m]) rfl
  have hi : ifaceA P 209 (.p b 0) = some .e := by
    have hu : P.underlying 209 = some (.pointer 211) := by kernel_rfl
    unfold ifaceA
    rw [hu]
  refine CA.wp (fn := Tryd.f90) (R := fun v H' => v = .e ∧ Kp H H') (by kernel_rfl) rfl ?_
  dsimp only [Tryd.f90]
  dsimp only [List.length_cons, List.length_nil, List.cons_append, List.nil_append, Nat.reduceSub, Nat.reduceAdd, List.replicate]
  ((repeat with_reducible refine WP.seqs ?_); refine WP.rz ?_)
  ((repeat with_reducible refine WP.seqs ?_); refine WP.rz ?_)
  refine WP.ret ?_; repeat (first | with_reducible refine Sq.n ?_ | with_reducible refine Sq.ret ?_ | with_reducible refine Sq.exit ?_ | with_reducible refine Bk.n ?_ | with_reducible refine Bk.ret ?_ | with_reducible refine Bk.exit ?_ | with_reducible refine Bk.ex' (by decide) ?_ | with_reducible refine Lp.ret ?_ | with_reducible refine Lp.exit ?_ | with_reducible refine Lx.exit ?_)
  exact Fe.r1 rfl ⟨rfl, k1⟩
def wordsA : List (Int × B) := [(1, [65, 78, 89]), (2, [77, 65, 84, 67, 72]), (3, [76, 73, 84, 69, 82, 65, 76]), (4, [80, 82, 69, 70, 73, 88, 69, 68])]
def pA (m : B) : Option Int := if m = [97, 110, 121] then some 1 else if m = [109, 97, 116, 99, 104] then some 2 else if m = [108, 105, 116, 101, 114, 97, 108] then some 3 else if m = [112, 114, 101, 102, 105, 120, 101, 100] then some 4 else none
theorem find_words (m : B) : findN wordsA m = pA m := by
  have e1 : nrm [65, 78, 89] = [97, 110, 121] := by decide +kernel
  have e2 : nrm [77, 65, 84, 67, 72] = [109, 97, 116, 99, 104] := by decide +kernel
  have e3 : nrm [76, 73, 84, 69, 82, 65, 76] = [108, 105, 116, 101, 114, 97, 108] := by decide +kernel
  have e4 : nrm [80, 82, 69, 70, 73, 88, 69, 68] = [112, 114, 101, 102, 105, 120, 101, 100] := by decide +kernel
  simp only [wordsA, findN, e1, e2, e3, e4, pA]
  clear e1 e2 e3 e4
  by_cases d1 : m = [97, 110, 121]
  · subst d1; rfl
  rw [if_neg d1, if_neg (fun e => d1 e.symm)]
  by_cases d2 : m = [109, 97, 116, 99, 104]
  · subst d2; rfl
  rw [if_neg d2, if_neg (fun e => d2 e.symm)]
  by_cases d3 : m = [108, 105, 116, 101, 114, 97, 108]
  · subst d3; rfl
  rw [if_neg d3, if_neg (fun e => d3 e.symm)]
  by_cases d4 : m = [112, 114, 101, 102, 105, 120, 101, 100]
  · subst d4; rfl
  rw [if_neg d4, if_neg (fun e => d4 e.symm)]
def valP (p : Option Int) : Int := p.getD 0
def errP : Option Int → AV
  | some _ => .n
  | none => .e
def ansP (p : Option Int) : AV := .t [.i .i8 (valP p), errP p]
theorem ansN_eq (p : Option Int) : ansN p = .t [.i .i64 (valP p), .b p.isSome] := by cases p <;> rfl
theorem parse_x {l : B} (h : Asc l) (H : Heap) (hs : spaceAt H = true) : ∃ v H', CA P NS 52 [S l] H (v, H') ∧ (v = ansP (pA (nrm l)) ∧ Kp H H') := by
  obtain ⟨v1, H1, c1, rfl, k1⟩ := strnorm_x h H hs
  refine CA.wp (fn := Tryd.f52) (R := fun v H' => v = ansP (pA (nrm l)) ∧ Kp H H') (by kernel_rfl) rfl ?_
  have q1 : binA P .eql 9 true (S (nrm l)) (.s { data := #[97, 110, 121] }) = some (.b (decide (nrm l = [97, 110, 121]))) := s_eq 9 true (nrm l) [97, 110, 121]
  have q2 : binA P .eql 9 true (S (nrm l)) (.s { data := #[109, 97, 116, 99, 104] }) = some (.b (decide (nrm l = [109, 97, 116, 99, 104]))) := s_eq 9 true (nrm l) [109, 97, 116, 99, 104]
  have q3 : binA P .eql 9 true (S (nrm l)) (.s { data := #[108, 105, 116, 101, 114, 97, 108] }) = some (.b (decide (nrm l = [108, 105, 116, 101, 114, 97, 108]))) := s_eq 9 true (nrm l) [108, 105, 116, 101, 114, 97, 108]
  have q4 : binA P .eql 9 true (S (nrm l)) (.s { data := #[112, 114, 101, 102, 105, 120, 101, 100] }) = some (.b (decide (nrm l = [112, 114, 101, 102, 105, 120, 101, 100]))) := s_eq 9 true (nrm l) [112, 114, 101, 102, 105, 120, 101, 100]
  generalize hm : nrm l = m at c1 q1 q2 q3 q4
  generalize hy : S m = y at c1 q1 q2 q3 q4
  by_cases d1 : m = [97, 110, 121]
  · rw [decide_eq_true d1] at q1
    have hr : AV.t [.i .i8 1, .n] = ansP (pA m) := by rw [pA, if_pos d1]; rfl
    dsimp only [Tryd.f52]
    dsimp only [List.length_cons, List.length_nil, List.cons_append, List.nil_append, Nat.reduceSub, Nat.reduceAdd, List.replicate]
    ((repeat with_reducible refine WP.seqs ?_); refine WP.rz ?_)
    ((repeat with_reducible refine WP.seqs ?_); refine WP.rz ?_)
    ((repeat with_reducible refine WP.seqs ?_); first | refine WP.seq (WP.block ?_) | refine WP.block ?_)
    ((repeat with_reducible refine WP.seqs ?_); refine WP.rz ?_)
    ((repeat with_reducible refine WP.seqs ?_); first | refine WP.seq (WP.condT rfl ?_) | refine WP.condT rfl ?_)
    ((repeat with_reducible refine WP.seqs ?_); refine WP.rz ?_)
    refine WP.ret ?_; repeat (first | with_reducible refine Sq.n ?_ | with_reducible refine Sq.ret ?_ | with_reducible refine Sq.exit ?_ | with_reducible refine Bk.n ?_ | with_reducible refine Bk.ret ?_ | with_reducible refine Bk.exit ?_ | with_reducible refine Bk.ex' (by decide) ?_ | with_reducible refine Lp.ret ?_ | with_reducible refine Lp.exit ?_ | with_reducible refine Lx.exit ?_)
    exact Fe.ret rfl ⟨hr, k1⟩
  rw [decide_eq_false d1] at q1
  by_cases d2 : m = [109, 97, 116, 99, 104]
  · rw [decide_eq_true d2] at q2
    have hr : AV.t [.i .i8 2, .n] = ansP (pA m) := by rw [pA, if_neg d1, if_pos d2]; rfl
    dsimp only [Tryd.f52]
    dsimp only [List.length_cons, List.length_nil, List.cons_append, List.nil_append, Nat.reduceSub, Nat.reduceAdd, List.replicate]
    ((repeat with_reducible refine WP.seqs ?_); refine WP.rz ?_)
    ((repeat with_reducible refine WP.seqs ?_); refine WP.rz ?_)
    ((repeat with_reducible refine WP.seqs ?_); first | refine WP.seq (WP.block ?_) | refine WP.block ?_)
    ((repeat with_reducible refine WP.seqs ?_); refine WP.rz ?_)
    ((repeat with_reducible refine WP.seqs ?_); first | refine WP.seq (WP.condF rfl ?_) | refine WP.condF rfl ?_)
    ((repeat with_reducible refine WP.seqs ?_); refine WP.rz ?_)
    ((repeat with_reducible refine WP.seqs ?_); first | refine WP.seq (WP.condT rfl ?_) | refine WP.condT rfl ?_)
    ((repeat with_reducible refine WP.seqs ?_); refine WP.rz ?_)
    refine WP.ret ?_; repeat (first | with_reducible refine Sq.n ?_ | with_reducible refine Sq.ret ?_ | with_reducible refine Sq.exit ?_ | with_reducible refine Bk.n ?_ | with_reducible refine Bk.ret ?_ | with_reducible refine Bk.exit ?_ | with_reducible refine Bk.ex' (by decide) ?_ | with_reducible refine Lp.ret ?_ | with_reducible refine Lp.exit ?_ | with_reducible refine Lx.exit ?_)
    exact Fe.ret rfl ⟨hr, k1⟩
  rw [decide_eq_false d2] at q2
  by_cases d3 : m = [108, 105, 116, 101, 114, 97, 108]
  · rw [decide_eq_true d3] at q3
    have hr : AV.t [.i .i8 3, .n] = ansP (pA m) := by rw [pA, if_neg d1, if_neg d2, if_pos d3]; rfl
    dsimp only [Tryd.f52]
    dsimp only [List.length_cons, List.length_nil, List.cons_append, List.nil_append, Nat.reduceSub, Nat.reduceAdd, List.replicate]
    ((repeat with_reducible refine WP.seqs ?_); refine WP.rz ?_)
    ((repeat with_reducible refine WP.seqs ?_); refine WP.rz ?_)
    ((repeat with_reducible refine WP.seqs ?_); first | refine WP.seq (WP.block ?_) | refine WP.block ?_)
    ((repeat with_reducible refine WP.seqs ?_); refine WP.rz ?_)
    ((repeat with_reducible refine WP.seqs ?_); first | refine WP.seq (WP.condF rfl ?_) | refine WP.condF rfl ?_)
    ((repeat with_reducible refine WP.seqs ?_); refine WP.rz ?_)
    ((repeat with_reducible refine WP.seqs ?_); first | refine WP.seq (WP.condF rfl ?_) | refine WP.condF rfl ?_)
    ((repeat with_reducible refine WP.seqs ?_); refine WP.rz ?_)
    ((repeat with_reducible refine WP.seqs ?_); first | refine WP.seq (WP.condT rfl ?_) | refine WP.condT rfl ?_)
    ((repeat with_reducible refine WP.seqs ?_); refine WP.rz ?_)
    refine WP.ret ?_; repeat (first | with_reducible refine Sq.n ?_ | with_reducible refine Sq.ret ?_ | with_reducible refine Sq.exit ?_ | with_reducible refine Bk.n ?_ | with_reducible refine Bk.ret ?_ | with_reducible refine Bk.exit ?_ | with_reducible refine Bk.ex' (by decide) ?_ | with_reducible refine Lp.ret ?_ | with_reducible refine Lp.exit ?_ | with_reducible refine Lx.exit ?_)
    exact Fe.ret rfl ⟨hr, k1⟩
  rw [decide_eq_false d3] at q3
  by_cases d4 : m = [112, 114, 101, 102, 105, 120, 101, 100]
  · rw [decide_eq_true d4] at q4
    have hr : AV.t [.i .i8 4, .n] = ansP (pA m) := by rw [pA, if_neg d1, if_neg d2, if_neg d3, if_pos d4]; rfl
    dsimp only [Tryd.f52]
    dsimp only [List.length_cons, List.length_nil, List.cons_append, List.nil_append, Nat.reduceSub, Nat.reduceAdd, List.replicate]
    ((repeat with_reducible refine WP.seqs ?_); refine WP.rz ?_)
    ((repeat with_reducible refine WP.seqs ?_); refine WP.rz ?_)
    ((repeat with_reducible refine WP.seqs ?_); first | refine WP.seq (WP.block ?_) | refine WP.block ?_)
    ((repeat with_reducible refine WP.seqs ?_); refine WP.rz ?_)
    ((repeat with_reducible refine WP.seqs ?_); first | refine WP.seq (WP.condF rfl ?_) | refine WP.condF rfl ?_)
    ((repeat with_reducible refine WP.seqs ?_); refine WP.rz ?_)
    ((repeat with_reducible refine WP.seqs ?_); first | refine WP.seq (WP.condF rfl ?_) | refine WP.condF rfl ?_)
    ((repeat with_reducible refine WP.seqs ?_); refine WP.rz ?_)
    ((repeat with_reducible refine WP.seqs ?_); first | refine WP.seq (WP.condF rfl ?_) | refine WP.condF rfl ?_)
    ((repeat with_reducible refine WP.seqs ?_); refine WP.rz ?_)
    ((repeat with_reducible refine WP.seqs ?_); first | refine WP.seq (WP.condT rfl ?_) | refine WP.condT rfl ?_)
    ((repeat with_reducible refine WP.seqs ?_); refine WP.rz ?_)
    refine WP.ret ?_; repeat (first | with_reducible refine Sq.n ?_ | with_reducible refine Sq.ret ?_ | with_reducible refine Sq.exit ?_ | with_reducible refine Bk.n ?_ | with_reducible refine Bk.ret ?_ | with_reducible refine Bk.exit ?_ | with_reducible refine Bk.ex' (by decide) ?_ | with_reducible refine Lp.ret ?_ | with_reducible refine Lp.exit ?_ | with_reducible refine Lx.exit ?_)
    exact Fe.ret rfl ⟨hr, k1⟩
  rw [decide_eq_false d4] at q4
  obtain ⟨ev1, H2, c2, rfl, k2⟩ := err_x { data := #[65,67,76,82,101,115,111,117,114,99,101,80,97,116,116,101,114,110,84,121,112,101,58,32,117,110,97,98,108,101,32,116,111,32,112,97,114,115,101] } H1
  have hr : AV.t [.i .i8 0, .e] = ansP (pA m) := by rw [pA, if_neg d1, if_neg d2, if_neg d3, if_neg d4]; rfl
  dsimp only [Tryd.f52]
  dsimp only [List.length_cons, List.length_nil, List.cons_append, List.nil_append, Nat.reduceSub, Nat.reduceAdd, List.replicate]
  ((repeat with_reducible refine WP.seqs ?_); refine WP.rz ?_)
  ((repeat with_reducible refine WP.seqs ?_); refine WP.rz ?_)
  ((repeat with_reducible refine WP.seqs ?_); first | refine WP.seq (WP.block ?_) | refine WP.block ?_)
  ((repeat with_reducible refine WP.seqs ?_); refine WP.rz ?_)
  ((repeat with_reducible refine WP.seqs ?_); first | refine WP.seq (WP.condF rfl ?_) | refine WP.condF rfl ?_)
  ((repeat with_reducible refine WP.seqs ?_); refine WP.rz ?_)
  ((repeat with_reducible refine WP.seqs ?_); first | refine WP.seq (WP.condF rfl ?_) | refine WP.condF rfl ?_)
  ((repeat with_reducible refine WP.seqs ?_); refine WP.rz ?_)
  ((repeat with_reducible refine WP.seqs ?_); first | refine WP.seq (WP.condF rfl ?_) | refine WP.condF rfl ?_)
  ((repeat with_reducible refine WP.seqs ?_); refine WP.rz ?_)
  ((repeat with_reducible refine WP.seqs ?_); first | refine WP.seq (WP.condF rfl ?_) | refine WP.condF rfl ?_)
  ((repeat with_reducible refine WP.seqs ?_); refine WP.rz ?_)
  refine WP.ret ?_; repeat (first | with_reducible refine Sq.n ?_ | with_reducible refine Sq.ret ?_ | with_reducible refine Sq.exit ?_ | with_reducible refine Bk.n ?_ | with_reducible refine Bk.ret ?_ | with_reducible refine Bk.exit ?_ | with_reducible refine Bk.ex' (by decide) ?_ | with_reducible refine Lp.ret ?_ | with_reducible refine Lp.exit ?_ | with_reducible refine Lx.exit ?_)
  exact Fe.ret rfl ⟨hr, k1.trans k2⟩
theorem pA_val (m : B) : 0 ≤ valP (pA m) ∧ valP (pA m) ≤ 4 := by
  unfold pA
  repeat (first | split | exact ⟨by decide, by decide⟩)
theorem conv8 {n : Int} (h : 0 ≤ n ∧ n ≤ 4) : convA P 94 3 (.i .i8 n) = some (.i .i64 n) := by
  have c0 : convA P 94 3 (.i .i8 0) = some (.i .i64 0) := by kernel_rfl
  have c1 : convA P 94 3 (.i .i8 1) = some (.i .i64 1) := by kernel_rfl
  have c2 : convA P 94 3 (.i .i8 2) = some (.i .i64 2) := by kernel_rfl
  have c3 : convA P 94 3 (.i .i8 3) = some (.i .i64 3) := by kernel_rfl
  have c4 : convA P 94 3 (.i .i8 4) = some (.i .i64 4) := by kernel_rfl
  have : n = 0 ∨ n = 1 ∨ n = 2 ∨ n = 3 ∨ n = 4 := by omega
  rcases this with rfl | rfl | rfl | rfl | rfl
  · exact c0
  · exact c1
  · exact c2
  · exact c3
  · exact c4
theorem errN_n : binA P .neq 73 true .n .n = some (.b false) := by kernel_rfl
theorem errN_e : binA P .neq 73 true .e .n = some (.b true) := by kernel_rfl
theorem impl_x {l : B} (h : Asc l) (H : Heap) (hs : spaceAt H = true) : ∃ v H', CA P NS 21 [S l] H (v, H') ∧ (v = .t [.i .i64 (valP (pA (nrm l))), .b (pA (nrm l)).isSome] ∧ Kp H H') := by
  obtain ⟨v1, H1, c1, rfl, k1⟩ := parse_x h H hs
  have hv := pA_val (nrm l)
  refine CA.wp (fn := Tryd.f21) (R := fun v H' => v = .t [.i .i64 (valP (pA (nrm l))), .b (pA (nrm l)).isSome] ∧ Kp H H') (by kernel_rfl) rfl ?_
  have hc := conv8 hv
  generalize pA (nrm l) = p at c1 hv hc ⊢
  unfold ansP at c1
  cases p with
  | none =>
    have he := errN_e
    have hr : AV.t [.i .i64 0, .b false] = .t [.i .i64 (valP none), .b (none : Option Int).isSome] ∧ Kp H H1 := ⟨rfl, k1⟩
    simp only [errP] at c1
    generalize AV.t [.i .i64 (valP none), .b (none : Option Int).isSome] = goal at hr ⊢
    dsimp only [Tryd.f21]
    dsimp only [List.length_cons, List.length_nil, List.cons_append, List.nil_append, Nat.reduceSub, Nat.reduceAdd, List.replicate]
    ((repeat with_reducible refine WP.seqs ?_); refine WP.rz ?_)
    ((repeat with_reducible refine WP.seqs ?_); refine WP.rz ?_)
    ((repeat with_reducible refine WP.seqs ?_); refine WP.rz ?_)
    ((repeat with_reducible refine WP.seqs ?_); first | refine WP.seq (WP.condT rfl ?_) | refine WP.condT rfl ?_)
    ((repeat with_reducible refine WP.seqs ?_); refine WP.rz ?_)
    refine WP.ret ?_; repeat (first | with_reducible refine Sq.n ?_ | with_reducible refine Sq.ret ?_ | with_reducible refine Sq.exit ?_ | with_reducible refine Bk.n ?_ | with_reducible refine Bk.ret ?_ | with_reducible refine Bk.exit ?_ | with_reducible refine Bk.ex' (by decide) ?_ | with_reducible refine Lp.ret ?_ | with_reducible refine Lp.exit ?_ | with_reducible refine Lx.exit ?_)
    exact Fe.ret rfl hr
  | some q =>
    have he := errN_n
    have hr : AV.t [.i .i64 (valP (some q)), .b true] = .t [.i .i64 (valP (some q)), .b (some q).isSome] ∧ Kp H H1 := ⟨rfl, k1⟩
    simp only [errP] at c1
    generalize valP (some q) = n at c1 hr hc ⊢
    dsimp only [Tryd.f21]
    dsimp only [List.length_cons, List.length_nil, List.cons_append, List.nil_append, Nat.reduceSub, Nat.reduceAdd, List.replicate]
    ((repeat with_reducible refine WP.seqs ?_); refine WP.rz ?_)
    ((repeat with_reducible refine WP.seqs ?_); refine WP.rz ?_)
    ((repeat with_reducible refine WP.seqs ?_); refine WP.rz ?_)
    ((repeat with_reducible refine WP.seqs ?_); first | refine WP.seq (WP.condF rfl ?_) | refine WP.condF rfl ?_)
    refine WP.skip ?_; repeat (first | with_reducible refine Sq.n ?_ | with_reducible refine Sq.ret ?_ | with_reducible refine Sq.exit ?_ | with_reducible refine Bk.n ?_ | with_reducible refine Bk.ret ?_ | with_reducible refine Bk.exit ?_ | with_reducible refine Bk.ex' (by decide) ?_ | with_reducible refine Lp.ret ?_ | with_reducible refine Lp.exit ?_ | with_reducible refine Lx.exit ?_)
    ((repeat with_reducible refine WP.seqs ?_); refine WP.rz ?_)
    refine WP.ret ?_; repeat (first | with_reducible refine Sq.n ?_ | with_reducible refine Sq.ret ?_ | with_reducible refine Sq.exit ?_ | with_reducible refine Bk.n ?_ | with_reducible refine Bk.ret ?_ | with_reducible refine Bk.exit ?_ | with_reducible refine Bk.ex' (by decide) ?_ | with_reducible refine Lp.ret ?_ | with_reducible refine Lp.exit ?_ | with_reducible refine Lx.exit ?_)
    exact Fe.ret rfl hr
theorem bytes_of (l : B) (H : Heap) (hl : l.length ≤ 1099511627776) : ∃ v H', bytesOfA P H 9 22 (S l) = some (v, H') ∧ BytesAt (Lt H') H' v l ∧ Kp H H' := by
  have hub : P.underlying 22 = some (.slice 5) := by kernel_rfl
  have huu : P.underlying 5 = some (.int .u8) := by kernel_rfl
  have hd : (bst l).data.toList.map (fun c => AV.i .u8 (c.toNat : Int)) = u8s l := by rw [bst_data]; rfl
  refine ⟨if l.length = 0 then .se else .sl H.length 0 l.length, H ++ [.cells 5 .cv (u8s l)], ?_, ?_, Kp.app _ _⟩
  · unfold bytesOfA
    rw [if_pos ⟨rfl, rfl⟩]
    simp only [ustr, hub, huu, bst_size, hd]
    rw [if_pos hl]
  · by_cases h0 : l.length = 0
    · rw [if_pos h0]
      obtain rfl := List.eq_nil_of_length_eq_zero h0
      exact .e
    · rw [if_neg h0]
      exact .s (ty := 5) (kn := .cv) (cs := u8s l) (by show H.length < _; simp) (by simp) (by omega) (by rw [List.drop_zero, ← u8s_length l, List.take_length])
theorem cvS_none (x : ByteArray) : convA P 9 22 (.s x) = none := by kernel_rfl
theorem cvS_none2 (x : ByteArray) (H : Heap) : strA P H 9 22 (.s x) = none := by kernel_rfl
abbrev tyV : TypeId := 94
theorem unm_x {l : B} (h : Asc l) {H : Heap} (hs : spaceAt H = true) {av : AV} {A : Nat → Prop} (hb : BytesAt A H av l) {b : Nat} (hblk : H[b]? = some (.cells tyV .vr [.i .i8 0])) :
    ∃ v H', CA P NS 53 [.p b 0, av] H (v, H') ∧ (v = errP (pA (nrm l)) ∧ ∃ H1, Kp H H1 ∧ H' = H1.set b (.cells tyV .vr [.i .i8 (valP (pA (nrm l)))])) := by
  obtain ⟨v1, H1, c1, rfl, k1⟩ := parse_x h H hs
  have hc0 : convA P 22 9 av = none := cvB_str _ (BytesAt.sl_of hb)
  have hc1 : strA P H 22 9 av = some (S l) := by rw [strA_eq, hb.str]; rfl
  have hb1 := k1.at_ hblk
  generalize pA (nrm l) = p at c1 ⊢
  unfold ansP at c1
  have hst : storeA P H1 tyV (.p b 0) (.i .i8 (valP p)) = some (H1.set b (.cells tyV .vr [.i .i8 (valP p)])) := by
    have hz : sizeA P tyV = some 1 := by kernel_rfl
    simp [storeA, hz, hb1, Kn.own, over, AV.cells, AV.one]
  have hres : errP p = errP p ∧ ∃ H2, Kp H H2 ∧ H1.set b (.cells tyV .vr [.i .i8 (valP p)]) = H2.set b (.cells tyV .vr [.i .i8 (valP p)]) := ⟨rfl, H1, k1, rfl⟩
  refine CA.wp (fn := Tryd.f53) (R := fun v H' => v = errP p ∧ ∃ H1, Kp H H1 ∧ H' = H1.set b (.cells tyV .vr [.i .i8 (valP p)])) (by kernel_rfl) rfl ?_
  generalize H1.set b (.cells tyV .vr [.i .i8 (valP p)]) = H3 at hst hres
  have hone : ∃ e, errP p = e := ⟨_, rfl⟩
  obtain ⟨e, he⟩ := hone
  rw [he] at c1 hres ⊢
  generalize hn : valP p = n at c1 hst hres ⊢
  dsimp only [Tryd.f53]
  dsimp only [List.length_cons, List.length_nil, List.cons_append, List.nil_append, Nat.reduceSub, Nat.reduceAdd, List.replicate]
  ((repeat with_reducible refine WP.seqs ?_); refine WP.rz ?_)
  ((repeat with_reducible refine WP.seqs ?_); refine WP.rz ?_)
  ((repeat with_reducible refine WP.seqs ?_); refine WP.rz ?_)
  ((repeat with_reducible refine WP.seqs ?_); refine WP.rz ?_)
  refine WP.ret ?_; repeat (first | with_reducible refine Sq.n ?_ | with_reducible refine Sq.ret ?_ | with_reducible refine Sq.exit ?_ | with_reducible refine Bk.n ?_ | with_reducible refine Bk.ret ?_ | with_reducible refine Bk.exit ?_ | with_reducible refine Bk.ex' (by decide) ?_ | with_reducible refine Lp.ret ?_ | with_reducible refine Lp.exit ?_ | with_reducible refine Lx.exit ?_)
  exact Fe.r1 rfl hres
theorem oftext_x {l : B} (h : Asc l) (H : Heap) (hs : spaceAt H = true) {av : AV} (hb : BytesAt (Lt H) H av l) : ∃ v H', CA P NS 22 [av] H (v, H') ∧ (v = .t [.i .i64 (valP (pA (nrm l))), .b (pA (nrm l)).isSome] ∧ Kp H H') := by
  have hal : AllocA H tyV (.p H.length 0) (H ++ [.cells tyV .vr [.i .i8 0]]) := ⟨.i .i8 0, by kernel_rfl, rfl, rfl, rfl⟩
  have k0 : Kp H (H ++ [.cells tyV .vr [.i .i8 0]]) := Kp.app _ _
  have hblk0 : (H ++ [.cells tyV .vr [.i .i8 0]])[H.length]? = some (.cells tyV .vr [.i .i8 0]) := by simp
  have hb0 := Kp.bytes k0 hb
  obtain ⟨out, H1, happ, ho, wk⟩ := ap_bytes (str := false) (Nat.le_refl _) (.inl ⟨rfl, rfl⟩) hb0.first (by have := h.len; simp; omega)
  have hbS := BytesAt.noS hb
  have k1 : Kp (H ++ [.cells tyV .vr [.i .i8 0]]) H1 := Kp.of_w wk rfl
  rw [List.nil_append] at ho
  obtain ⟨v2, H2, c2, rfl, H3, k3, rfl⟩ := unm_x h (space_kp hs (k0.trans k1)) ho.bytes (k1.at_ hblk0)
  have hv := pA_val (nrm l)
  have hc := conv8 hv
  have hlt : H.length < H3.length := by have := k1.1; have := k3.1; simp at *; omega
  have hld : loadA P (H3.set H.length (.cells tyV .vr [.i .i8 (valP (pA (nrm l)))])) tyV (.p H.length 0) = some (.i .i8 (valP (pA (nrm l)))) :=
    ldk (ty := tyV) (kn := .vr) (cs := [.i .i8 (valP (pA (nrm l)))]) (by rw [List.getElem?_set_self hlt]) (by kernel_rfl) rfl
  have kk : Kp H (H3.set H.length (.cells tyV .vr [.i .i8 (valP (pA (nrm l)))])) := by
    have k4 := (k0.trans k1).trans k3
    refine ⟨by rw [List.length_set]; exact k4.1, fun i hi => ?_⟩
    rw [List.getElem?_set, if_neg (by omega)]
    exact k4.2 i hi
  generalize H3.set H.length (.cells tyV .vr [.i .i8 (valP (pA (nrm l)))]) = H5 at c2 hld kk
  refine CA.wp (fn := Tryd.f22) (R := fun v H' => v = .t [.i .i64 (valP (pA (nrm l))), .b (pA (nrm l)).isSome] ∧ Kp H H') (by kernel_rfl) rfl ?_
  generalize pA (nrm l) = p at c2 hv hc hld ⊢
  cases p with
  | none =>
    have he := errN_e
    have hr : AV.t [.i .i64 0, .b false] = .t [.i .i64 (valP none), .b (none : Option Int).isSome] ∧ Kp H H5 := ⟨rfl, kk⟩
    simp only [errP] at c2
    generalize AV.t [.i .i64 (valP none), .b (none : Option Int).isSome] = goal at hr ⊢
    dsimp only [Tryd.f22]
    dsimp only [List.length_cons, List.length_nil, List.cons_append, List.nil_append, Nat.reduceSub, Nat.reduceAdd, List.replicate]
    ((repeat with_reducible refine WP.seqs ?_); refine WP.rz ?_)
    ((repeat with_reducible refine WP.seqs ?_); refine WP.rz ?_)
    ((repeat with_reducible refine WP.seqs ?_); refine WP.rz ?_)
    ((repeat with_reducible refine WP.seqs ?_); refine WP.rz ?_)
    ((repeat with_reducible refine WP.seqs ?_); first | refine WP.seq (WP.condT rfl ?_) | refine WP.condT rfl ?_)
    ((repeat with_reducible refine WP.seqs ?_); refine WP.rz ?_)
    refine WP.ret ?_; repeat (first | with_reducible refine Sq.n ?_ | with_reducible refine Sq.ret ?_ | with_reducible refine Sq.exit ?_ | with_reducible refine Bk.n ?_ | with_reducible refine Bk.ret ?_ | with_reducible refine Bk.exit ?_ | with_reducible refine Bk.ex' (by decide) ?_ | with_reducible refine Lp.ret ?_ | with_reducible refine Lp.exit ?_ | with_reducible refine Lx.exit ?_)
    exact Fe.ret rfl hr
  | some q =>
    have he := errN_n
    have hr : AV.t [.i .i64 (valP (some q)), .b true] = .t [.i .i64 (valP (some q)), .b (some q).isSome] ∧ Kp H H5 := ⟨rfl, kk⟩
    simp only [errP] at c2
    generalize valP (some q) = n at c2 hr hc hld ⊢
    dsimp only [Tryd.f22]
    dsimp only [List.length_cons, List.length_nil, List.cons_append, List.nil_append, Nat.reduceSub, Nat.reduceAdd, List.replicate]
    ((repeat with_reducible refine WP.seqs ?_); refine WP.rz ?_)
    ((repeat with_reducible refine WP.seqs ?_); refine WP.rz ?_)
    ((repeat with_reducible refine WP.seqs ?_); refine WP.rz ?_)
    ((repeat with_reducible refine WP.seqs ?_); refine WP.rz ?_)
    ((repeat with_reducible refine WP.seqs ?_); first | refine WP.seq (WP.condF rfl ?_) | refine WP.condF rfl ?_)
    refine WP.skip ?_; repeat (first | with_reducible refine Sq.n ?_ | with_reducible refine Sq.ret ?_ | with_reducible refine Sq.exit ?_ | with_reducible refine Bk.n ?_ | with_reducible refine Bk.ret ?_ | with_reducible refine Bk.exit ?_ | with_reducible refine Bk.ex' (by decide) ?_ | with_reducible refine Lp.ret ?_ | with_reducible refine Lp.exit ?_ | with_reducible refine Lx.exit ?_)
    ((repeat with_reducible refine WP.seqs ?_); refine WP.rz ?_)
    refine WP.ret ?_; repeat (first | with_reducible refine Sq.n ?_ | with_reducible refine Sq.ret ?_ | with_reducible refine Sq.exit ?_ | with_reducible refine Bk.n ?_ | with_reducible refine Bk.ret ?_ | with_reducible refine Bk.exit ?_ | with_reducible refine Bk.ex' (by decide) ?_ | with_reducible refine Lp.ret ?_ | with_reducible refine Lp.exit ?_ | with_reducible refine Lx.exit ?_)
    exact Fe.ret rfl hr
theorem words_x (H : Heap) : ∃ v H', CA P NS 24 [] H (v, H') ∧ (NmAt H' v wordsA ∧ Kp H H') := by
  have b1 : buildA P 99 [(0, .i .i64 1), (1, .s { data := #[65, 78, 89] })] = some (.g [.i .i64 1, .s { data := #[65, 78, 89] }]) := by kernel_rfl
  have b2 : buildA P 99 [(0, .i .i64 2), (1, .s { data := #[77, 65, 84, 67, 72] })] = some (.g [.i .i64 2, .s { data := #[77, 65, 84, 67, 72] }]) := by kernel_rfl
  have b3 : buildA P 99 [(0, .i .i64 3), (1, .s { data := #[76, 73, 84, 69, 82, 65, 76] })] = some (.g [.i .i64 3, .s { data := #[76, 73, 84, 69, 82, 65, 76] }]) := by kernel_rfl
  have b4 : buildA P 99 [(0, .i .i64 4), (1, .s { data := #[80, 82, 69, 70, 73, 88, 69, 68] })] = some (.g [.i .i64 4, .s { data := #[80, 82, 69, 70, 73, 88, 69, 68] }]) := by kernel_rfl
  have bs : buildSliceA P H 54 4 [(0, .g [.i .i64 1, .s { data := #[65, 78, 89] }]), (1, .g [.i .i64 2, .s { data := #[77, 65, 84, 67, 72] }]), (2, .g [.i .i64 3, .s { data := #[76, 73, 84, 69, 82, 65, 76] }]), (3, .g [.i .i64 4, .s { data := #[80, 82, 69, 70, 73, 88, 69, 68] }])] = some (.sl H.length 0 4, H ++ [.cells 99 .row (nmc wordsA)]) := by kernel_rfl
  refine CA.wp (fn := Tryd.f24) (R := fun v H' => NmAt H' v wordsA ∧ Kp H H') (by kernel_rfl) rfl ?_
  have hres : NmAt (H ++ [.cells 99 .row (nmc wordsA)]) (.sl H.length 0 4) wordsA ∧ Kp H (H ++ [.cells 99 .row (nmc wordsA)]) := ⟨⟨H.length, rfl, by simp⟩, Kp.app _ _⟩
  generalize H ++ [.cells 99 .row (nmc wordsA)] = H1 at bs hres
  dsimp only [Tryd.f24]
  dsimp only [List.length_cons, List.length_nil, List.cons_append, List.nil_append, Nat.reduceSub, Nat.reduceAdd, List.replicate]
  ((repeat with_reducible refine WP.seqs ?_); refine WP.rz ?_)
  ((repeat with_reducible refine WP.seqs ?_); refine WP.rz ?_)
  refine WP.ret ?_; repeat (first | with_reducible refine Sq.n ?_ | with_reducible refine Sq.ret ?_ | with_reducible refine Sq.exit ?_ | with_reducible refine Bk.n ?_ | with_reducible refine Bk.ret ?_ | with_reducible refine Bk.exit ?_ | with_reducible refine Bk.ex' (by decide) ?_ | with_reducible refine Lp.ret ?_ | with_reducible refine Lp.exit ?_ | with_reducible refine Lx.exit ?_)
  exact Fe.r1 rfl hres
theorem acl_law (ty : TypeId) (l : B) (hl : l.length < 9223372036854775808) : ∃ v H', CA P NS 6 [S l] (heapT ty) (v, H') ∧ v = .b true := by
  generalize hH : heapT ty = H
  have hs : spaceAt H = true := by rw [← hH]; exact spT
  clear hH
  have hlen := s_len l
  have hg := gtrJ 3 true (l.length : Nat) 2147483647
  refine CA.wp (fn := Tryd.f6) (R := fun v H' => v = .b true) (by kernel_rfl) rfl ?_
  by_cases h2 : l.length ≤ 2147483647
  rotate_left
  · rw [decide_eq_true (by omega)] at hg
    generalize ((l.length : Nat) : Int) = ni at hg hlen
    dsimp only [Tryd.f6]
    dsimp only [List.length_cons, List.length_nil, List.cons_append, List.nil_append, Nat.reduceSub, Nat.reduceAdd, List.replicate]
    ((repeat with_reducible refine WP.seqs ?_); refine WP.rz ?_)
    ((repeat with_reducible refine WP.seqs ?_); refine WP.rz ?_)
    ((repeat with_reducible refine WP.seqs ?_); first | refine WP.seq (WP.condT rfl ?_) | refine WP.condT rfl ?_)
    ((repeat with_reducible refine WP.seqs ?_); refine WP.rz ?_)
    refine WP.ret ?_; repeat (first | with_reducible refine Sq.n ?_ | with_reducible refine Sq.ret ?_ | with_reducible refine Sq.exit ?_ | with_reducible refine Bk.n ?_ | with_reducible refine Bk.ret ?_ | with_reducible refine Bk.exit ?_ | with_reducible refine Bk.ex' (by decide) ?_ | with_reducible refine Lp.ret ?_ | with_reducible refine Lp.exit ?_ | with_reducible refine Lx.exit ?_)
    exact Fe.r1 rfl rfl
  rw [decide_eq_false (by omega)] at hg
  obtain ⟨pv, H1, pc, ⟨b, rfl, hpl⟩, k1⟩ := plain_x H l h2
  cases b with
  | false =>
    generalize ((l.length : Nat) : Int) = ni at hg hlen
    dsimp only [Tryd.f6]
    dsimp only [List.length_cons, List.length_nil, List.cons_append, List.nil_append, Nat.reduceSub, Nat.reduceAdd, List.replicate]
    ((repeat with_reducible refine WP.seqs ?_); refine WP.rz ?_)
    ((repeat with_reducible refine WP.seqs ?_); refine WP.rz ?_)
    ((repeat with_reducible refine WP.seqs ?_); first | refine WP.seq (WP.condF rfl ?_) | refine WP.condF rfl ?_)
    refine WP.skip ?_; repeat (first | with_reducible refine Sq.n ?_ | with_reducible refine Sq.ret ?_ | with_reducible refine Sq.exit ?_ | with_reducible refine Bk.n ?_ | with_reducible refine Bk.ret ?_ | with_reducible refine Bk.exit ?_ | with_reducible refine Bk.ex' (by decide) ?_ | with_reducible refine Lp.ret ?_ | with_reducible refine Lp.exit ?_ | with_reducible refine Lx.exit ?_)
    ((repeat with_reducible refine WP.seqs ?_); refine WP.rz ?_)
    ((repeat with_reducible refine WP.seqs ?_); first | refine WP.seq (WP.condT rfl ?_) | refine WP.condT rfl ?_)
    ((repeat with_reducible refine WP.seqs ?_); refine WP.rz ?_)
    refine WP.ret ?_; repeat (first | with_reducible refine Sq.n ?_ | with_reducible refine Sq.ret ?_ | with_reducible refine Sq.exit ?_ | with_reducible refine Bk.n ?_ | with_reducible refine Bk.ret ?_ | with_reducible refine Bk.exit ?_ | with_reducible refine Bk.ex' (by decide) ?_ | with_reducible refine Lp.ret ?_ | with_reducible refine Lp.exit ?_ | with_reducible refine Lx.exit ?_)
    exact Fe.r1 rfl rfl
  | true =>
    obtain ⟨p1, p2, p3⟩ := hpl rfl
    have asc : Asc l := ⟨by omega, p3⟩
    obtain ⟨v2, H2, c2, rfl, k2⟩ := impl_x asc H1 (space_kp hs k1)
    obtain ⟨sv, H3, hbo, hby, k3⟩ := bytes_of l H2 (by omega)
    have hn1 := cvS_none (bst l)
    have hn2 := cvS_none2 (bst l) H2
    obtain ⟨v4, H4, c4, rfl, k4⟩ := oftext_x asc H3 (space_kp hs ((k1.trans k2).trans k3)) hby
    obtain ⟨wv, H5, c5, hw5, k5⟩ := words_x H4
    have hwl : ∀ p ∈ wordsA, p.2.length ≤ 1048576 := fun p hp => by
      simp only [wordsA, List.mem_cons, List.not_mem_nil, or_false] at hp
      rcases hp with rfl | rfl | rfl | rfl <;> decide
    have hans : AV.t [.i .i64 (valP (pA (nrm l))), .b (pA (nrm l)).isSome] = ansN (findN wordsA (nrm l)) := by rw [find_words, ansN_eq]
    obtain ⟨v6, H6, c6, rfl, k6⟩ := parsed_x hw5 hwl (by decide) asc.len (by decide) hans
    obtain ⟨wv2, H7, c7, hw7, k7⟩ := words_x H6
    obtain ⟨v8, H8, c8, rfl, k8⟩ := parsed_x hw7 hwl (by decide) asc.len (by decide) hans
    generalize valP (pA (nrm l)) = n at c2 c4 c6 c8
    generalize (pA (nrm l)).isSome = ok at c2 c4 c6 c8
    generalize ((l.length : Nat) : Int) = ni at hg hlen
    dsimp only [Tryd.f6]
    dsimp only [List.length_cons, List.length_nil, List.cons_append, List.nil_append, Nat.reduceSub, Nat.reduceAdd, List.replicate]
    ((repeat with_reducible refine WP.seqs ?_); refine WP.rz ?_)
    ((repeat with_reducible refine WP.seqs ?_); refine WP.rz ?_)
    ((repeat with_reducible refine WP.seqs ?_); first | refine WP.seq (WP.condF rfl ?_) | refine WP.condF rfl ?_)
    refine WP.skip ?_; repeat (first | with_reducible refine Sq.n ?_ | with_reducible refine Sq.ret ?_ | with_reducible refine Sq.exit ?_ | with_reducible refine Bk.n ?_ | with_reducible refine Bk.ret ?_ | with_reducible refine Bk.exit ?_ | with_reducible refine Bk.ex' (by decide) ?_ | with_reducible refine Lp.ret ?_ | with_reducible refine Lp.exit ?_ | with_reducible refine Lx.exit ?_)
    ((repeat with_reducible refine WP.seqs ?_); refine WP.rz ?_)
    ((repeat with_reducible refine WP.seqs ?_); first | refine WP.seq (WP.condF rfl ?_) | refine WP.condF rfl ?_)
    refine WP.skip ?_; repeat (first | with_reducible refine Sq.n ?_ | with_reducible refine Sq.ret ?_ | with_reducible refine Sq.exit ?_ | with_reducible refine Bk.n ?_ | with_reducible refine Bk.ret ?_ | with_reducible refine Bk.exit ?_ | with_reducible refine Bk.ex' (by decide) ?_ | with_reducible refine Lp.ret ?_ | with_reducible refine Lp.exit ?_ | with_reducible refine Lx.exit ?_)
    ((repeat with_reducible refine WP.seqs ?_); refine WP.rz ?_)
    ((repeat with_reducible refine WP.seqs ?_); refine WP.rz ?_)
    ((repeat with_reducible refine WP.seqs ?_); refine WP.rz ?_)
    refine WP.ret ?_; repeat (first | with_reducible refine Sq.n ?_ | with_reducible refine Sq.ret ?_ | with_reducible refine Sq.exit ?_ | with_reducible refine Bk.n ?_ | with_reducible refine Bk.ret ?_ | with_reducible refine Bk.exit ?_ | with_reducible refine Bk.ex' (by decide) ?_ | with_reducible refine Lp.ret ?_ | with_reducible refine Lp.exit ?_ | with_reducible refine Lx.exit ?_)
    exact Fe.r1 rfl rfl
theorem acl_x (s : ByteArray) (hs : s.size ≤ maxLen) (ty : TypeId) : ∃ m H', run P NS m 6 [.s s] (heapT ty) = some (.b true, H') := by
  have e : bst s.data.toList = s := by
    cases s with
    | mk d => cases d; rfl
  have hl : s.data.toList.length < 9223372036854775808 := by
    have : s.data.toList.length = s.size := rfl
    rw [this]
    have : maxLen < 9223372036854775808 := by decide
    omega
  obtain ⟨v, H', ⟨n, hn⟩, rfl⟩ := acl_law ty s.data.toList hl
  refine ⟨n, H', ?_⟩
  have := hn n (Nat.le_refl _)
  have h9 : (S s.data.toList : AV) = .s s := congrArg AV.s e
  rw [h9] at this
  exact this
end Go.Proofs.YtdanlkiojkimaaaDoor.Rd

namespace Go.Proofs.YtdanlkiojkimaaaDoor.Rd
open Go
theorem seat_laid : laidOutB Tryd.prog = true := by kernel_rfl
theorem seat_maps : mapsRowed Tryd.prog = true := by kernel_rfl
theorem seat_enter : Tryd.prog.mayEnter = true := by kernel_rfl
theorem seat_heard : Tryd.prog.stopsHeard = true := by kernel_rfl
theorem seat_lifts : Tryd.prog.liftsFinal = false := by kernel_rfl
end Go.Proofs.YtdanlkiojkimaaaDoor.Rd

