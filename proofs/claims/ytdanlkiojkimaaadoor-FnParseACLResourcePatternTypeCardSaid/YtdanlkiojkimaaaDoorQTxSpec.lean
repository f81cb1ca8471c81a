/-
  WHAT A TEXT SAYS, as the reference has it: laws.plain, spec.Parsed, laws.parsed.
-/
import Derived.Test.YtdanlkiojkimaaaDoorQTxNorm
set_option linter.constructorNameAsVariable false
set_option linter.unusedVariables false
set_option linter.unusedSimpArgs false
namespace Go.Proofs.YtdanlkiojkimaaaDoor.Rd
open Go Go.Proofs.YtdanlkiojkimaaaDoor.Ax Go.Proofs.YtdanlkiojkimaaaDoor.Wire
set_option maxRecDepth 100000
set_option maxHeartbeats 2000000
abbrev unk : B := [117, 110, 107, 110, 111, 119, 110]
def Plain (l : B) : Prop := l.length ≤ 200 ∧ nrm l ≠ unk ∧ ∀ c ∈ l, c.toNat < 128
theorem plain_x (H : Heap) (l : B) (hl : l.length ≤ 2147483647) : ∃ v H', CA P NS 20 [S l] H (v, H') ∧ ((∃ b, v = .b b ∧ (b = true → Plain l)) ∧ Kp H H') := by
  have hlen := s_len l
  have hg := gtrJ 3 true (l.length : Nat) 200
  refine CA.wp (fn := Tryd.f20) (R := fun v H' => (∃ b, v = .b b ∧ (b = true → Plain l)) ∧ Kp H H') (by kernel_rfl) rfl ?_
  by_cases h2 : l.length ≤ 200
  rotate_left
  · rw [decide_eq_true (by omega)] at hg
    generalize ((l.length : Nat) : Int) = ni at hg hlen
    dsimp only [Tryd.f20]
    dsimp only [List.length_cons, List.length_nil, List.cons_append, List.nil_append, Nat.reduceSub, Nat.reduceAdd, List.replicate]
    ((repeat with_reducible refine WP.seqs ?_); refine WP.rz ?_)
    ((repeat with_reducible refine WP.seqs ?_); refine WP.rz ?_)
    ((repeat with_reducible refine WP.seqs ?_); first | refine WP.seq (WP.condT rfl ?_) | refine WP.condT rfl ?_)
    ((repeat with_reducible refine WP.seqs ?_); refine WP.rz ?_)
    refine WP.ret ?_; repeat (first | with_reducible refine Sq.n ?_ | with_reducible refine Sq.ret ?_ | with_reducible refine Sq.exit ?_ | with_reducible refine Bk.n ?_ | with_reducible refine Bk.ret ?_ | with_reducible refine Bk.exit ?_ | with_reducible refine Bk.ex' (by decide) ?_ | with_reducible refine Lp.ret ?_ | with_reducible refine Lp.exit ?_ | with_reducible refine Lx.exit ?_)
    exact Fe.r1 rfl ⟨⟨false, rfl, fun h => by cases h⟩, Kp.refl H⟩
  rw [decide_eq_false (by omega)] at hg
  obtain ⟨nv, H1, hnc, rfl, k1⟩ := norm_x H l (by omega)
  have he : binA P .eql 9 true (S (nrm l)) (.s { data := #[117, 110, 107, 110, 111, 119, 110] }) = some (.b (decide (nrm l = unk))) := s_eq 9 true (nrm l) unk
  by_cases hu : nrm l = unk
  · rw [decide_eq_true hu] at he
    generalize ((l.length : Nat) : Int) = ni at hg hlen
    dsimp only [Tryd.f20]
    dsimp only [List.length_cons, List.length_nil, List.cons_append, List.nil_append, Nat.reduceSub, Nat.reduceAdd, List.replicate]
    ((repeat with_reducible refine WP.seqs ?_); refine WP.rz ?_)
    ((repeat with_reducible refine WP.seqs ?_); refine WP.rz ?_)
    ((repeat with_reducible refine WP.seqs ?_); first | refine WP.seq (WP.condT rfl ?_) | refine WP.condT rfl ?_)
    ((repeat with_reducible refine WP.seqs ?_); refine WP.rz ?_)
    refine WP.ret ?_; repeat (first | with_reducible refine Sq.n ?_ | with_reducible refine Sq.ret ?_ | with_reducible refine Sq.exit ?_ | with_reducible refine Bk.n ?_ | with_reducible refine Bk.ret ?_ | with_reducible refine Bk.exit ?_ | with_reducible refine Bk.ex' (by decide) ?_ | with_reducible refine Lp.ret ?_ | with_reducible refine Lp.exit ?_ | with_reducible refine Lx.exit ?_)
    exact Fe.r1 rfl ⟨⟨false, rfl, fun h => by cases h⟩, k1⟩
  rw [decide_eq_false hu] at he
  generalize hni : ((l.length : Nat) : Int) = ni at hg hlen
  dsimp only [Tryd.f20]
  dsimp only [List.length_cons, List.length_nil, List.cons_append, List.nil_append, Nat.reduceSub, Nat.reduceAdd, List.replicate]
  ((repeat with_reducible refine WP.seqs ?_); refine WP.rz ?_)
  ((repeat with_reducible refine WP.seqs ?_); refine WP.rz ?_)
  ((repeat with_reducible refine WP.seqs ?_); first | refine WP.seq (WP.condF rfl ?_) | refine WP.condF rfl ?_)
  refine WP.skip ?_; repeat (first | with_reducible refine Sq.n ?_ | with_reducible refine Sq.ret ?_ | with_reducible refine Sq.exit ?_ | with_reducible refine Bk.n ?_ | with_reducible refine Bk.ret ?_ | with_reducible refine Bk.exit ?_ | with_reducible refine Bk.ex' (by decide) ?_ | with_reducible refine Lp.ret ?_ | with_reducible refine Lp.exit ?_ | with_reducible refine Lx.exit ?_)
  ((repeat with_reducible refine WP.seqs ?_); refine WP.rz ?_)
  ((repeat with_reducible refine WP.seqs ?_); first | refine WP.seq (WP.block ?_) | refine WP.block ?_)
  refine WP.loop (Inv := fun j fr H2 => ∃ (x1 x2 x4 x5 x6 x7 x8 x9 x10 x11 x12 x13 x14 x15 x16 x17 x18 x19 x20 x21 : AV), H2 = H1 ∧ j ≤ l.length ∧ (∀ c ∈ l.take j, c.toNat < 128) ∧ fr = [S l, x1, x2, .i .i64 (j : Nat), x4, x5, x6, x7, x8, x9, x10, x11, x12, x13, x14, x15, x16, x17, x18, x19, x20, x21]) l.length ?_ l.length 0 _ _ (by omega) ?_
  rotate_left
  · exact ⟨_, _, _, _, _, _, _, _, _, _, _, _, _, _, _, _, _, _, _, _, rfl, by omega, by simp, rfl⟩
  intro j fr H2 hj ⟨x1, x2, x4, x5, x6, x7, x8, x9, x10, x11, x12, x13, x14, x15, x16, x17, x18, x19, x20, x21, hH, hjl, hall, hfr⟩
  subst hfr
  subst hH
  have hls := lssI 3 false (j : Nat) (l.length : Nat)
  rw [hni] at hls
  by_cases hlt : j < l.length
  rotate_left
  · obtain rfl : j = l.length := by omega
    rw [List.take_length] at hall
    have hls : binA P .lss 3 false (.i .i64 (l.length : Nat)) (.i .i64 ni) = some (.b false) := by rw [hls, ← hni]; simp
    have hres : (∃ b, AV.b true = .b b ∧ (b = true → Plain l)) ∧ Kp H H2 := ⟨⟨true, rfl, fun _ => ⟨h2, hu, hall⟩⟩, k1⟩
    generalize ((l.length : Nat) : Int) = nj at hls
    ((repeat with_reducible refine WP.seqs ?_); refine WP.rz ?_)
    ((repeat with_reducible refine WP.seqs ?_); first | refine WP.seq (WP.condF rfl ?_) | refine WP.condF rfl ?_)
    refine WP.exit ?_; repeat (first | with_reducible refine Sq.n ?_ | with_reducible refine Sq.ret ?_ | with_reducible refine Sq.exit ?_ | with_reducible refine Bk.n ?_ | with_reducible refine Bk.ret ?_ | with_reducible refine Bk.exit ?_ | with_reducible refine Bk.ex' (by decide) ?_ | with_reducible refine Lp.ret ?_ | with_reducible refine Lp.exit ?_ | with_reducible refine Lx.exit ?_)
    ((repeat with_reducible refine WP.seqs ?_); refine WP.rz ?_)
    refine WP.ret ?_; repeat (first | with_reducible refine Sq.n ?_ | with_reducible refine Sq.ret ?_ | with_reducible refine Sq.exit ?_ | with_reducible refine Bk.n ?_ | with_reducible refine Bk.ret ?_ | with_reducible refine Bk.exit ?_ | with_reducible refine Bk.ex' (by decide) ?_ | with_reducible refine Lp.ret ?_ | with_reducible refine Lp.exit ?_ | with_reducible refine Lx.exit ?_)
    exact Fe.r1 rfl hres
  have hls : binA P .lss 3 false (.i .i64 (j : Nat)) (.i .i64 ni) = some (.b true) := by rw [hls, ← hni]; simp; omega
  obtain ⟨b, hb⟩ : ∃ b, l[j]? = some b := ⟨l[j], by simp [hlt]⟩
  have hix := s_ix hb
  have had : binA P .add 3 true (.i .i64 (j : Nat)) (.i .i64 1) = some (.i .i64 ((j + 1 : Nat) : Int)) := addn 3 true j 1 (by omega)
  have hgt : binA P .gtr 5 true (U8 b) (.i .u8 127) = some (.b (decide (127 < b.toNat))) := by
    unfold U8; rw [gtr]; congr 2; simp only [decide_eq_decide]; omega
  have hnext : b.toNat < 128 → ∀ c ∈ l.take (j + 1), c.toNat < 128 := fun h c hc => by
    rw [List.take_add_one, hb] at hc
    simp only [Option.toList_some, List.mem_append, List.mem_singleton] at hc
    rcases hc with hc | rfl
    · exact hall c hc
    · exact h
  generalize hj1 : ((j + 1 : Nat) : Int) = j1 at had
  generalize ((j : Nat) : Int) = ji at hls hix had
  generalize U8 b = y at hix hgt
  by_cases hbig : 127 < b.toNat
  · rw [decide_eq_true hbig] at hgt
    ((repeat with_reducible refine WP.seqs ?_); refine WP.rz ?_)
    ((repeat with_reducible refine WP.seqs ?_); first | refine WP.seq (WP.condT rfl ?_) | refine WP.condT rfl ?_)
    refine WP.skip ?_; repeat (first | with_reducible refine Sq.n ?_ | with_reducible refine Sq.ret ?_ | with_reducible refine Sq.exit ?_ | with_reducible refine Bk.n ?_ | with_reducible refine Bk.ret ?_ | with_reducible refine Bk.exit ?_ | with_reducible refine Bk.ex' (by decide) ?_ | with_reducible refine Lp.ret ?_ | with_reducible refine Lp.exit ?_ | with_reducible refine Lx.exit ?_)
    ((repeat with_reducible refine WP.seqs ?_); first | refine WP.seq (WP.block ?_) | refine WP.block ?_)
    ((repeat with_reducible refine WP.seqs ?_); refine WP.rz ?_)
    ((repeat with_reducible refine WP.seqs ?_); first | refine WP.seq (WP.condT rfl ?_) | refine WP.condT rfl ?_)
    ((repeat with_reducible refine WP.seqs ?_); refine WP.rz ?_)
    refine WP.ret ?_; repeat (first | with_reducible refine Sq.n ?_ | with_reducible refine Sq.ret ?_ | with_reducible refine Sq.exit ?_ | with_reducible refine Bk.n ?_ | with_reducible refine Bk.ret ?_ | with_reducible refine Bk.exit ?_ | with_reducible refine Bk.ex' (by decide) ?_ | with_reducible refine Lp.ret ?_ | with_reducible refine Lp.exit ?_ | with_reducible refine Lx.exit ?_)
    exact Fe.r1 rfl ⟨⟨false, rfl, fun h => by cases h⟩, k1⟩
  · rw [decide_eq_false hbig] at hgt
    ((repeat with_reducible refine WP.seqs ?_); refine WP.rz ?_)
    ((repeat with_reducible refine WP.seqs ?_); first | refine WP.seq (WP.condT rfl ?_) | refine WP.condT rfl ?_)
    refine WP.skip ?_; repeat (first | with_reducible refine Sq.n ?_ | with_reducible refine Sq.ret ?_ | with_reducible refine Sq.exit ?_ | with_reducible refine Bk.n ?_ | with_reducible refine Bk.ret ?_ | with_reducible refine Bk.exit ?_ | with_reducible refine Bk.ex' (by decide) ?_ | with_reducible refine Lp.ret ?_ | with_reducible refine Lp.exit ?_ | with_reducible refine Lx.exit ?_)
    ((repeat with_reducible refine WP.seqs ?_); first | refine WP.seq (WP.block ?_) | refine WP.block ?_)
    ((repeat with_reducible refine WP.seqs ?_); refine WP.rz ?_)
    ((repeat with_reducible refine WP.seqs ?_); first | refine WP.seq (WP.condF rfl ?_) | refine WP.condF rfl ?_)
    refine WP.skip ?_; repeat (first | with_reducible refine Sq.n ?_ | with_reducible refine Sq.ret ?_ | with_reducible refine Sq.exit ?_ | with_reducible refine Bk.n ?_ | with_reducible refine Bk.ret ?_ | with_reducible refine Bk.exit ?_ | with_reducible refine Bk.ex' (by decide) ?_ | with_reducible refine Lp.ret ?_ | with_reducible refine Lp.exit ?_ | with_reducible refine Lx.exit ?_)
    refine WP.rze ?_; repeat (first | with_reducible refine Sq.n ?_ | with_reducible refine Sq.ret ?_ | with_reducible refine Sq.exit ?_ | with_reducible refine Bk.n ?_ | with_reducible refine Bk.ret ?_ | with_reducible refine Bk.exit ?_ | with_reducible refine Bk.ex' (by decide) ?_ | with_reducible refine Lp.ret ?_ | with_reducible refine Lp.exit ?_ | with_reducible refine Lx.exit ?_)
    subst hj1
    exact ⟨hlt, _, _, _, _, _, _, _, _, _, _, _, _, _, _, _, _, _, _, _, _, rfl, by omega, hnext (by omega), rfl⟩
def nmc (ns : List (Int × B)) : List AV := ns.flatMap fun p => [.i .i64 p.1, S p.2]
def NmAt (H : Heap) (av : AV) (ns : List (Int × B)) : Prop := ∃ i, av = .sl i 0 ns.length ∧ H[i]? = some (.cells 99 .row (nmc ns))
theorem nmc_len : ∀ ns : List (Int × B), (nmc ns).length = ns.length * 2
  | [] => rfl
  | p :: r => by
    have := nmc_len r
    simp only [nmc, List.flatMap_cons, List.length_append, List.length_cons, List.length_nil] at this ⊢
    omega
theorem nmc_el : ∀ (ns : List (Int × B)) (j : Nat) (p : Int × B), ns[j]? = some p → ((nmc ns).drop (j * 2)).take 2 = [.i .i64 p.1, S p.2]
  | [], j, p, h => by simp at h
  | q :: r, 0, p, h => by simp at h; subst h; rfl
  | q :: r, j + 1, p, h => by
    have := nmc_el r j p (by simpa using h)
    rw [show (j + 1) * 2 = j * 2 + 2 by omega]
    exact this
def findN : List (Int × B) → B → Option Int
  | [], _ => none
  | (n, w) :: r, m => if nrm w = m then some n else findN r m
theorem findN_drop {ns : List (Int × B)} {m : B} : ∀ (j : Nat), (∀ p ∈ ns.take j, nrm p.2 ≠ m) → findN ns m = findN (ns.drop j) m := by
  induction ns with
  | nil => intro j _; simp
  | cons q r ih =>
    intro j h
    cases j with
    | zero => rfl
    | succ j =>
      have h1 := h q (by simp)
      obtain ⟨n, w⟩ := q
      rw [List.drop_succ_cons, findN, if_neg h1]
      exact ih j fun p hp => h p (by simp [hp])
def ansN (x : Option Int) : AV := match x with
  | some n => .t [.i .i64 n, .b true]
  | none => .t [.i .i64 0, .b false]
theorem parsedS_x {H : Heap} {av : AV} {ns : List (Int × B)} {l : B} (hn : NmAt H av ns) (hw : ∀ p ∈ ns, p.2.length ≤ 1048576) (h0 : 0 < ns.length) (hl : l.length ≤ 1048576) (hnl : ns.length ≤ 1000) : ∃ v H', CA P NS 54 [av, S l] H (v, H') ∧ (v = ansN (findN ns (nrm l)) ∧ Kp H H') := by
  obtain ⟨i, rfl, hat⟩ := hn
  have hln : lenA P 54 (.sl i 0 ns.length) = some (.i .i64 (ns.length : Nat)) := by
    have hu : P.underlying 54 = some (.slice 99) := by kernel_rfl
    unfold lenA
    simp [hu]
  refine CA.wp (fn := Tryd.f54) (R := fun v H' => v = ansN (findN ns (nrm l)) ∧ Kp H H') (by kernel_rfl) rfl ?_
  generalize hni : ((ns.length : Nat) : Int) = ni at hln
  dsimp only [Tryd.f54]
  dsimp only [List.length_cons, List.length_nil, List.cons_append, List.nil_append, Nat.reduceSub, Nat.reduceAdd, List.replicate]
  ((repeat with_reducible refine WP.seqs ?_); refine WP.rz ?_)
  ((repeat with_reducible refine WP.seqs ?_); refine WP.rz ?_)
  ((repeat with_reducible refine WP.seqs ?_); first | refine WP.seq (WP.block ?_) | refine WP.block ?_)
  refine WP.loop (Inv := fun j fr H1 => ∃ (x2 x3 x4 x5 x6 x7 x11 x12 x13 x14 x15 x16 x17 x18 x19 x20 x21 x22 : AV), Kp H H1 ∧ j ≤ ns.length ∧ (∀ p ∈ ns.take j, nrm p.2 ≠ nrm l) ∧ fr = [.sl i 0 ns.length, S l, x2, x3, x4, x5, x6, x7, .sl i 0 ns.length, .i .i64 ni, .i .i64 (j : Nat), x11, x12, x13, x14, x15, x16, x17, x18, x19, x20, x21, x22]) ns.length ?_ ns.length 0 _ _ (by omega) ?_
  rotate_left
  · exact ⟨_, _, _, _, _, _, _, _, _, _, _, _, _, _, _, _, _, _, Kp.refl H, by omega, by simp, rfl⟩
  intro j fr H1 hj ⟨x2, x3, x4, x5, x6, x7, x11, x12, x13, x14, x15, x16, x17, x18, x19, x20, x21, x22, hk, hjl, hno, hfr⟩
  subst hfr
  have hls := lssI 3 false (j : Nat) (ns.length : Nat)
  rw [hni] at hls
  by_cases hlt : j < ns.length
  rotate_left
  · obtain rfl : j = ns.length := by omega
    have hls : binA P .lss 3 false (.i .i64 (ns.length : Nat)) (.i .i64 ni) = some (.b false) := by rw [hls, ← hni]; simp
    have hres : AV.t [.i .i64 0, .b false] = ansN (findN ns (nrm l)) ∧ Kp H H1 := by
      refine ⟨?_, hk⟩
      rw [findN_drop ns.length hno, List.drop_length]; rfl
    generalize ((ns.length : Nat) : Int) = nj at hls
    ((repeat with_reducible refine WP.seqs ?_); refine WP.rz ?_)
    ((repeat with_reducible refine WP.seqs ?_); first | refine WP.seq (WP.condF rfl ?_) | refine WP.condF rfl ?_)
    refine WP.exit ?_; repeat (first | with_reducible refine Sq.n ?_ | with_reducible refine Sq.ret ?_ | with_reducible refine Sq.exit ?_ | with_reducible refine Bk.n ?_ | with_reducible refine Bk.ret ?_ | with_reducible refine Bk.exit ?_ | with_reducible refine Bk.ex' (by decide) ?_ | with_reducible refine Lp.ret ?_ | with_reducible refine Lp.exit ?_ | with_reducible refine Lx.exit ?_)
    ((repeat with_reducible refine WP.seqs ?_); refine WP.rz ?_)
    refine WP.ret ?_; repeat (first | with_reducible refine Sq.n ?_ | with_reducible refine Sq.ret ?_ | with_reducible refine Sq.exit ?_ | with_reducible refine Bk.n ?_ | with_reducible refine Bk.ret ?_ | with_reducible refine Bk.exit ?_ | with_reducible refine Bk.ex' (by decide) ?_ | with_reducible refine Lp.ret ?_ | with_reducible refine Lp.exit ?_ | with_reducible refine Lx.exit ?_)
    exact Fe.ret rfl hres
  have hls : binA P .lss 3 false (.i .i64 (j : Nat)) (.i .i64 ni) = some (.b true) := by rw [hls, ← hni]; simp; omega
  obtain ⟨p, hp⟩ : ∃ p, ns[j]? = some p := ⟨ns[j], by simp [hlt]⟩
  obtain ⟨n, w⟩ := p
  have hel := nmc_el ns j _ hp
  have hnl2 := nmc_len ns
  have hat1 := hk.at_ hat
  have hia : indexAddrA P 54 (.sl i 0 ns.length) (.i .i64 (j : Nat)) = some (.p i (j * 2)) := by
    have he : elemA P 54 = some 99 := by kernel_rfl
    have hz : sizeA P 99 = some 2 := by kernel_rfl
    simp only [indexAddrA, he, hz]
    rw [if_pos ⟨by omega, by omega⟩]
    simp
  have hld : loadA P H1 99 (.p i (j * 2)) = some (.g [.i .i64 n, S w]) := by
    have ag : aggA P 99 = some true := by kernel_rfl
    have hz : sizeA P 99 = some 2 := by kernel_rfl
    simp only [loadA, loadAt, hat1, ag, hz]
    rw [if_pos (by rw [hnl2]; omega), hel]
  obtain ⟨b, H2, H3, hal, hst, k3, v3, hb, _, _, _⟩ := alloc_new (H := H1) (e := 99) (z := [.i .i64 0, .s ⟨#[]⟩]) (cs := [.i .i64 n, S w]) (sz := 2) (by kernel_rfl) rfl (by kernel_rfl) rfl rfl rfl
  have hf1 : fieldAddrA P 99 (.p b 0) 1 = some (.p b 1) := by kernel_rfl
  have hf0 : fieldAddrA P 99 (.p b 0) 0 = some (.p b 0) := by kernel_rfl
  have hl1 : loadA P H3 9 (.p b 1) = some (S w) := ldk v3 (by kernel_rfl) rfl
  obtain ⟨nv, H4, hc1, rfl, k4⟩ := norm_x H3 w (hw (n, w) (List.mem_of_getElem? hp))
  obtain ⟨nv, H5, hc2, rfl, k5⟩ := norm_x H4 l hl
  have hl0 : loadA P H5 3 (.p b 0) = some (.i .i64 n) := ldk ((k4.trans k5).at_ v3) (by kernel_rfl) rfl
  have he := s_eq 9 false (nrm w) (nrm l)
  have hkk := ((hk.trans k3).trans k4).trans k5
  have had : binA P .add 3 true (.i .i64 (j : Nat)) (.i .i64 1) = some (.i .i64 ((j + 1 : Nat) : Int)) := addn 3 true j 1 (by omega)
  have hfd : findN ns (nrm l) = findN (ns.drop j) (nrm l) := findN_drop j hno
  have hdr : ns.drop j = (n, w) :: ns.drop (j + 1) := by
    rw [List.drop_eq_getElem_cons hlt]
    have := (List.getElem?_eq_some_iff.1 hp).2
    rw [this]
  rw [hdr, findN] at hfd
  have hno2 : nrm w ≠ nrm l → ∀ q ∈ ns.take (j + 1), nrm q.2 ≠ nrm l := fun h q hq => by
    rw [List.take_add_one, hp] at hq
    simp only [Option.toList_some, List.mem_append, List.mem_singleton] at hq
    rcases hq with hq | rfl
    · exact hno q hq
    · exact h
  generalize hj1 : ((j + 1 : Nat) : Int) = j1 at had
  generalize ((j : Nat) : Int) = ji at hls hia had
  generalize j * 2 = j2 at hia hld
  by_cases heq : nrm w = nrm l
  · rw [decide_eq_true heq] at he
    rw [if_pos heq] at hfd
    have hres : AV.t [.i .i64 n, .b true] = ansN (findN ns (nrm l)) ∧ Kp H H5 := by rw [hfd]; exact ⟨rfl, hkk⟩
    ((repeat with_reducible refine WP.seqs ?_); refine WP.rz ?_)
    ((repeat with_reducible refine WP.seqs ?_); first | refine WP.seq (WP.condT rfl ?_) | refine WP.condT rfl ?_)
    refine WP.skip ?_; repeat (first | with_reducible refine Sq.n ?_ | with_reducible refine Sq.ret ?_ | with_reducible refine Sq.exit ?_ | with_reducible refine Bk.n ?_ | with_reducible refine Bk.ret ?_ | with_reducible refine Bk.exit ?_ | with_reducible refine Bk.ex' (by decide) ?_ | with_reducible refine Lp.ret ?_ | with_reducible refine Lp.exit ?_ | with_reducible refine Lx.exit ?_)
    ((repeat with_reducible refine WP.seqs ?_); first | refine WP.seq (WP.block ?_) | refine WP.block ?_)
    ((repeat with_reducible refine WP.seqs ?_); refine WP.rz ?_)
    ((repeat with_reducible refine WP.seqs ?_); refine WP.rz ?_)
    ((repeat with_reducible refine WP.seqs ?_); first | refine WP.seq (WP.condT rfl ?_) | refine WP.condT rfl ?_)
    ((repeat with_reducible refine WP.seqs ?_); refine WP.rz ?_)
    refine WP.ret ?_; repeat (first | with_reducible refine Sq.n ?_ | with_reducible refine Sq.ret ?_ | with_reducible refine Sq.exit ?_ | with_reducible refine Bk.n ?_ | with_reducible refine Bk.ret ?_ | with_reducible refine Bk.exit ?_ | with_reducible refine Bk.ex' (by decide) ?_ | with_reducible refine Lp.ret ?_ | with_reducible refine Lp.exit ?_ | with_reducible refine Lx.exit ?_)
    exact Fe.ret rfl hres
  · rw [decide_eq_false heq] at he
    ((repeat with_reducible refine WP.seqs ?_); refine WP.rz ?_)
    ((repeat with_reducible refine WP.seqs ?_); first | refine WP.seq (WP.condT rfl ?_) | refine WP.condT rfl ?_)
    refine WP.skip ?_; repeat (first | with_reducible refine Sq.n ?_ | with_reducible refine Sq.ret ?_ | with_reducible refine Sq.exit ?_ | with_reducible refine Bk.n ?_ | with_reducible refine Bk.ret ?_ | with_reducible refine Bk.exit ?_ | with_reducible refine Bk.ex' (by decide) ?_ | with_reducible refine Lp.ret ?_ | with_reducible refine Lp.exit ?_ | with_reducible refine Lx.exit ?_)
    ((repeat with_reducible refine WP.seqs ?_); first | refine WP.seq (WP.block ?_) | refine WP.block ?_)
    ((repeat with_reducible refine WP.seqs ?_); refine WP.rz ?_)
    ((repeat with_reducible refine WP.seqs ?_); refine WP.rz ?_)
    ((repeat with_reducible refine WP.seqs ?_); first | refine WP.seq (WP.condF rfl ?_) | refine WP.condF rfl ?_)
    refine WP.skip ?_; repeat (first | with_reducible refine Sq.n ?_ | with_reducible refine Sq.ret ?_ | with_reducible refine Sq.exit ?_ | with_reducible refine Bk.n ?_ | with_reducible refine Bk.ret ?_ | with_reducible refine Bk.exit ?_ | with_reducible refine Bk.ex' (by decide) ?_ | with_reducible refine Lp.ret ?_ | with_reducible refine Lp.exit ?_ | with_reducible refine Lx.exit ?_)
    refine WP.rze ?_; repeat (first | with_reducible refine Sq.n ?_ | with_reducible refine Sq.ret ?_ | with_reducible refine Sq.exit ?_ | with_reducible refine Bk.n ?_ | with_reducible refine Bk.ret ?_ | with_reducible refine Bk.exit ?_ | with_reducible refine Bk.ex' (by decide) ?_ | with_reducible refine Lp.ret ?_ | with_reducible refine Lp.exit ?_ | with_reducible refine Lx.exit ?_)
    subst hj1
    exact ⟨hlt, _, _, _, _, _, _, _, _, _, _, _, _, _, _, _, _, _, _, hkk, by omega, hno2 heq, rfl⟩
theorem parsed_x {H : Heap} {av : AV} {ns : List (Int × B)} {l : B} {n : Int} {ok : Bool} (hn : NmAt H av ns) (hw : ∀ p ∈ ns, p.2.length ≤ 1048576) (h0 : 0 < ns.length) (hl : l.length ≤ 1048576) (hnl : ns.length ≤ 1000) (hans : AV.t [.i .i64 n, .b ok] = ansN (findN ns (nrm l))) : ∃ v H', CA P NS 23 [av, S l, .i .i64 n, .b ok] H (v, H') ∧ (v = .b true ∧ Kp H H') := by
  obtain ⟨v, H1, hc, rfl, k1⟩ := parsedS_x hn hw h0 hl hnl
  rw [← hans] at hc
  refine CA.wp (fn := Tryd.f23) (R := fun v H' => v = .b true ∧ Kp H H') (by kernel_rfl) rfl ?_
  cases ok with
  | false =>
    have hb : binA P .eql 4 false (.b false) (.b false) = some (.b true) := by kernel_rfl
    dsimp only [Tryd.f23]
    dsimp only [List.length_cons, List.length_nil, List.cons_append, List.nil_append, Nat.reduceSub, Nat.reduceAdd, List.replicate]
    ((repeat with_reducible refine WP.seqs ?_); refine WP.rz ?_)
    ((repeat with_reducible refine WP.seqs ?_); refine WP.rz ?_)
    ((repeat with_reducible refine WP.seqs ?_); refine WP.rz ?_)
    refine WP.ret ?_; repeat (first | with_reducible refine Sq.n ?_ | with_reducible refine Sq.ret ?_ | with_reducible refine Sq.exit ?_ | with_reducible refine Bk.n ?_ | with_reducible refine Bk.ret ?_ | with_reducible refine Bk.exit ?_ | with_reducible refine Bk.ex' (by decide) ?_ | with_reducible refine Lp.ret ?_ | with_reducible refine Lp.exit ?_ | with_reducible refine Lx.exit ?_)
    exact Fe.r1 rfl ⟨rfl, k1⟩
  | true =>
    have hb : binA P .eql 4 false (.b true) (.b true) = some (.b true) := by kernel_rfl
    have hb2 : binA P .eql 3 false (.i .i64 n) (.i .i64 n) = some (.b true) := by rw [eqlI, decide_eq_true rfl]
    dsimp only [Tryd.f23]
    dsimp only [List.length_cons, List.length_nil, List.cons_append, List.nil_append, Nat.reduceSub, Nat.reduceAdd, List.replicate]
    ((repeat with_reducible refine WP.seqs ?_); refine WP.rz ?_)
    ((repeat with_reducible refine WP.seqs ?_); refine WP.rz ?_)
    ((repeat with_reducible refine WP.seqs ?_); refine WP.rz ?_)
    refine WP.ret ?_; repeat (first | with_reducible refine Sq.n ?_ | with_reducible refine Sq.ret ?_ | with_reducible refine Sq.exit ?_ | with_reducible refine Bk.n ?_ | with_reducible refine Bk.ret ?_ | with_reducible refine Bk.exit ?_ | with_reducible refine Bk.ex' (by decide) ?_ | with_reducible refine Lp.ret ?_ | with_reducible refine Lp.exit ?_ | with_reducible refine Lx.exit ?_)
    exact Fe.r1 rfl ⟨rfl, k1⟩
end Go.Proofs.YtdanlkiojkimaaaDoor.Rd

