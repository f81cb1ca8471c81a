/-
  THE LAW's OWN FUNCTIONS over tags: do they fit, the tags as the reference has them.
-/
import Derived.Test.YtdoaobkfbjegpaaQApUv
set_option linter.constructorNameAsVariable false
set_option linter.unusedVariables false
set_option linter.unusedSimpArgs false
namespace Go.Proofs.Ytdoaobkfbjegpaa.Rd
open Go Go.Proofs.Ytdoaobkfbjegpaa.Ax Go.Proofs.Ytdoaobkfbjegpaa.Wire
set_option maxRecDepth 100000
set_option maxHeartbeats 2000000
theorem elI : elemA P 22 = some 39 := by kernel_rfl
theorem zI : sizeA P 39 = some 2 := by kernel_rfl
theorem aI : aggA P 39 = some true := by kernel_rfl
theorem zeroI : zeroA P 39 = some (.g [.i .u32 0, .s0]) := by kernel_rfl
theorem bytesI : bytesA P 39 = some 32 := by kernel_rfl
theorem xI0 (b : Nat) : fieldAddrA P 39 (.p b 0) 0 = some (.p b 0) := by kernel_rfl
theorem xI1 (b : Nat) : fieldAddrA P 39 (.p b 0) 1 = some (.p b 1) := by kernel_rfl
theorem fits6_x {H : Heap} {k : Int} {w : AV} {bs : B} {A : Nat → Prop} (hw : BytesAt A H w bs) (hA : ∀ i, A i → i < H.length) : ∃ v H', CA P NS 12 [.g [.i .u32 k, w]] H (v, H') ∧ (∃ b, v = .b b) ∧ Kp H H' := by
  have hone := (BytesAt.one' hw).2
  obtain ⟨b1, H1, hbx1, k1, v1, _⟩ := box_new (H := H) (e := 39) (cs := [.i .u32 k, w]) (by have : (AV.i .u32 k).one = true := rfl; simp [hone, this])
  refine CA.wp (fn := Try.f12) (R := fun v H' => (∃ b, v = .b b) ∧ Kp H H') (by kernel_rfl) rfl ?_
  have hl := hw.len bty
  have x1 := xI1 b1
  have hlw : loadA P H1 28 (.p b1 1) = some w := ldk v1 a_bs rfl
  have e1 := gtrJ 3 true (bs.length : Nat) 2147483647
  generalize ((bs.length : Nat) : Int) = n at hl e1
  cases c1 : decide (n > 2147483647) with
  | false =>
    rw [c1] at e1
    dsimp only [Try.f12]
    dsimp only [List.length_cons, List.length_nil, List.cons_append, List.nil_append, Nat.reduceSub, Nat.reduceAdd, List.replicate]
    ((repeat with_reducible refine WP.seqs ?_); refine WP.rg ?_)
    ((repeat with_reducible refine WP.seqs ?_); refine WP.rg ?_)
    ((repeat with_reducible refine WP.seqs ?_); first | refine WP.seq (WP.condF rfl ?_) | refine WP.condF rfl ?_)
    refine WP.skip ?_; repeat (first | with_reducible refine Sq.n ?_ | with_reducible refine Sq.ret ?_ | with_reducible refine Sq.exit ?_ | with_reducible refine Bk.n ?_ | with_reducible refine Bk.ret ?_ | with_reducible refine Bk.exit ?_ | with_reducible refine Bk.ex' (by decide) ?_ | with_reducible refine Lp.ret ?_ | with_reducible refine Lp.exit ?_ | with_reducible refine Lx.exit ?_)
    ((repeat with_reducible refine WP.seqs ?_); refine WP.rg ?_)
    refine WP.ret ?_; repeat (first | with_reducible refine Sq.n ?_ | with_reducible refine Sq.ret ?_ | with_reducible refine Sq.exit ?_ | with_reducible refine Bk.n ?_ | with_reducible refine Bk.ret ?_ | with_reducible refine Bk.exit ?_ | with_reducible refine Bk.ex' (by decide) ?_ | with_reducible refine Lp.ret ?_ | with_reducible refine Lp.exit ?_ | with_reducible refine Lx.exit ?_)
    exact Fe.r1 rfl ⟨⟨_, rfl⟩, k1⟩
  | true =>
    rw [c1] at e1
    dsimp only [Try.f12]
    dsimp only [List.length_cons, List.length_nil, List.cons_append, List.nil_append, Nat.reduceSub, Nat.reduceAdd, List.replicate]
    ((repeat with_reducible refine WP.seqs ?_); refine WP.rg ?_)
    ((repeat with_reducible refine WP.seqs ?_); refine WP.rg ?_)
    ((repeat with_reducible refine WP.seqs ?_); first | refine WP.seq (WP.condT rfl ?_) | refine WP.condT rfl ?_)
    ((repeat with_reducible refine WP.seqs ?_); refine WP.rg ?_)
    refine WP.ret ?_; repeat (first | with_reducible refine Sq.n ?_ | with_reducible refine Sq.ret ?_ | with_reducible refine Sq.exit ?_ | with_reducible refine Bk.n ?_ | with_reducible refine Bk.ret ?_ | with_reducible refine Bk.exit ?_ | with_reducible refine Bk.ex' (by decide) ?_ | with_reducible refine Lp.ret ?_ | with_reducible refine Lp.exit ?_ | with_reducible refine Lx.exit ?_)
    exact Fe.r1 rfl ⟨⟨_, rfl⟩, k1⟩
theorem ex18 (fr : List AV) (h : fr.length = 18) : ∃ g : Nat → AV, fr = [g 0, g 1, g 2, g 3, g 4, g 5, g 6, g 7, g 8, g 9, g 10, g 11, g 12, g 13, g 14, g 15, g 16, g 17] := by
  obtain ⟨g, rfl⟩ := exM 18 fr h
  exact ⟨g, rfl⟩
theorem fits5_x {H : Heap} {u : AV} {us : List (Nat × B)} (hu : TgAt H u us) : ∃ v H', CA P NS 4 [u] H (v, H') ∧ (∃ b, v = .b b ∧ (b = true → us.length ≤ 2147483647)) ∧ Kp H H' := by
  refine CA.wp (fn := Try.f4) (R := fun v H' => (∃ b, v = .b b ∧ (b = true → us.length ≤ 2147483647)) ∧ Kp H H') (by kernel_rfl) rfl ?_
  have hl := hu.1.len (t := 22) (by rw [elI]; rfl)
  have e1 := gtrJ 3 true (us.length : Nat) 2147483647
  by_cases hbig : 2147483647 < us.length
  · replace e1 : binA P .gtr 3 true (.i .i64 (us.length : Nat)) (.i .i64 2147483647) = some (.b true) := by rw [e1]; simp; omega
    generalize ((us.length : Nat) : Int) = n at hl e1
    dsimp only [Try.f4]
    dsimp only [List.length_cons, List.length_nil, List.cons_append, List.nil_append, Nat.reduceSub, Nat.reduceAdd, List.replicate]
    ((repeat with_reducible refine WP.seqs ?_); refine WP.rg ?_)
    ((repeat with_reducible refine WP.seqs ?_); refine WP.rg ?_)
    ((repeat with_reducible refine WP.seqs ?_); first | refine WP.seq (WP.condT rfl ?_) | refine WP.condT rfl ?_)
    ((repeat with_reducible refine WP.seqs ?_); refine WP.rg ?_)
    refine WP.ret ?_; repeat (first | with_reducible refine Sq.n ?_ | with_reducible refine Sq.ret ?_ | with_reducible refine Sq.exit ?_ | with_reducible refine Bk.n ?_ | with_reducible refine Bk.ret ?_ | with_reducible refine Bk.exit ?_ | with_reducible refine Bk.ex' (by decide) ?_ | with_reducible refine Lp.ret ?_ | with_reducible refine Lp.exit ?_ | with_reducible refine Lx.exit ?_)
    exact Fe.r1 rfl ⟨⟨_, rfl, fun h => by first | omega | cases h⟩, Kp.refl _⟩
  replace e1 : binA P .gtr 3 true (.i .i64 (us.length : Nat)) (.i .i64 2147483647) = some (.b false) := by rw [e1]; simp; omega
  generalize hni : ((us.length : Nat) : Int) = n at hl e1
  dsimp only [Try.f4]
  dsimp only [List.length_cons, List.length_nil, List.cons_append, List.nil_append, Nat.reduceSub, Nat.reduceAdd, List.replicate]
  ((repeat with_reducible refine WP.seqs ?_); refine WP.rg ?_)
  ((repeat with_reducible refine WP.seqs ?_); refine WP.rg ?_)
  ((repeat with_reducible refine WP.seqs ?_); first | refine WP.seq (WP.condF rfl ?_) | refine WP.condF rfl ?_)
  refine WP.skip ?_; repeat (first | with_reducible refine Sq.n ?_ | with_reducible refine Sq.ret ?_ | with_reducible refine Sq.exit ?_ | with_reducible refine Bk.n ?_ | with_reducible refine Bk.ret ?_ | with_reducible refine Bk.exit ?_ | with_reducible refine Bk.ex' (by decide) ?_ | with_reducible refine Lp.ret ?_ | with_reducible refine Lp.exit ?_ | with_reducible refine Lx.exit ?_)
  ((repeat with_reducible refine WP.seqs ?_); refine WP.rg ?_)
  ((repeat with_reducible refine WP.seqs ?_); first | refine WP.seq (WP.block ?_) | refine WP.block ?_)
  refine WP.loop (Inv := fun j fr H1 => (fr.length = 18 ∧ fr[0]? = some (u) ∧ fr[8]? = some (u) ∧ fr[9]? = some (.i .i64 n) ∧ fr[10]? = some (.i .i64 (j : Nat))) ∧ Kp H H1) us.length ?_ us.length 0 _ _ (by omega) ?_
  rotate_left
  · exact ⟨⟨rfl, rfl, rfl, rfl, rfl⟩, Kp.refl _⟩
  intro j fr H1 hj ⟨⟨hfl, hf0, hf8, hf9, hf10⟩, hk⟩
  obtain ⟨g, rfl⟩ := ex18 _ hfl; replace hf0 : g 0 = _ := Option.some.inj hf0; replace hf8 : g 8 = _ := Option.some.inj hf8; replace hf9 : g 9 = _ := Option.some.inj hf9; replace hf10 : g 10 = _ := Option.some.inj hf10; rw [hf0, hf8, hf9, hf10]; clear hfl hf0 hf8 hf9 hf10
  have hlt := lssI 3 false (j : Nat) (us.length : Nat)
  rw [hni] at hlt
  by_cases hjl : j < us.length
  · replace hlt : binA P .lss 3 false (.i .i64 (j : Nat)) (.i .i64 n) = some (.b true) := by rw [hlt]; simp; omega
    obtain ⟨kx, bx, hxj⟩ : ∃ kx bx, us[j]? = some (kx, bx) := ⟨us[j].1, us[j].2, by simp [hjl]⟩
    obtain ⟨w, hxe, hxb⟩ := hu.2 j kx bx hxj
    obtain ⟨p, c, hix, hld, hel, _⟩ := (hu.1.kp hk).idxk elI zI aI hjl
    have hc : c = [.i .u32 (kx : Nat), w] := by
      rw [hu.1.el hk hjl, hxe] at hel; cases hel; rfl
    subst hc
    have hld1 := hld H1 (Kp.refl _)
    have hwone := (BytesAt.one' hxb).2
    obtain ⟨b3, H2, H3, hal, hst, k3, v3, _, _, _, _⟩ := alloc_new (H := H1) (cs := [.i .u32 (kx : Nat), w]) zeroI rfl zI rfl rfl (by have : (AV.i .u32 (kx : Nat)).one = true := rfl; simp [this, hwone])
    have hl3 := ldw v3 aI zI rfl
    have k03 := hk.trans k3
    obtain ⟨fv, H4, hcf, ⟨fb, rfl⟩, k4⟩ := fits6_x (k := (kx : Nat)) (k03.bytes hxb) (fun i hi => hi)
    have hadd := addJ 3 true (j : Nat) 1 (by omega)
    rw [show ((j : Nat) : Int) + 1 = ((j + 1 : Nat) : Int) by omega] at hadd
    generalize hj1 : ((j + 1 : Nat) : Int) = j1 at hadd
    generalize hjj : ((j : Nat) : Int) = jj at hlt hix hadd
    generalize ((kx : Nat) : Int) = kk at hld1 hst v3 hcf hl3
    cases fb with
    | true =>
      ((repeat with_reducible refine WP.seqs ?_); refine WP.rg ?_)
      ((repeat with_reducible refine WP.seqs ?_); first | refine WP.seq (WP.condT rfl ?_) | refine WP.condT rfl ?_)
      refine WP.skip ?_; repeat (first | with_reducible refine Sq.n ?_ | with_reducible refine Sq.ret ?_ | with_reducible refine Sq.exit ?_ | with_reducible refine Bk.n ?_ | with_reducible refine Bk.ret ?_ | with_reducible refine Bk.exit ?_ | with_reducible refine Bk.ex' (by decide) ?_ | with_reducible refine Lp.ret ?_ | with_reducible refine Lp.exit ?_ | with_reducible refine Lx.exit ?_)
      ((repeat with_reducible refine WP.seqs ?_); first | refine WP.seq (WP.block ?_) | refine WP.block ?_)
      ((repeat with_reducible refine WP.seqs ?_); refine WP.rg ?_)
      ((repeat with_reducible refine WP.seqs ?_); refine WP.rg ?_)
      ((repeat with_reducible refine WP.seqs ?_); first | refine WP.seq (WP.condF rfl ?_) | refine WP.condF rfl ?_)
      refine WP.skip ?_; repeat (first | with_reducible refine Sq.n ?_ | with_reducible refine Sq.ret ?_ | with_reducible refine Sq.exit ?_ | with_reducible refine Bk.n ?_ | with_reducible refine Bk.ret ?_ | with_reducible refine Bk.exit ?_ | with_reducible refine Bk.ex' (by decide) ?_ | with_reducible refine Lp.ret ?_ | with_reducible refine Lp.exit ?_ | with_reducible refine Lx.exit ?_)
      refine WP.re ?_; repeat (first | with_reducible refine Sq.n ?_ | with_reducible refine Sq.ret ?_ | with_reducible refine Sq.exit ?_ | with_reducible refine Bk.n ?_ | with_reducible refine Bk.ret ?_ | with_reducible refine Bk.exit ?_ | with_reducible refine Bk.ex' (by decide) ?_ | with_reducible refine Lp.ret ?_ | with_reducible refine Lp.exit ?_ | with_reducible refine Lx.exit ?_)
      exact Lp.n ⟨by omega, ⟨rfl, rfl, rfl, rfl, rfl⟩, k03.trans k4⟩
    | false =>
      ((repeat with_reducible refine WP.seqs ?_); refine WP.rg ?_)
      ((repeat with_reducible refine WP.seqs ?_); first | refine WP.seq (WP.condT rfl ?_) | refine WP.condT rfl ?_)
      refine WP.skip ?_; repeat (first | with_reducible refine Sq.n ?_ | with_reducible refine Sq.ret ?_ | with_reducible refine Sq.exit ?_ | with_reducible refine Bk.n ?_ | with_reducible refine Bk.ret ?_ | with_reducible refine Bk.exit ?_ | with_reducible refine Bk.ex' (by decide) ?_ | with_reducible refine Lp.ret ?_ | with_reducible refine Lp.exit ?_ | with_reducible refine Lx.exit ?_)
      ((repeat with_reducible refine WP.seqs ?_); first | refine WP.seq (WP.block ?_) | refine WP.block ?_)
      ((repeat with_reducible refine WP.seqs ?_); refine WP.rg ?_)
      ((repeat with_reducible refine WP.seqs ?_); refine WP.rg ?_)
      ((repeat with_reducible refine WP.seqs ?_); first | refine WP.seq (WP.condT rfl ?_) | refine WP.condT rfl ?_)
      ((repeat with_reducible refine WP.seqs ?_); refine WP.rg ?_)
      refine WP.ret ?_; repeat (first | with_reducible refine Sq.n ?_ | with_reducible refine Sq.ret ?_ | with_reducible refine Sq.exit ?_ | with_reducible refine Bk.n ?_ | with_reducible refine Bk.ret ?_ | with_reducible refine Bk.exit ?_ | with_reducible refine Bk.ex' (by decide) ?_ | with_reducible refine Lp.ret ?_ | with_reducible refine Lp.exit ?_ | with_reducible refine Lx.exit ?_)
      exact Fe.r1 rfl ⟨⟨_, rfl, fun h => by first | omega | cases h⟩, k03.trans k4⟩
  · replace hlt : binA P .lss 3 false (.i .i64 (j : Nat)) (.i .i64 n) = some (.b false) := by rw [hlt]; simp; omega
    generalize ((j : Nat) : Int) = jj at hlt
    ((repeat with_reducible refine WP.seqs ?_); refine WP.rg ?_)
    ((repeat with_reducible refine WP.seqs ?_); first | refine WP.seq (WP.condF rfl ?_) | refine WP.condF rfl ?_)
    refine WP.exit ?_; repeat (first | with_reducible refine Sq.n ?_ | with_reducible refine Sq.ret ?_ | with_reducible refine Sq.exit ?_ | with_reducible refine Bk.n ?_ | with_reducible refine Bk.ret ?_ | with_reducible refine Bk.exit ?_ | with_reducible refine Bk.ex' (by decide) ?_ | with_reducible refine Lp.ret ?_ | with_reducible refine Lp.exit ?_ | with_reducible refine Lx.exit ?_)
    ((repeat with_reducible refine WP.seqs ?_); refine WP.rg ?_)
    refine WP.ret ?_; repeat (first | with_reducible refine Sq.n ?_ | with_reducible refine Sq.ret ?_ | with_reducible refine Sq.exit ?_ | with_reducible refine Bk.n ?_ | with_reducible refine Bk.ret ?_ | with_reducible refine Bk.exit ?_ | with_reducible refine Bk.ex' (by decide) ?_ | with_reducible refine Lp.ret ?_ | with_reducible refine Lp.exit ?_ | with_reducible refine Lx.exit ?_)
    exact Fe.r1 rfl ⟨⟨_, rfl, fun h => by first | omega | cases h⟩, hk⟩
end Go.Proofs.Ytdoaobkfbjegpaa.Rd

