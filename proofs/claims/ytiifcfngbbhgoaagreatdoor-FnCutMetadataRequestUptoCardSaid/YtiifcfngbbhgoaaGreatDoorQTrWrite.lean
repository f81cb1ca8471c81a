/-
  WHAT THE REFERENCE WRITES OF A MESSAGE; the sizes of what comes in.
-/
import Derived.Test.YtiifcfngbbhgoaaGreatDoorQTrPart
set_option linter.constructorNameAsVariable false
set_option linter.unusedVariables false
set_option linter.unusedSimpArgs false
namespace Go.Proofs.YtiifcfngbbhgoaaGreatDoor.Rd
open Go Go.Proofs.YtiifcfngbbhgoaaGreatDoor.Ax Go.Proofs.YtiifcfngbbhgoaaGreatDoor.Wire
set_option maxRecDepth 100000
set_option maxHeartbeats 2000000
theorem subs_all : ∀ fd : Fdl, fd.plain = true → SubsOK fd
  | .nil, _ => trivial
  | .fld kind frm to null tag dflt of sub rest, h => by
    simp only [Fdl.plain, Bool.and_eq_true, decide_eq_true_eq] at h
    obtain ⟨⟨⟨_, h5⟩, h6⟩, h7⟩ := h
    exact ⟨part_ok h6 h5 (subs_all sub h6), subs_all rest h7⟩
theorem part_all {fd : Fdl} (h : fd.plain = true) (hl : fd.len ≤ 1000) : PartOK fd := part_ok h hl (subs_all fd h)
def flexAt (fx : Int) (ver : Nat) : Bool := decide (fx ≥ 0) && decide ((ver : Int) ≥ fx)
theorem write_x {H : Heap} {av : AV} {fd : Fdl} {fx : Int} {ver : Nat} {c : List AV} {t : Tr} (hf : FdAt H av fd) (hpl : fd.plain = true) (hln : fd.len ≤ 1000) (ht : TrAt H c t) (htf : t.Fine) (hb : (partS ver (flexAt fx ver) fd t).length ≤ 549755813888) :
    ∃ out H', CA P NS 6 [.g [av, .i .i64 fx], .i .i64 (ver : Nat), .g c] H (out, H') ∧ OutAt H.length H' out (partS ver (flexAt fx ver) fd t) ∧ Kp H H' := by
  obtain ⟨s, l, u, rfl, hn, hs, hu, hl, hx, hone⟩ := ht.parts
  have h1 : av.one = true := by
    rcases hf with ⟨_, rfl | rfl⟩ | ⟨i, ty, kn, c2, rfl, _⟩ <;> rfl
  obtain ⟨b1, H1, hbx1, k1, v1, _⟩ := box_new (H := H) (e := 33) (cs := [av, .i .i64 fx]) (by have : (AV.i .i64 fx).one = true := rfl; simp [h1, this])
  obtain ⟨b2, H2, hbx2, k2, v2, _⟩ := box_new (H := H1) (e := 26) hone
  replace v1 := k2.at_ v1
  have fm0 : fieldAddrA P 33 (.p b1 0) 0 = some (.p b1 0) := by kernel_rfl
  have fm1 : fieldAddrA P 33 (.p b1 0) 1 = some (.p b1 1) := by kernel_rfl
  obtain ⟨out, H3, hcp, ho, k3⟩ := part_all hpl hln ver (flexAt fx ver) (hf.kp (k1.trans k2)) (ht.kp (k1.trans k2)) htf hb
  have e1 := geqI 3 true fx 0
  have e2 := geqI 3 false (ver : Nat) fx
  refine CA.wp (fn := Tryz.f6) (R := fun out H' => OutAt H.length H' out (partS ver (flexAt fx ver) fd t) ∧ Kp H H') (by kernel_rfl) rfl ?_
  have hfl : flexAt fx ver = (decide (fx ≥ 0) && decide ((ver : Int) ≥ fx)) := rfl
  rw [hfl] at hcp
  cases c1 : decide (fx ≥ 0) with
  | false =>
    rw [c1] at e1 hcp
    simp only [Bool.false_and] at hcp
    generalize ((ver : Nat) : Int) = vi at e2 hcp ⊢
    dsimp only [Tryz.f6]
    dsimp only [List.length_cons, List.length_nil, List.cons_append, List.nil_append, Nat.reduceSub, Nat.reduceAdd, List.replicate]
    ((repeat with_reducible refine WP.seqs ?_); refine WP.rg ?_)
    ((repeat with_reducible refine WP.seqs ?_); refine WP.rg ?_)
    refine WP.ret ?_; repeat (first | with_reducible refine Sq.n ?_ | with_reducible refine Sq.ret ?_ | with_reducible refine Sq.exit ?_ | with_reducible refine Bk.n ?_ | with_reducible refine Bk.ret ?_ | with_reducible refine Bk.exit ?_ | with_reducible refine Bk.ex' (by decide) ?_ | with_reducible refine Lp.ret ?_ | with_reducible refine Lp.exit ?_ | with_reducible refine Lx.exit ?_)
    exact Fe.r1 rfl ⟨ho.mono (k1.trans k2).1, (k1.trans k2).trans k3⟩
  | true =>
    rw [c1] at e1 hcp
    simp only [Bool.true_and] at hcp
    cases c2 : decide (((ver : Nat) : Int) ≥ fx) with
    | false =>
      rw [c2] at e2 hcp
      generalize ((ver : Nat) : Int) = vi at e2 hcp ⊢
      dsimp only [Tryz.f6]
      dsimp only [List.length_cons, List.length_nil, List.cons_append, List.nil_append, Nat.reduceSub, Nat.reduceAdd, List.replicate]
      ((repeat with_reducible refine WP.seqs ?_); refine WP.rg ?_)
      ((repeat with_reducible refine WP.seqs ?_); refine WP.rg ?_)
      refine WP.ret ?_; repeat (first | with_reducible refine Sq.n ?_ | with_reducible refine Sq.ret ?_ | with_reducible refine Sq.exit ?_ | with_reducible refine Bk.n ?_ | with_reducible refine Bk.ret ?_ | with_reducible refine Bk.exit ?_ | with_reducible refine Bk.ex' (by decide) ?_ | with_reducible refine Lp.ret ?_ | with_reducible refine Lp.exit ?_ | with_reducible refine Lx.exit ?_)
      exact Fe.r1 rfl ⟨ho.mono (k1.trans k2).1, (k1.trans k2).trans k3⟩
    | true =>
      rw [c2] at e2 hcp
      generalize ((ver : Nat) : Int) = vi at e2 hcp ⊢
      dsimp only [Tryz.f6]
      dsimp only [List.length_cons, List.length_nil, List.cons_append, List.nil_append, Nat.reduceSub, Nat.reduceAdd, List.replicate]
      ((repeat with_reducible refine WP.seqs ?_); refine WP.rg ?_)
      ((repeat with_reducible refine WP.seqs ?_); refine WP.rg ?_)
      refine WP.ret ?_; repeat (first | with_reducible refine Sq.n ?_ | with_reducible refine Sq.ret ?_ | with_reducible refine Sq.exit ?_ | with_reducible refine Bk.n ?_ | with_reducible refine Bk.ret ?_ | with_reducible refine Bk.exit ?_ | with_reducible refine Bk.ex' (by decide) ?_ | with_reducible refine Lp.ret ?_ | with_reducible refine Lp.exit ?_ | with_reducible refine Lx.exit ?_)
      exact Fe.r1 rfl ⟨ho.mono (k1.trans k2).1, (k1.trans k2).trans k3⟩
theorem fits4_x {H : Heap} {k : Int} {w : AV} {bs : B} {A : Nat → Prop} (hw : BytesAt A H w bs) (hA : ∀ i, A i → i < H.length) : ∃ v H', CA P NS 18 [.g [.i .u32 k, w]] H (v, H') ∧ (∃ b, v = .b b) ∧ Kp H H' := by
  have hone := (BytesAt.one' hw).2
  obtain ⟨b1, H1, hbx1, k1, v1, _⟩ := box_new (H := H) (e := 55) (cs := [.i .u32 k, w]) (by have : (AV.i .u32 k).one = true := rfl; simp [hone, this])
  refine CA.wp (fn := Tryz.f18) (R := fun v H' => (∃ b, v = .b b) ∧ Kp H H') (by kernel_rfl) rfl ?_
  have hl := hw.len bty
  have e1 := gtrJ 3 true (bs.length : Nat) 2147483647
  generalize ((bs.length : Nat) : Int) = n at hl e1
  cases c1 : decide (n > 2147483647) with
  | false =>
    rw [c1] at e1
    dsimp only [Tryz.f18]
    dsimp only [List.length_cons, List.length_nil, List.cons_append, List.nil_append, Nat.reduceSub, Nat.reduceAdd, List.replicate]
    ((repeat with_reducible refine WP.seqs ?_); refine WP.rg ?_)
    ((repeat with_reducible refine WP.seqs ?_); refine WP.rg ?_)
    ((repeat with_reducible refine WP.seqs ?_); first | refine WP.seq (WP.condF rfl ?_) | refine WP.condF rfl ?_)
    refine WP.skip ?_; repeat (first | with_reducible refine Sq.n ?_ | with_reducible refine Sq.ret ?_ | with_reducible refine Sq.exit ?_ | with_reducible refine Bk.n ?_ | with_reducible refine Bk.ret ?_ | with_reducible refine Bk.exit ?_ | with_reducible refine Bk.ex' (by decide) ?_ | with_reducible refine Lp.ret ?_ | with_reducible refine Lp.exit ?_ | with_reducible refine Lx.exit ?_)
    ((repeat with_reducible refine WP.seqs ?_); refine WP.rg ?_)
    refine WP.ret ?_; repeat (first | with_reducible refine Sq.n ?_ | with_reducible refine Sq.ret ?_ | with_reducible refine Sq.exit ?_ | with_reducible refine Bk.n ?_ | with_reducible refine Bk.ret ?_ | with_reducible refine Bk.exit ?_ | with_reducible refine Bk.ex' (by decide) ?_ | with_reducible refine Lp.ret ?_ | with_reducible refine Lp.exit ?_ | with_reducible refine Lx.exit ?_)
    exact Fe.r1 rfl ⟨⟨_, rfl⟩, k1⟩
  | true =>
    rw [c1] at e1
    dsimp only [Tryz.f18]
    dsimp only [List.length_cons, List.length_nil, List.cons_append, List.nil_append, Nat.reduceSub, Nat.reduceAdd, List.replicate]
    ((repeat with_reducible refine WP.seqs ?_); refine WP.rg ?_)
    ((repeat with_reducible refine WP.seqs ?_); refine WP.rg ?_)
    ((repeat with_reducible refine WP.seqs ?_); first | refine WP.seq (WP.condT rfl ?_) | refine WP.condT rfl ?_)
    ((repeat with_reducible refine WP.seqs ?_); refine WP.rg ?_)
    refine WP.ret ?_; repeat (first | with_reducible refine Sq.n ?_ | with_reducible refine Sq.ret ?_ | with_reducible refine Sq.exit ?_ | with_reducible refine Bk.n ?_ | with_reducible refine Bk.ret ?_ | with_reducible refine Bk.exit ?_ | with_reducible refine Bk.ex' (by decide) ?_ | with_reducible refine Lp.ret ?_ | with_reducible refine Lp.exit ?_ | with_reducible refine Lx.exit ?_)
    exact Fe.r1 rfl ⟨⟨_, rfl⟩, k1⟩
theorem ex18 (fr : List AV) (h : fr.length = 18) : ∃ g : Nat → AV, fr = [g 0, g 1, g 2, g 3, g 4, g 5, g 6, g 7, g 8, g 9, g 10, g 11, g 12, g 13, g 14, g 15, g 16, g 17] := by
  obtain ⟨g, rfl⟩ := exM 18 fr h
  exact ⟨g, rfl⟩
theorem fits3_x {H : Heap} {u : AV} {us : List (Nat × B)} (hu : TgAt H u us) : ∃ v H', CA P NS 10 [u] H (v, H') ∧ (∃ b, v = .b b) ∧ Kp H H' := by
  refine CA.wp (fn := Tryz.f10) (R := fun v H' => (∃ b, v = .b b) ∧ Kp H H') (by kernel_rfl) rfl ?_
  have hl := hu.1.len (t := 24) (by rw [elG]; rfl)
  have e1 := gtrJ 3 true (us.length : Nat) 2147483647
  by_cases hbig : 2147483647 < us.length
  · replace e1 : binA P .gtr 3 true (.i .i64 (us.length : Nat)) (.i .i64 2147483647) = some (.b true) := by rw [e1]; simp; omega
    generalize ((us.length : Nat) : Int) = n at hl e1
    dsimp only [Tryz.f10]
    dsimp only [List.length_cons, List.length_nil, List.cons_append, List.nil_append, Nat.reduceSub, Nat.reduceAdd, List.replicate]
    ((repeat with_reducible refine WP.seqs ?_); refine WP.rg ?_)
    ((repeat with_reducible refine WP.seqs ?_); refine WP.rg ?_)
    ((repeat with_reducible refine WP.seqs ?_); first | refine WP.seq (WP.condT rfl ?_) | refine WP.condT rfl ?_)
    ((repeat with_reducible refine WP.seqs ?_); refine WP.rg ?_)
    refine WP.ret ?_; repeat (first | with_reducible refine Sq.n ?_ | with_reducible refine Sq.ret ?_ | with_reducible refine Sq.exit ?_ | with_reducible refine Bk.n ?_ | with_reducible refine Bk.ret ?_ | with_reducible refine Bk.exit ?_ | with_reducible refine Bk.ex' (by decide) ?_ | with_reducible refine Lp.ret ?_ | with_reducible refine Lp.exit ?_ | with_reducible refine Lx.exit ?_)
    exact Fe.r1 rfl ⟨⟨_, rfl⟩, Kp.refl _⟩
  replace e1 : binA P .gtr 3 true (.i .i64 (us.length : Nat)) (.i .i64 2147483647) = some (.b false) := by rw [e1]; simp; omega
  generalize hni : ((us.length : Nat) : Int) = n at hl e1
  dsimp only [Tryz.f10]
  dsimp only [List.length_cons, List.length_nil, List.cons_append, List.nil_append, Nat.reduceSub, Nat.reduceAdd, List.replicate]
  ((repeat with_reducible refine WP.seqs ?_); refine WP.rg ?_)
  ((repeat with_reducible refine WP.seqs ?_); refine WP.rg ?_)
  ((repeat with_reducible refine WP.seqs ?_); first | refine WP.seq (WP.condF rfl ?_) | refine WP.condF rfl ?_)
  refine WP.skip ?_; repeat (first | with_reducible refine Sq.n ?_ | with_reducible refine Sq.ret ?_ | with_reducible refine Sq.exit ?_ | with_reducible refine Bk.n ?_ | with_reducible refine Bk.ret ?_ | with_reducible refine Bk.exit ?_ | with_reducible refine Bk.ex' (by decide) ?_ | with_reducible refine Lp.ret ?_ | with_reducible refine Lp.exit ?_ | with_reducible refine Lx.exit ?_)
  ((repeat with_reducible refine WP.seqs ?_); refine WP.rg ?_)
  ((repeat with_reducible refine WP.seqs ?_); first | refine WP.seq (WP.block ?_) | refine WP.block ?_)
  refine WP.loop (Inv := fun j fr H1 => (fr.length = 18 ∧ fr[0]? = some (u) ∧ fr[8]? = some (u) ∧ fr[9]? = some (.i .i64 n) ∧ fr[10]? = some (.i .i64 (j : Nat))) ∧ Kp H H1) us.length ?_ us.length 0 _ _ (by omega) ?_
  rotate_left
  · exact ⟨⟨rfl, rfl, rfl, rfl, rfl⟩, Kp.refl _⟩
  intro j fr H1 hj ⟨⟨hfl, hf0, hf8, hf9, hf10⟩, hk⟩
  obtain ⟨g, rfl⟩ := ex18 _ hfl; replace hf0 : g 0 = _ := Option.some.inj hf0; replace hf8 : g 8 = _ := Option.some.inj hf8; replace hf9 : g 9 = _ := Option.some.inj hf9; replace hf10 : g 10 = _ := Option.some.inj hf10; rw [hf0, hf8, hf9, hf10]; clear hfl hf0 hf8 hf9 hf10
  have hlt := lssI 3 false (j : Nat) (us.length : Nat)
  rw [hni] at hlt
  by_cases hjl : j < us.length
  · replace hlt : binA P .lss 3 false (.i .i64 (j : Nat)) (.i .i64 n) = some (.b true) := by rw [hlt]; simp; omega
    obtain ⟨kx, bx, hxj⟩ : ∃ kx bx, us[j]? = some (kx, bx) := ⟨us[j].1, us[j].2, by simp [hjl]⟩
    obtain ⟨w, hxe, hxb⟩ := hu.2 j kx bx hxj
    obtain ⟨p, c, hix, hld, hel, _⟩ := (hu.1.kp hk).idxk elG zG aG hjl
    have hc : c = [.i .u32 (kx : Nat), w] := by
      rw [hu.1.el hk hjl, hxe] at hel; cases hel; rfl
    subst hc
    have hld1 := hld H1 (Kp.refl _)
    have hwone := (BytesAt.one' hxb).2
    obtain ⟨b3, H2, H3, hal, hst, k3, v3, _, _, _, _⟩ := alloc_new (H := H1) (cs := [.i .u32 (kx : Nat), w]) zeroG rfl zG rfl rfl (by have : (AV.i .u32 (kx : Nat)).one = true := rfl; simp [this, hwone])
    have k03 := hk.trans k3
    obtain ⟨fv, H4, hcf, ⟨fb, rfl⟩, k4⟩ := fits4_x (k := (kx : Nat)) (k03.bytes hxb) (fun i hi => hi)
    have hadd := addJ 3 true (j : Nat) 1 (by omega)
    rw [show ((j : Nat) : Int) + 1 = ((j + 1 : Nat) : Int) by omega] at hadd
    generalize hj1 : ((j + 1 : Nat) : Int) = j1 at hadd
    generalize hjj : ((j : Nat) : Int) = jj at hlt hix hadd
    generalize ((kx : Nat) : Int) = kk at hld1 hst v3 hcf
    cases fb with
    | true =>
      ((repeat with_reducible refine WP.seqs ?_); refine WP.rg ?_)
      ((repeat with_reducible refine WP.seqs ?_); first | refine WP.seq (WP.condT rfl ?_) | refine WP.condT rfl ?_)
      refine WP.skip ?_; repeat (first | with_reducible refine Sq.n ?_ | with_reducible refine Sq.ret ?_ | with_reducible refine Sq.exit ?_ | with_reducible refine Bk.n ?_ | with_reducible refine Bk.ret ?_ | with_reducible refine Bk.exit ?_ | with_reducible refine Bk.ex' (by decide) ?_ | with_reducible refine Lp.ret ?_ | with_reducible refine Lp.exit ?_ | with_reducible refine Lx.exit ?_)
      ((repeat with_reducible refine WP.seqs ?_); first | refine WP.seq (WP.block ?_) | refine WP.block ?_)
      ((repeat with_reducible refine WP.seqs ?_); refine WP.rg ?_)
      ((repeat with_reducible refine WP.seqs ?_); refine WP.rg ?_)
      ((repeat with_reducible refine WP.seqs ?_); first | refine WP.seq (WP.condF rfl ?_) | refine WP.condF rfl ?_)
      refine WP.skip ?_; repeat (first | with_reducible refine Sq.n ?_ | with_reducible refine Sq.ret ?_ | with_reducible refine Sq.exit ?_ | with_reducible refine Bk.n ?_ | with_reducible refine Bk.ret ?_ | with_reducible refine Bk.exit ?_ | with_reducible refine Bk.ex' (by decide) ?_ | with_reducible refine Lp.ret ?_ | with_reducible refine Lp.exit ?_ | with_reducible refine Lx.exit ?_)
      refine WP.re ?_; repeat (first | with_reducible refine Sq.n ?_ | with_reducible refine Sq.ret ?_ | with_reducible refine Sq.exit ?_ | with_reducible refine Bk.n ?_ | with_reducible refine Bk.ret ?_ | with_reducible refine Bk.exit ?_ | with_reducible refine Bk.ex' (by decide) ?_ | with_reducible refine Lp.ret ?_ | with_reducible refine Lp.exit ?_ | with_reducible refine Lx.exit ?_)
      exact Lp.n ⟨by omega, ⟨rfl, rfl, rfl, rfl, rfl⟩, k03.trans k4⟩
    | false =>
      ((repeat with_reducible refine WP.seqs ?_); refine WP.rg ?_)
      ((repeat with_reducible refine WP.seqs ?_); first | refine WP.seq (WP.condT rfl ?_) | refine WP.condT rfl ?_)
      refine WP.skip ?_; repeat (first | with_reducible refine Sq.n ?_ | with_reducible refine Sq.ret ?_ | with_reducible refine Sq.exit ?_ | with_reducible refine Bk.n ?_ | with_reducible refine Bk.ret ?_ | with_reducible refine Bk.exit ?_ | with_reducible refine Bk.ex' (by decide) ?_ | with_reducible refine Lp.ret ?_ | with_reducible refine Lp.exit ?_ | with_reducible refine Lx.exit ?_)
      ((repeat with_reducible refine WP.seqs ?_); first | refine WP.seq (WP.block ?_) | refine WP.block ?_)
      ((repeat with_reducible refine WP.seqs ?_); refine WP.rg ?_)
      ((repeat with_reducible refine WP.seqs ?_); refine WP.rg ?_)
      ((repeat with_reducible refine WP.seqs ?_); first | refine WP.seq (WP.condT rfl ?_) | refine WP.condT rfl ?_)
      ((repeat with_reducible refine WP.seqs ?_); refine WP.rg ?_)
      refine WP.ret ?_; repeat (first | with_reducible refine Sq.n ?_ | with_reducible refine Sq.ret ?_ | with_reducible refine Sq.exit ?_ | with_reducible refine Bk.n ?_ | with_reducible refine Bk.ret ?_ | with_reducible refine Bk.exit ?_ | with_reducible refine Bk.ex' (by decide) ?_ | with_reducible refine Lp.ret ?_ | with_reducible refine Lp.exit ?_ | with_reducible refine Lx.exit ?_)
      exact Fe.r1 rfl ⟨⟨_, rfl⟩, k03.trans k4⟩
  · replace hlt : binA P .lss 3 false (.i .i64 (j : Nat)) (.i .i64 n) = some (.b false) := by rw [hlt]; simp; omega
    generalize ((j : Nat) : Int) = jj at hlt
    ((repeat with_reducible refine WP.seqs ?_); refine WP.rg ?_)
    ((repeat with_reducible refine WP.seqs ?_); first | refine WP.seq (WP.condF rfl ?_) | refine WP.condF rfl ?_)
    refine WP.exit ?_; repeat (first | with_reducible refine Sq.n ?_ | with_reducible refine Sq.ret ?_ | with_reducible refine Sq.exit ?_ | with_reducible refine Bk.n ?_ | with_reducible refine Bk.ret ?_ | with_reducible refine Bk.exit ?_ | with_reducible refine Bk.ex' (by decide) ?_ | with_reducible refine Lp.ret ?_ | with_reducible refine Lp.exit ?_ | with_reducible refine Lx.exit ?_)
    ((repeat with_reducible refine WP.seqs ?_); refine WP.rg ?_)
    refine WP.ret ?_; repeat (first | with_reducible refine Sq.n ?_ | with_reducible refine Sq.ret ?_ | with_reducible refine Sq.exit ?_ | with_reducible refine Bk.n ?_ | with_reducible refine Bk.ret ?_ | with_reducible refine Bk.exit ?_ | with_reducible refine Bk.ex' (by decide) ?_ | with_reducible refine Lp.ret ?_ | with_reducible refine Lp.exit ?_ | with_reducible refine Lx.exit ?_)
    exact Fe.r1 rfl ⟨⟨_, rfl⟩, hk⟩
theorem fits_x {H : Heap} {c : List AV} {t : Tr} (ht : TrAt H c t) : ∃ v H', CA P NS 4 [.g c] H (v, H') ∧ (∃ b, v = .b b) ∧ Kp H H' := by
  obtain ⟨s, l, u, rfl, hn, hs, hu, hl, hx, hone⟩ := ht.parts
  obtain ⟨b1, H1, hbx1, k1, v1, _⟩ := box_new (H := H) (e := 26) hone
  refine CA.wp (fn := Tryz.f4) (R := fun v H' => (∃ b, v = .b b) ∧ Kp H H') (by kernel_rfl) rfl ?_
  have l1 := (k1.bytes hs).len bty
  have l2 := (hl.kp k1).len (t := 23) (by rw [elT]; rfl)
  obtain ⟨fv, H2, hcf, ⟨fb, rfl⟩, k2⟩ := fits3_x (hu.kp k1)
  have e1 := gtrJ 3 true (t.s.length : Nat) 2147483647
  have e2 := gtrJ 3 true (t.l.length : Nat) 2147483647
  generalize ((t.s.length : Nat) : Int) = n1 at l1 e1
  generalize ((t.l.length : Nat) : Int) = n2 at l2 e2
  cases c1 : decide (n1 > 2147483647) with
  | true =>
    rw [c1] at e1
    dsimp only [Tryz.f4]
    dsimp only [List.length_cons, List.length_nil, List.cons_append, List.nil_append, Nat.reduceSub, Nat.reduceAdd, List.replicate]
    ((repeat with_reducible refine WP.seqs ?_); refine WP.rg ?_)
    ((repeat with_reducible refine WP.seqs ?_); refine WP.rg ?_)
    ((repeat with_reducible refine WP.seqs ?_); first | refine WP.seq (WP.condT rfl ?_) | refine WP.condT rfl ?_)
    ((repeat with_reducible refine WP.seqs ?_); refine WP.rg ?_)
    refine WP.ret ?_; repeat (first | with_reducible refine Sq.n ?_ | with_reducible refine Sq.ret ?_ | with_reducible refine Sq.exit ?_ | with_reducible refine Bk.n ?_ | with_reducible refine Bk.ret ?_ | with_reducible refine Bk.exit ?_ | with_reducible refine Bk.ex' (by decide) ?_ | with_reducible refine Lp.ret ?_ | with_reducible refine Lp.exit ?_ | with_reducible refine Lx.exit ?_)
    exact Fe.r1 rfl ⟨⟨_, rfl⟩, k1⟩
  | false =>
    rw [c1] at e1
    cases c2 : decide (n2 > 2147483647) with
    | true =>
      rw [c2] at e2
      dsimp only [Tryz.f4]
      dsimp only [List.length_cons, List.length_nil, List.cons_append, List.nil_append, Nat.reduceSub, Nat.reduceAdd, List.replicate]
      ((repeat with_reducible refine WP.seqs ?_); refine WP.rg ?_)
      ((repeat with_reducible refine WP.seqs ?_); refine WP.rg ?_)
      ((repeat with_reducible refine WP.seqs ?_); first | refine WP.seq (WP.condF rfl ?_) | refine WP.condF rfl ?_)
      refine WP.skip ?_; repeat (first | with_reducible refine Sq.n ?_ | with_reducible refine Sq.ret ?_ | with_reducible refine Sq.exit ?_ | with_reducible refine Bk.n ?_ | with_reducible refine Bk.ret ?_ | with_reducible refine Bk.exit ?_ | with_reducible refine Bk.ex' (by decide) ?_ | with_reducible refine Lp.ret ?_ | with_reducible refine Lp.exit ?_ | with_reducible refine Lx.exit ?_)
      ((repeat with_reducible refine WP.seqs ?_); refine WP.rg ?_)
      ((repeat with_reducible refine WP.seqs ?_); first | refine WP.seq (WP.condT rfl ?_) | refine WP.condT rfl ?_)
      ((repeat with_reducible refine WP.seqs ?_); refine WP.rg ?_)
      refine WP.ret ?_; repeat (first | with_reducible refine Sq.n ?_ | with_reducible refine Sq.ret ?_ | with_reducible refine Sq.exit ?_ | with_reducible refine Bk.n ?_ | with_reducible refine Bk.ret ?_ | with_reducible refine Bk.exit ?_ | with_reducible refine Bk.ex' (by decide) ?_ | with_reducible refine Lp.ret ?_ | with_reducible refine Lp.exit ?_ | with_reducible refine Lx.exit ?_)
      exact Fe.r1 rfl ⟨⟨_, rfl⟩, k1⟩
    | false =>
      rw [c2] at e2
      cases fb with
      | true =>
        dsimp only [Tryz.f4]
        dsimp only [List.length_cons, List.length_nil, List.cons_append, List.nil_append, Nat.reduceSub, Nat.reduceAdd, List.replicate]
        ((repeat with_reducible refine WP.seqs ?_); refine WP.rg ?_)
        ((repeat with_reducible refine WP.seqs ?_); refine WP.rg ?_)
        ((repeat with_reducible refine WP.seqs ?_); first | refine WP.seq (WP.condF rfl ?_) | refine WP.condF rfl ?_)
        refine WP.skip ?_; repeat (first | with_reducible refine Sq.n ?_ | with_reducible refine Sq.ret ?_ | with_reducible refine Sq.exit ?_ | with_reducible refine Bk.n ?_ | with_reducible refine Bk.ret ?_ | with_reducible refine Bk.exit ?_ | with_reducible refine Bk.ex' (by decide) ?_ | with_reducible refine Lp.ret ?_ | with_reducible refine Lp.exit ?_ | with_reducible refine Lx.exit ?_)
        ((repeat with_reducible refine WP.seqs ?_); refine WP.rg ?_)
        ((repeat with_reducible refine WP.seqs ?_); first | refine WP.seq (WP.condF rfl ?_) | refine WP.condF rfl ?_)
        refine WP.skip ?_; repeat (first | with_reducible refine Sq.n ?_ | with_reducible refine Sq.ret ?_ | with_reducible refine Sq.exit ?_ | with_reducible refine Bk.n ?_ | with_reducible refine Bk.ret ?_ | with_reducible refine Bk.exit ?_ | with_reducible refine Bk.ex' (by decide) ?_ | with_reducible refine Lp.ret ?_ | with_reducible refine Lp.exit ?_ | with_reducible refine Lx.exit ?_)
        ((repeat with_reducible refine WP.seqs ?_); refine WP.rg ?_)
        ((repeat with_reducible refine WP.seqs ?_); first | refine WP.seq (WP.condF rfl ?_) | refine WP.condF rfl ?_)
        refine WP.skip ?_; repeat (first | with_reducible refine Sq.n ?_ | with_reducible refine Sq.ret ?_ | with_reducible refine Sq.exit ?_ | with_reducible refine Bk.n ?_ | with_reducible refine Bk.ret ?_ | with_reducible refine Bk.exit ?_ | with_reducible refine Bk.ex' (by decide) ?_ | with_reducible refine Lp.ret ?_ | with_reducible refine Lp.exit ?_ | with_reducible refine Lx.exit ?_)
        ((repeat with_reducible refine WP.seqs ?_); refine WP.rg ?_)
        refine WP.ret ?_; repeat (first | with_reducible refine Sq.n ?_ | with_reducible refine Sq.ret ?_ | with_reducible refine Sq.exit ?_ | with_reducible refine Bk.n ?_ | with_reducible refine Bk.ret ?_ | with_reducible refine Bk.exit ?_ | with_reducible refine Bk.ex' (by decide) ?_ | with_reducible refine Lp.ret ?_ | with_reducible refine Lp.exit ?_ | with_reducible refine Lx.exit ?_)
        exact Fe.r1 rfl ⟨⟨_, rfl⟩, k1.trans k2⟩
      | false =>
        dsimp only [Tryz.f4]
        dsimp only [List.length_cons, List.length_nil, List.cons_append, List.nil_append, Nat.reduceSub, Nat.reduceAdd, List.replicate]
        ((repeat with_reducible refine WP.seqs ?_); refine WP.rg ?_)
        ((repeat with_reducible refine WP.seqs ?_); refine WP.rg ?_)
        ((repeat with_reducible refine WP.seqs ?_); first | refine WP.seq (WP.condF rfl ?_) | refine WP.condF rfl ?_)
        refine WP.skip ?_; repeat (first | with_reducible refine Sq.n ?_ | with_reducible refine Sq.ret ?_ | with_reducible refine Sq.exit ?_ | with_reducible refine Bk.n ?_ | with_reducible refine Bk.ret ?_ | with_reducible refine Bk.exit ?_ | with_reducible refine Bk.ex' (by decide) ?_ | with_reducible refine Lp.ret ?_ | with_reducible refine Lp.exit ?_ | with_reducible refine Lx.exit ?_)
        ((repeat with_reducible refine WP.seqs ?_); refine WP.rg ?_)
        ((repeat with_reducible refine WP.seqs ?_); first | refine WP.seq (WP.condF rfl ?_) | refine WP.condF rfl ?_)
        refine WP.skip ?_; repeat (first | with_reducible refine Sq.n ?_ | with_reducible refine Sq.ret ?_ | with_reducible refine Sq.exit ?_ | with_reducible refine Bk.n ?_ | with_reducible refine Bk.ret ?_ | with_reducible refine Bk.exit ?_ | with_reducible refine Bk.ex' (by decide) ?_ | with_reducible refine Lp.ret ?_ | with_reducible refine Lp.exit ?_ | with_reducible refine Lx.exit ?_)
        ((repeat with_reducible refine WP.seqs ?_); refine WP.rg ?_)
        ((repeat with_reducible refine WP.seqs ?_); first | refine WP.seq (WP.condT rfl ?_) | refine WP.condT rfl ?_)
        ((repeat with_reducible refine WP.seqs ?_); refine WP.rg ?_)
        refine WP.ret ?_; repeat (first | with_reducible refine Sq.n ?_ | with_reducible refine Sq.ret ?_ | with_reducible refine Sq.exit ?_ | with_reducible refine Bk.n ?_ | with_reducible refine Bk.ret ?_ | with_reducible refine Bk.exit ?_ | with_reducible refine Bk.ex' (by decide) ?_ | with_reducible refine Lp.ret ?_ | with_reducible refine Lp.exit ?_ | with_reducible refine Lx.exit ?_)
        exact Fe.r1 rfl ⟨⟨_, rfl⟩, k1.trans k2⟩
end Go.Proofs.YtiifcfngbbhgoaaGreatDoor.Rd

namespace Go.Proofs.YtiifcfngbbhgoaaGreatDoor.Rd
open Go Go.Proofs.YtiifcfngbbhgoaaGreatDoor.Ax Go.Proofs.YtiifcfngbbhgoaaGreatDoor.Wire
set_option maxRecDepth 100000
theorem sz2M : sizeA P 33 = some 2 := by kernel_rfl
theorem alloc_var {H : Heap} {e : TypeId} {z : List AV} (hz : zeroA P e = some (.g z)) (h1 : z.all AV.one = true) : ∃ b H0, AllocA H e (.p b 0) H0 ∧ Kp H H0 ∧ (H0[b]? = some (.cells e .vr z) ∧ H.length ≤ b) :=
  ⟨H.length, H ++ [.cells e .vr z], ⟨.g z, hz, rfl, rfl, h1⟩, Kp.app _ _, by simp, Nat.le_refl _⟩
theorem store_var {H : Heap} {b : Nat} {e : TypeId} {z cs : List AV} {sz : Nat} (hb : H[b]? = some (.cells e .vr z)) (hs : sizeA P e = some sz) (hz : z.length = sz) (hc : cs.length = sz) (h1 : cs.all AV.one = true) :
    ∃ H', storeA P H e (.p b 0) (.g cs) = some H' ∧ H'[b]? = some (.cells e .vr cs) ∧ (∀ i, i ≠ b → H'[i]? = H[i]?) ∧ H'.length = H.length := by
  have hl := (List.getElem?_eq_some_iff.1 hb).1
  refine ⟨H.set b (.cells e .vr cs), ?_, by rw [List.getElem?_set_self hl], fun i hi => by rw [List.getElem?_set_ne (Ne.symm hi)], by simp⟩
  have ho : over z (AV.g cs).cells 0 = cs := by
    show over z cs 0 = cs
    simp [over, hz, hc]
  simp only [storeA, hb, hs]
  rw [if_pos ⟨rfl, hc, by omega, h1⟩, ho]
theorem kp_store {H H1 H2 : Heap} {b : Nat} (k : Kp H H1) (hb : H.length ≤ b) (ho : ∀ i, i ≠ b → H2[i]? = H1[i]?) (hl : H2.length = H1.length) : Kp H H2 := ⟨by rw [hl]; exact k.1, fun i hi => by rw [ho i (by omega), k.2 i hi]⟩
theorem fdc_store {H1 H2 : Heap} {b : Nat} {ty : TypeId} {z : List AV} (hb : H1[b]? = some (.cells ty .vr z)) (ho : ∀ i, i ≠ b → H2[i]? = H1[i]?) (hz : z.length % 8 ≠ 0) : ∀ {fd : Fdl} {cs : List AV}, FdC H1 fd cs → FdC H2 fd cs
  | .nil, _, h => h
  | .fld kind frm to null tag dflt of sub rest, cs, ⟨av, cs', h1, h2, h3⟩ => by
    refine ⟨av, cs', h1, ?_, fdc_store hb ho hz h3⟩
    rcases h2 with h | ⟨i, t, kn, c2, h4, h5, h6, h7⟩
    · exact .inl h
    · have hne : i ≠ b := fun e => by
        subst e
        rw [hb] at h5; cases h5
        have := h6.len
        omega
      exact .inr ⟨i, t, kn, c2, h4, by rw [ho i hne]; exact h5, fdc_store hb ho hz h6, h7⟩
theorem fdat_store {H1 H2 : Heap} {b : Nat} {ty : TypeId} {z : List AV} {av : AV} {fd : Fdl} (h : FdAt H1 av fd) (hb : H1[b]? = some (.cells ty .vr z)) (ho : ∀ i, i ≠ b → H2[i]? = H1[i]?) (hz : z.length = 2) : FdAt H2 av fd := by
  rcases h with h | ⟨i, t, kn, c2, h4, h5, h6, h7⟩
  · exact .inl h
  · have hne : i ≠ b := fun e => by
      subst e
      rw [hb] at h5; cases h5
      have := h6.len
      omega
    exact .inr ⟨i, t, kn, c2, h4, by rw [ho i hne]; exact h5, fdc_store hb ho (by omega) h6, h7⟩
theorem fdat_kp {H H' : Heap} (k : Kp H H') {av : AV} {fd : Fdl} (h : FdAt H av fd) : ((fd = .nil ∧ (av = .s0 ∨ av = .se)) ∨ ∃ i ty kn c2, av = .sl i 0 fd.len ∧ H'[i]? = some (.cells ty kn c2) ∧ FdC H' fd c2 ∧ fd ≠ .nil) := h.kp k
theorem cv_u16_int (n : Nat) (h : n < 65536) : convA P 27 3 (.i .u16 (n : Nat)) = some (.i .i64 (n : Nat)) := by
  have e : convA P 27 3 (.i .u16 (n : Nat)) = some (.i .i64 (IntKind.i64.wrap (n : Nat))) := by kernel_rfl
  rw [e]; simp [IntKind.wrap, IntKind.signed, IntKind.bits]; omega
theorem cut_dat {L0 : Nat} {H : Heap} {out : AV} {bs : B} (h : OutAt L0 H out bs) {n : Nat} (hn : n < bs.length) : ∃ sl, sliceA P 22 out none (some (.i .i64 (n : Nat))) = some sl ∧ DatAt H sl (bs.take n) := by
  rcases h with ⟨_, rfl⟩ | ⟨i, _, rfl, h3, h4⟩
  · simp at hn
  · refine ⟨.sl i 0 n, ?_, ?_, rfl⟩
    · simp only [sliceA, bty.elem, bty.size]
      rw [if_pos ⟨by omega, by omega⟩]; simp
    · have hl : (bs.take n).length = n := by simp; omega
      have ht : ((u8s bs).drop 0).take (n * 1) = u8s (bs.take n) := by rw [List.drop_zero, Nat.mul_one]; simp [u8s, List.map_take]
      simp only [firstA, h3]
      rw [if_pos ⟨by rw [u8s_length]; omega, by rw [ht]; exact u8s_one _⟩, ht, hl]
end Go.Proofs.YtiifcfngbbhgoaaGreatDoor.Rd

