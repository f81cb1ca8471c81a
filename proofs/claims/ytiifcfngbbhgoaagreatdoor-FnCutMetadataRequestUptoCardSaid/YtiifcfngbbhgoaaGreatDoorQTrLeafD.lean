/-
  WHAT FIELDS SAY: of a version, of null, of tags.
-/
import Derived.Test.YtiifcfngbbhgoaaGreatDoorQTrLeafB
set_option linter.constructorNameAsVariable false
set_option linter.unusedVariables false
set_option linter.unusedSimpArgs false
namespace Go.Proofs.YtiifcfngbbhgoaaGreatDoor.Rd
open Go Go.Proofs.YtiifcfngbbhgoaaGreatDoor.Ax Go.Proofs.YtiifcfngbbhgoaaGreatDoor.Wire
set_option maxRecDepth 100000
set_option maxHeartbeats 1000000
abbrev fcs (kind : Nat) (frm to null tag dflt : Int) (of : Nat) (sub : AV) : List AV := [.i .i64 (kind : Nat), .i .i64 frm, .i .i64 to, .i .i64 null, .i .i64 tag, .i .i64 dflt, .i .i64 (of : Nat), sub]
theorem fcs_one {kind : Nat} {frm to null tag dflt : Int} {of : Nat} {sub : AV} (h : sub.one = true) : (fcs kind frm to null tag dflt of sub).all AV.one = true := by
  simp only [fcs, List.all_cons, List.all_nil, h]; rfl
theorem has_x {kind : Nat} {frm to null tag dflt : Int} {of : Nat} {sub : AV} (h1 : sub.one = true) (ver : Nat) (H : Heap) : ∃ v H', CA P NS 20 [.g (fcs kind frm to null tag dflt of sub), .i .i64 (ver : Nat)] H (v, H') ∧ v = .b (hasS frm to ver) ∧ Kp H H' := by
  obtain ⟨b1, H1, hbx, k1, v1, _⟩ := box_new (H := H) (e := 47) (fcs_one (kind := kind) (frm := frm) (to := to) (null := null) (tag := tag) (dflt := dflt) (of := of) h1)
  refine CA.wp (fn := Tryz.f20) (R := fun v H' => v = .b (hasS frm to ver) ∧ Kp H H') (by kernel_rfl) rfl ?_
  have e1 := leqI 3 false frm (ver : Nat)
  have e2 := lssI 3 true to 0
  have e3 := leqI 3 false (ver : Nat) to
  unfold hasS
  cases c1 : decide (frm ≤ ((ver : Nat) : Int)) with
  | false =>
    rw [c1] at e1
    generalize ((ver : Nat) : Int) = vv at e1 ⊢
    generalize ((kind : Nat) : Int) = kk at hbx v1 ⊢
    generalize ((of : Nat) : Int) = oo at hbx v1 ⊢
    dsimp only [Tryz.f20]
    dsimp only [List.length_cons, List.length_nil, List.cons_append, List.nil_append, Nat.reduceSub, Nat.reduceAdd, List.replicate]
    ((repeat with_reducible refine WP.seqs ?_); refine WP.rg ?_)
    ((repeat with_reducible refine WP.seqs ?_); refine WP.rg ?_)
    refine WP.ret ?_; repeat (first | with_reducible refine Sq.n ?_ | with_reducible refine Sq.ret ?_ | with_reducible refine Sq.exit ?_ | with_reducible refine Bk.n ?_ | with_reducible refine Bk.ret ?_ | with_reducible refine Bk.exit ?_ | with_reducible refine Bk.ex' (by decide) ?_ | with_reducible refine Lp.ret ?_ | with_reducible refine Lp.exit ?_ | with_reducible refine Lx.exit ?_)
    exact Fe.r1 rfl ⟨by simp, k1⟩
  | true =>
    rw [c1] at e1
    cases c2 : decide (to < 0) with
    | true =>
      rw [c2] at e2
      generalize ((ver : Nat) : Int) = vv at e1 ⊢
      generalize ((kind : Nat) : Int) = kk at hbx v1 ⊢
      generalize ((of : Nat) : Int) = oo at hbx v1 ⊢
      dsimp only [Tryz.f20]
      dsimp only [List.length_cons, List.length_nil, List.cons_append, List.nil_append, Nat.reduceSub, Nat.reduceAdd, List.replicate]
      ((repeat with_reducible refine WP.seqs ?_); refine WP.rg ?_)
      ((repeat with_reducible refine WP.seqs ?_); refine WP.rg ?_)
      refine WP.ret ?_; repeat (first | with_reducible refine Sq.n ?_ | with_reducible refine Sq.ret ?_ | with_reducible refine Sq.exit ?_ | with_reducible refine Bk.n ?_ | with_reducible refine Bk.ret ?_ | with_reducible refine Bk.exit ?_ | with_reducible refine Bk.ex' (by decide) ?_ | with_reducible refine Lp.ret ?_ | with_reducible refine Lp.exit ?_ | with_reducible refine Lx.exit ?_)
      exact Fe.r1 rfl ⟨by simp, k1⟩
    | false =>
      rw [c2] at e2
      cases c3 : decide (((ver : Nat) : Int) ≤ to) with
      | true =>
        rw [c3] at e3
        generalize ((ver : Nat) : Int) = vv at e1 e3 ⊢
        generalize ((kind : Nat) : Int) = kk at hbx v1 ⊢
        generalize ((of : Nat) : Int) = oo at hbx v1 ⊢
        dsimp only [Tryz.f20]
        dsimp only [List.length_cons, List.length_nil, List.cons_append, List.nil_append, Nat.reduceSub, Nat.reduceAdd, List.replicate]
        ((repeat with_reducible refine WP.seqs ?_); refine WP.rg ?_)
        ((repeat with_reducible refine WP.seqs ?_); refine WP.rg ?_)
        refine WP.ret ?_; repeat (first | with_reducible refine Sq.n ?_ | with_reducible refine Sq.ret ?_ | with_reducible refine Sq.exit ?_ | with_reducible refine Bk.n ?_ | with_reducible refine Bk.ret ?_ | with_reducible refine Bk.exit ?_ | with_reducible refine Bk.ex' (by decide) ?_ | with_reducible refine Lp.ret ?_ | with_reducible refine Lp.exit ?_ | with_reducible refine Lx.exit ?_)
        exact Fe.r1 rfl ⟨by simp, k1⟩
      | false =>
        rw [c3] at e3
        generalize ((ver : Nat) : Int) = vv at e1 e3 ⊢
        generalize ((kind : Nat) : Int) = kk at hbx v1 ⊢
        generalize ((of : Nat) : Int) = oo at hbx v1 ⊢
        dsimp only [Tryz.f20]
        dsimp only [List.length_cons, List.length_nil, List.cons_append, List.nil_append, Nat.reduceSub, Nat.reduceAdd, List.replicate]
        ((repeat with_reducible refine WP.seqs ?_); refine WP.rg ?_)
        ((repeat with_reducible refine WP.seqs ?_); refine WP.rg ?_)
        refine WP.ret ?_; repeat (first | with_reducible refine Sq.n ?_ | with_reducible refine Sq.ret ?_ | with_reducible refine Sq.exit ?_ | with_reducible refine Bk.n ?_ | with_reducible refine Bk.ret ?_ | with_reducible refine Bk.exit ?_ | with_reducible refine Bk.ex' (by decide) ?_ | with_reducible refine Lp.ret ?_ | with_reducible refine Lp.exit ?_ | with_reducible refine Lx.exit ?_)
        exact Fe.r1 rfl ⟨by simp, k1⟩
theorem null_x {kind : Nat} {frm to null tag dflt : Int} {of : Nat} {sub : AV} (h1 : sub.one = true) (ver : Nat) {H : Heap} {n : Int} {nl : Bool} {s l u : AV} (hone : [.i .i64 n, s, .b nl, l, u].all AV.one = true) :
    ∃ v H', CA P NS 42 [.g (fcs kind frm to null tag dflt of sub), .i .i64 (ver : Nat), .g [.i .i64 n, s, .b nl, l, u]] H (v, H') ∧ v = .b (nl && nulS null ver) ∧ Kp H H' := by
  obtain ⟨b1, H1, hbx, k1, v1, _⟩ := box_new (H := H) (e := 47) (fcs_one (kind := kind) (frm := frm) (to := to) (null := null) (tag := tag) (dflt := dflt) (of := of) h1)
  obtain ⟨b2, H2, hbx2, k2, v2, _⟩ := box_new (H := H1) (e := 26) hone
  have v1 := k2.at_ v1
  refine CA.wp (fn := Tryz.f42) (R := fun v H' => v = .b (nl && nulS null ver) ∧ Kp H H') (by kernel_rfl) rfl ?_
  have e1 := geqI 3 true null 0
  have e2 := geqI 3 false (ver : Nat) null
  unfold nulS
  cases nl with
  | false =>
    generalize ((ver : Nat) : Int) = vv at e2 ⊢
    generalize ((kind : Nat) : Int) = kk at hbx v1 ⊢
    generalize ((of : Nat) : Int) = oo at hbx v1 ⊢
    dsimp only [Tryz.f42]
    dsimp only [List.length_cons, List.length_nil, List.cons_append, List.nil_append, Nat.reduceSub, Nat.reduceAdd, List.replicate]
    ((repeat with_reducible refine WP.seqs ?_); refine WP.rg ?_)
    ((repeat with_reducible refine WP.seqs ?_); refine WP.rg ?_)
    refine WP.ret ?_; repeat (first | with_reducible refine Sq.n ?_ | with_reducible refine Sq.ret ?_ | with_reducible refine Sq.exit ?_ | with_reducible refine Bk.n ?_ | with_reducible refine Bk.ret ?_ | with_reducible refine Bk.exit ?_ | with_reducible refine Bk.ex' (by decide) ?_ | with_reducible refine Lp.ret ?_ | with_reducible refine Lp.exit ?_ | with_reducible refine Lx.exit ?_)
    exact Fe.r1 rfl ⟨by simp, k1.trans k2⟩
  | true =>
    cases c1 : decide (null ≥ 0) with
    | false =>
      rw [c1] at e1
      have c1' : decide (0 ≤ null) = false := c1
      generalize ((ver : Nat) : Int) = vv at e2 ⊢
      generalize ((kind : Nat) : Int) = kk at hbx v1 ⊢
      generalize ((of : Nat) : Int) = oo at hbx v1 ⊢
      dsimp only [Tryz.f42]
      dsimp only [List.length_cons, List.length_nil, List.cons_append, List.nil_append, Nat.reduceSub, Nat.reduceAdd, List.replicate]
      ((repeat with_reducible refine WP.seqs ?_); refine WP.rg ?_)
      ((repeat with_reducible refine WP.seqs ?_); refine WP.rg ?_)
      refine WP.ret ?_; repeat (first | with_reducible refine Sq.n ?_ | with_reducible refine Sq.ret ?_ | with_reducible refine Sq.exit ?_ | with_reducible refine Bk.n ?_ | with_reducible refine Bk.ret ?_ | with_reducible refine Bk.exit ?_ | with_reducible refine Bk.ex' (by decide) ?_ | with_reducible refine Lp.ret ?_ | with_reducible refine Lp.exit ?_ | with_reducible refine Lx.exit ?_)
      exact Fe.r1 rfl ⟨by simp [c1'], k1.trans k2⟩
    | true =>
      rw [c1] at e1
      have c1' : decide (0 ≤ null) = true := c1
      cases c2 : decide (((ver : Nat) : Int) ≥ null) with
      | false =>
        rw [c2] at e2
        have c2' : decide (null ≤ ((ver : Nat) : Int)) = false := c2
        generalize ((ver : Nat) : Int) = vv at e2 c2' ⊢
        generalize ((kind : Nat) : Int) = kk at hbx v1 ⊢
        generalize ((of : Nat) : Int) = oo at hbx v1 ⊢
        dsimp only [Tryz.f42]
        dsimp only [List.length_cons, List.length_nil, List.cons_append, List.nil_append, Nat.reduceSub, Nat.reduceAdd, List.replicate]
        ((repeat with_reducible refine WP.seqs ?_); refine WP.rg ?_)
        ((repeat with_reducible refine WP.seqs ?_); refine WP.rg ?_)
        refine WP.ret ?_; repeat (first | with_reducible refine Sq.n ?_ | with_reducible refine Sq.ret ?_ | with_reducible refine Sq.exit ?_ | with_reducible refine Bk.n ?_ | with_reducible refine Bk.ret ?_ | with_reducible refine Bk.exit ?_ | with_reducible refine Bk.ex' (by decide) ?_ | with_reducible refine Lp.ret ?_ | with_reducible refine Lp.exit ?_ | with_reducible refine Lx.exit ?_)
        exact Fe.r1 rfl ⟨by simp [c1', c2'], k1.trans k2⟩
      | true =>
        rw [c2] at e2
        have c2' : decide (null ≤ ((ver : Nat) : Int)) = true := c2
        generalize ((ver : Nat) : Int) = vv at e2 c2' ⊢
        generalize ((kind : Nat) : Int) = kk at hbx v1 ⊢
        generalize ((of : Nat) : Int) = oo at hbx v1 ⊢
        dsimp only [Tryz.f42]
        dsimp only [List.length_cons, List.length_nil, List.cons_append, List.nil_append, Nat.reduceSub, Nat.reduceAdd, List.replicate]
        ((repeat with_reducible refine WP.seqs ?_); refine WP.rg ?_)
        ((repeat with_reducible refine WP.seqs ?_); refine WP.rg ?_)
        refine WP.ret ?_; repeat (first | with_reducible refine Sq.n ?_ | with_reducible refine Sq.ret ?_ | with_reducible refine Sq.exit ?_ | with_reducible refine Bk.n ?_ | with_reducible refine Bk.ret ?_ | with_reducible refine Bk.exit ?_ | with_reducible refine Bk.ex' (by decide) ?_ | with_reducible refine Lp.ret ?_ | with_reducible refine Lp.exit ?_ | with_reducible refine Lx.exit ?_)
        exact Fe.r1 rfl ⟨by simp [c1', c2'], k1.trans k2⟩
theorem FdC.step {H : Heap} {kind : Nat} {frm to null tag dflt : Int} {of : Nat} {sub rest : Fdl} {cs : List AV} (h : FdC H (.fld kind frm to null tag dflt of sub rest) cs) : ∃ av, cs.take 8 = fcs kind frm to null tag dflt of av ∧ av.one = true ∧ FdAt H av sub ∧ FdC H rest (cs.drop 8) := by
  obtain ⟨av, cs', rfl, h2, h3⟩ := h
  refine ⟨av, rfl, ?_, h2, h3⟩
  rcases h2 with ⟨_, rfl | rfl⟩ | ⟨i, ty, kn, c2, rfl, _⟩ <;> rfl
theorem zeroF : zeroA P 47 = some (.g (fcs 0 0 0 0 0 0 0 .s0)) := by kernel_rfl
def FdFrom (H : Heap) (av : AV) (n j : Nat) (r : Fdl) : Prop := n = j + r.len ∧ (r = .nil ∨ ∃ i ty kn cs, av = .sl i 0 n ∧ H[i]? = some (.cells ty kn cs) ∧ FdC H r (cs.drop (8 * j)) ∧ cs.length = 8 * n)
theorem FdAt.from0 {H : Heap} {av : AV} {fd : Fdl} (h : FdAt H av fd) : FdFrom H av fd.len 0 fd := by
  rcases h with ⟨rfl, h⟩ | ⟨i, ty, kn, c2, rfl, h5, h6, h7⟩
  · exact ⟨by simp, .inl rfl⟩
  · exact ⟨by simp, .inr ⟨i, ty, kn, c2, rfl, h5, by simpa using h6, by rw [h6.len]; omega⟩⟩
theorem FdFrom.kp {H H' : Heap} {av : AV} {n j : Nat} {r : Fdl} (h : FdFrom H av n j r) (k : Kp H H') : FdFrom H' av n j r := by
  obtain ⟨h1, h | ⟨i, ty, kn, cs, h2, h3, h4, h5⟩⟩ := h
  · exact ⟨h1, .inl h⟩
  · exact ⟨h1, .inr ⟨i, ty, kn, cs, h2, k.at_ h3, FdC.kp k h4, h5⟩⟩
theorem FdAt.len {H : Heap} {av : AV} {fd : Fdl} (h : FdAt H av fd) : lenA P 31 av = some (.i .i64 (fd.len : Nat)) := by
  have hu : P.underlying 31 = some (.slice 47) := by kernel_rfl
  unfold lenA
  rcases h with ⟨rfl, rfl | rfl⟩ | ⟨i, ty, kn, c2, rfl, h5, h6, h7⟩ <;> simp [hu, Fdl.len]
theorem FdFrom.step {H : Heap} {av : AV} {n j : Nat} {kind : Nat} {frm to null tag dflt : Int} {of : Nat} {sub rest : Fdl} (h : FdFrom H av n j (.fld kind frm to null tag dflt of sub rest)) :
    j < n ∧ ∃ p sv, indexAddrA P 31 av (.i .i64 (j : Nat)) = some p ∧ (∀ H', Kp H H' → loadA P H' 47 p = some (.g (fcs kind frm to null tag dflt of sv))) ∧ sv.one = true ∧ FdAt H sv sub ∧ FdFrom H av n (j + 1) rest := by
  obtain ⟨h1, h | ⟨i, ty, kn, cs, rfl, h3, h4, h5⟩⟩ := h
  · cases h
  have hj : j < n := by simp [Fdl.len] at h1; omega
  obtain ⟨sv, q1, q2, q3, q4⟩ := FdC.step h4
  refine ⟨hj, .p i (0 + j * 8), sv, ?_, fun H' k => ?_, q2, q3, by simp [Fdl.len] at h1; omega, .inr ⟨i, ty, kn, cs, rfl, h3, ?_, h5⟩⟩
  · simp only [indexAddrA, elF, zF]
    rw [if_pos ⟨by omega, by omega⟩]; simp
  · simp only [loadA, loadAt, k.at_ h3, aF, zF]
    have e : 0 + j * 8 = 8 * j := by omega
    rw [if_pos (by omega), e, q1]
  · rw [List.drop_drop] at q4
    rw [show 8 * (j + 1) = 8 * j + 8 by omega]
    exact q4
theorem FdFrom.done {H : Heap} {av : AV} {n j : Nat} (h : FdFrom H av n j .nil) : n = j := by have := h.1; simpa [Fdl.len] using this
theorem known_x {H : Heap} {av : AV} {fd : Fdl} (hf : FdAt H av fd) (hp : fd.plain = true) (hn : fd.len ≤ 1000) : ∃ v H', CA P NS 23 [av] H (v, H') ∧ v = .i .u32 0 ∧ Kp H H' := by
  refine CA.wp (fn := Tryz.f23) (R := fun v H' => v = .i .u32 0 ∧ Kp H H') (by kernel_rfl) rfl ?_
  have hlen := hf.len
  dsimp only [Tryz.f23]
  dsimp only [List.length_cons, List.length_nil, List.cons_append, List.nil_append, Nat.reduceSub, Nat.reduceAdd, List.replicate]
  ((repeat with_reducible refine WP.seqs ?_); refine WP.rg ?_)
  ((repeat with_reducible refine WP.seqs ?_); refine WP.rg ?_)
  generalize hnn : ((fd.len : Nat) : Int) = nn at hlen
  ((repeat with_reducible refine WP.seqs ?_); refine WP.rg ?_)
  ((repeat with_reducible refine WP.seqs ?_); first | refine WP.seq (WP.block ?_) | refine WP.block ?_)
  refine WP.loop (Inv := fun j fr H1 => ∃ (x1 x2 x4 x5 x9 x10 x11 x12 x13 x14 x15 x16 x17 x18 x19 x20 x21 x22 : AV), ∃ (r : Fdl), fr = [av, x1, x2, .i .u32 0, x4, x5, av, .i .i64 nn, .i .i64 (j : Nat), x9, x10, x11, x12, x13, x14, x15, x16, x17, x18, x19, x20, x21, x22] ∧ FdFrom H1 av fd.len j r ∧ r.plain = true ∧ Kp H H1) fd.len ?_ fd.len 0 _ _ (by omega) ?_
  rotate_left
  · exact ⟨_, _, _, _, _, _, _, _, _, _, _, _, _, _, _, _, _, _, fd, rfl, hf.from0, hp, Kp.refl H⟩
  intro j fr H1 hj ⟨x1, x2, x4, x5, x9, x10, x11, x12, x13, x14, x15, x16, x17, x18, x19, x20, x21, x22, r, hfr, hfrom, hpl, hk⟩
  subst hfr
  have hlt := lssI 3 false (j : Nat) (fd.len : Nat)
  rw [hnn] at hlt
  cases r with
  | nil =>
    have := hfrom.done
    have hlt : binA P .lss 3 false (.i .i64 (j : Nat)) (.i .i64 nn) = some (.b false) := by rw [hlt]; simp; omega
    generalize ((j : Nat) : Int) = jj at hlt
    ((repeat with_reducible refine WP.seqs ?_); refine WP.rg ?_)
    ((repeat with_reducible refine WP.seqs ?_); first | refine WP.seq (WP.condF rfl ?_) | refine WP.condF rfl ?_)
    refine WP.exit ?_; repeat (first | with_reducible refine Sq.n ?_ | with_reducible refine Sq.ret ?_ | with_reducible refine Sq.exit ?_ | with_reducible refine Bk.n ?_ | with_reducible refine Bk.ret ?_ | with_reducible refine Bk.exit ?_ | with_reducible refine Bk.ex' (by decide) ?_ | with_reducible refine Lp.ret ?_ | with_reducible refine Lp.exit ?_ | with_reducible refine Lx.exit ?_)
    ((repeat with_reducible refine WP.seqs ?_); refine WP.rg ?_)
    refine WP.ret ?_; repeat (first | with_reducible refine Sq.n ?_ | with_reducible refine Sq.ret ?_ | with_reducible refine Sq.exit ?_ | with_reducible refine Bk.n ?_ | with_reducible refine Bk.ret ?_ | with_reducible refine Bk.exit ?_ | with_reducible refine Bk.ex' (by decide) ?_ | with_reducible refine Lp.ret ?_ | with_reducible refine Lp.exit ?_ | with_reducible refine Lx.exit ?_)
    exact Fe.r1 rfl ⟨rfl, hk⟩
  | fld kind frm to null tag dflt of sub rest =>
    obtain ⟨hjn, p, sv, hix, hld, hone, hsub, hnext⟩ := hfrom.step
    have hlt : binA P .lss 3 false (.i .i64 (j : Nat)) (.i .i64 nn) = some (.b true) := by rw [hlt]; simp; omega
    obtain ⟨b2, H2, H3, hal, hst, k2, v3, _, k3, v2, _⟩ := alloc_new (H := H1) (cs := fcs kind frm to null tag dflt of sv) zeroF rfl zF rfl rfl (fcs_one hone)
    have hld1 := hld H1 (Kp.refl _)
    simp only [Fdl.plain, Bool.and_eq_true, decide_eq_true_eq] at hpl
    have hge : binA P .geq 3 true (.i .i64 tag) (.i .i64 0) = some (.b false) := by rw [geqI]; simp; omega
    have hadd := addJ 3 true (j : Nat) 1 (by omega)
    have e1 : ((j : Nat) : Int) + 1 = ((j + 1 : Nat) : Int) := by omega
    rw [e1] at hadd
    generalize hj1 : ((j + 1 : Nat) : Int) = j1 at hadd
    generalize ((j : Nat) : Int) = jj at hlt hix hadd
    generalize ((kind : Nat) : Int) = kk at hld1 hst v3
    generalize ((of : Nat) : Int) = oo at hld1 hst v3
    ((repeat with_reducible refine WP.seqs ?_); refine WP.rg ?_)
    ((repeat with_reducible refine WP.seqs ?_); first | refine WP.seq (WP.condT rfl ?_) | refine WP.condT rfl ?_)
    refine WP.skip ?_; repeat (first | with_reducible refine Sq.n ?_ | with_reducible refine Sq.ret ?_ | with_reducible refine Sq.exit ?_ | with_reducible refine Bk.n ?_ | with_reducible refine Bk.ret ?_ | with_reducible refine Bk.exit ?_ | with_reducible refine Bk.ex' (by decide) ?_ | with_reducible refine Lp.ret ?_ | with_reducible refine Lp.exit ?_ | with_reducible refine Lx.exit ?_)
    ((repeat with_reducible refine WP.seqs ?_); first | refine WP.seq (WP.block ?_) | refine WP.block ?_)
    ((repeat with_reducible refine WP.seqs ?_); refine WP.rg ?_)
    ((repeat with_reducible refine WP.seqs ?_); refine WP.rg ?_)
    ((repeat with_reducible refine WP.seqs ?_); first | refine WP.seq (WP.condF rfl ?_) | refine WP.condF rfl ?_)
    refine WP.skip ?_; repeat (first | with_reducible refine Sq.n ?_ | with_reducible refine Sq.ret ?_ | with_reducible refine Sq.exit ?_ | with_reducible refine Bk.n ?_ | with_reducible refine Bk.ret ?_ | with_reducible refine Bk.exit ?_ | with_reducible refine Bk.ex' (by decide) ?_ | with_reducible refine Lp.ret ?_ | with_reducible refine Lp.exit ?_ | with_reducible refine Lx.exit ?_)
    refine WP.re ?_; repeat (first | with_reducible refine Sq.n ?_ | with_reducible refine Sq.ret ?_ | with_reducible refine Sq.exit ?_ | with_reducible refine Bk.n ?_ | with_reducible refine Bk.ret ?_ | with_reducible refine Bk.exit ?_ | with_reducible refine Bk.ex' (by decide) ?_ | with_reducible refine Lp.ret ?_ | with_reducible refine Lp.exit ?_ | with_reducible refine Lx.exit ?_)
    refine Lp.n ⟨by omega, _, _, _, _, _, _, _, _, _, _, _, _, _, _, _, _, _, _, rest, by first | rfl | rw [hj1], hnext.kp k2, hpl.2, hk.trans k2⟩
end Go.Proofs.YtiifcfngbbhgoaaGreatDoor.Rd

