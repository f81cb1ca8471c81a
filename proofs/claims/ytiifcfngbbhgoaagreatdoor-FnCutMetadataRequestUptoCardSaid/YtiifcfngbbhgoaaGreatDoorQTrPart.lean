/-
  WHAT THE REFERENCE WRITES OF A PART.
-/
import Derived.Test.YtiifcfngbbhgoaaGreatDoorQTrField
import Derived.Test.YtiifcfngbbhgoaaGreatDoorQTrUnk
set_option linter.constructorNameAsVariable false
set_option linter.unusedVariables false
set_option linter.unusedSimpArgs false
namespace Go.Proofs.YtiifcfngbbhgoaaGreatDoor.Rd
open Go Go.Proofs.YtiifcfngbbhgoaaGreatDoor.Ax Go.Proofs.YtiifcfngbbhgoaaGreatDoor.Wire
set_option maxRecDepth 100000
set_option maxHeartbeats 4000000
theorem ex132 (fr : List AV) (h : fr.length = 132) : ∃ g : Nat → AV, fr = [g 0, g 1, g 2, g 3, g 4, g 5, g 6, g 7, g 8, g 9, g 10, g 11, g 12, g 13, g 14, g 15, g 16, g 17, g 18, g 19, g 20, g 21, g 22, g 23, g 24, g 25, g 26, g 27, g 28, g 29, g 30, g 31, g 32, g 33, g 34, g 35, g 36, g 37, g 38, g 39, g 40, g 41, g 42, g 43, g 44, g 45, g 46, g 47, g 48, g 49, g 50, g 51, g 52, g 53, g 54, g 55, g 56, g 57, g 58, g 59, g 60, g 61, g 62, g 63, g 64, g 65, g 66, g 67, g 68, g 69, g 70, g 71, g 72, g 73, g 74, g 75, g 76, g 77, g 78, g 79, g 80, g 81, g 82, g 83, g 84, g 85, g 86, g 87, g 88, g 89, g 90, g 91, g 92, g 93, g 94, g 95, g 96, g 97, g 98, g 99, g 100, g 101, g 102, g 103, g 104, g 105, g 106, g 107, g 108, g 109, g 110, g 111, g 112, g 113, g 114, g 115, g 116, g 117, g 118, g 119, g 120, g 121, g 122, g 123, g 124, g 125, g 126, g 127, g 128, g 129, g 130, g 131] := by
  obtain ⟨g, rfl⟩ := exM 132 fr h
  exact ⟨g, rfl⟩
theorem app_vr {L0 : Nat} {H H' : Heap} {out out' x : AV} {bs new : B} (ho : OutAt L0 H out bs) (hx : firstA H 1 x = some (new.length, u8s new)) (h : appendA P H 22 false out x = some (out', H')) {b : Nat} {ty : TypeId} {cs : List AV} (hb : H[b]? = some (.cells ty .vr cs)) : H'[b]? = some (.cells ty .vr cs) := by
  by_cases h0 : 0 < new.length ∨ out ≠ .s0
  · refine (app_keep h ho.shape hx h0).at_ b _ hb fun i o n e => ?_
    rcases ho with ⟨rfl, _⟩ | ⟨k, _, rfl, hk, _⟩
    · cases e
    · cases e
      intro e
      subst e
      rw [hk] at hb; cases hb
  · have h1 : new.length = 0 := by omega
    have h2 : out = .s0 := by
      by_cases e : out = .s0
      · exact e
      · exact absurd (.inr e) h0
    subst h2
    unfold appendA at h
    simp only [elemB, sizeU, bytesU, zeroU] at h
    split at h
    · rw [hx] at h
      simp only [h1, if_true] at h
      cases h
      exact hb
    · cases h
def SubsOK : Fdl → Prop
  | .nil => True
  | .fld _ _ _ _ _ _ _ sub rest => PartOK sub ∧ SubsOK rest
theorem bodyS_fld (ver : Nat) (flex : Bool) (kind : Nat) (frm to null tag dflt : Int) (of : Nat) (sub rest : Fdl) (i : Nat) (t : Tr) :
    bodyS ver flex (.fld kind frm to null tag dflt of sub rest) i t = (if hasS frm to ver then fieldS kind null of sub ver flex (t.at i) else []) ++ bodyS ver flex rest (i + 1) t := by
  rw [bodyS]
  congr 1
  by_cases hh : hasS frm to ver = true
  · rw [if_pos hh, if_pos hh]
    unfold fieldS
    by_cases h11 : kind = 11
    · rw [if_pos h11, if_pos h11]
      cases hnl : ((t.at i).null && nulS null ver) with
      | true => simp [cntS]
      | false =>
        simp only [cntS, Bool.false_eq_true, if_false]
        congr 1
    · rw [if_neg h11, if_neg h11]
      unfold valueS
      by_cases h10 : kind = 10
      · rw [if_pos h10, if_pos h10]; rfl
      · rw [if_neg h10, if_neg h10]
  · rw [if_neg hh, if_neg hh]
theorem okT_key : ∀ {ts : List (Nat × B)} {m : Nat}, okT m ts → ∀ x ∈ ts, x.1 < 2 ^ 32
  | (k, v) :: r, m, ⟨h1, h2, h3, h4⟩, x, hx => by
    rcases List.mem_cons.1 hx with rfl | hx
    · exact h2
    · exact okT_key h4 x hx
def wrT (x : Nat × B) : B := uv x.1 ++ (uv (whole x.2).length ++ whole x.2)
theorem encT_map : ∀ ts : List (Nat × B), encT (ts.map fun t => (t.1, whole t.2)) = ts.flatMap wrT
  | [] => rfl
  | x :: r => by
    have := encT_map r
    simp only [encT, List.map_cons, List.flatMap_cons] at this ⊢
    rw [this]; rfl
theorem bytes_wk {L : Heap} {Ha Hb : Heap} {av : AV} {bs : B} (h : BytesAt (Lt L) Ha av bs) (k : ∀ i, i < L.length → Hb[i]? = Ha[i]?) : BytesAt (Lt L) Hb av bs := by
  cases h with
  | z => exact .z
  | e => exact .e
  | s hA h h0 h1 => exact .s hA (by rw [k _ hA]; exact h) h0 h1
theorem first_wk {L1 : Nat} {Ha Hb : Heap} {av : AV} {bs : B} (h : OutAt L1 Ha av bs) (k : ∀ i b, L1 ≤ i → Ha[i]? = some b → Hb[i]? = some b) : firstA Hb 1 av = some (bs.length, u8s bs) := by
  have : OutAt L1 Hb av bs := by
    rcases h with h | ⟨i, h1, h2, h3, h4⟩
    · exact .inl h
    · exact .inr ⟨i, h1, h2, k i _ h1 h3, h4⟩
  exact (OutAt.bytes this).first
theorem part_ok {fd : Fdl} (hpl : fd.plain = true) (hln : fd.len ≤ 1000) (hso : SubsOK fd) : PartOK fd := by
  intro H av c t ver flex hf ht htf hb
  obtain ⟨s, l, u, rfl, hn, hs, hu, hl, hx, hone⟩ := ht.parts
  obtain ⟨b1, H1, hbx, k1, v1, _⟩ := box_new (H := H) (e := 26) hone
  have hb1 : b1 < H1.length := (List.getElem?_eq_some_iff.1 v1).1
  refine CA.wp (fn := Tryz.f13) (R := fun out H' => OutAt H.length H' out (partS ver flex fd t) ∧ Kp H H') (by kernel_rfl) rfl ?_
  have hlen := hf.len
  generalize hnn : ((fd.len : Nat) : Int) = nn at hlen
  generalize hvi : ((ver : Nat) : Int) = vi
  unfold partS at hb ⊢
  rw [List.length_append] at hb
  dsimp only [Tryz.f13]
  dsimp only [List.length_cons, List.length_nil, List.cons_append, List.nil_append, Nat.reduceSub, Nat.reduceAdd, List.replicate]
  ((repeat with_reducible refine WP.seqs ?_); refine WP.rg ?_)
  ((repeat with_reducible refine WP.seqs ?_); refine WP.rg ?_)
  ((repeat with_reducible refine WP.seqs ?_); refine WP.rg ?_)
  ((repeat with_reducible refine WP.seqs ?_); refine WP.rg ?_)
  ((repeat with_reducible refine WP.seqs ?_); first | refine WP.seq (WP.block ?_) | refine WP.block ?_)
  refine WP.loop (Inv := fun j fr H2 => ∃ (r : Fdl) (out : AV) (acc : B), (fr.length = 132 ∧ fr[0]? = some (av) ∧ fr[1]? = some (.i .i64 vi) ∧ fr[2]? = some (.b flex) ∧ fr[7]? = some (.p b1 0) ∧ fr[9]? = some (out) ∧ fr[10]? = some (.s0) ∧ fr[11]? = some (.i .i64 0) ∧ fr[21]? = some (av) ∧ fr[22]? = some (.i .i64 nn) ∧ fr[23]? = some (.i .i64 (j : Nat))) ∧ FdFrom H1 av fd.len j r ∧ r.plain = true ∧ SubsOK r ∧ acc ++ bodyS ver flex r j t = bodyS ver flex fd 0 t ∧ OutAt H1.length H2 out acc ∧ Kp H1 H2) fd.len ?_ fd.len 0 _ _ (by omega) ?_
  rotate_left
  · exact ⟨fd, .s0, [], ⟨rfl, rfl, rfl, rfl, rfl, rfl, rfl, rfl, rfl, rfl, rfl⟩, (hf.kp k1).from0, hpl, hso, rfl, .inl ⟨rfl, rfl⟩, Kp.refl _⟩
  intro j fr H2 hj ⟨r, out, acc, ⟨hfl, hf0, hf1, hf2, hf7, hf9, hf10, hf11, hf21, hf22, hf23⟩, hfrom, hrp, hrs, hacc, ho, hk⟩
  obtain ⟨g, rfl⟩ := ex132 _ hfl; replace hf0 : g 0 = _ := Option.some.inj hf0; replace hf1 : g 1 = _ := Option.some.inj hf1; replace hf2 : g 2 = _ := Option.some.inj hf2; replace hf7 : g 7 = _ := Option.some.inj hf7; replace hf9 : g 9 = _ := Option.some.inj hf9; replace hf10 : g 10 = _ := Option.some.inj hf10; replace hf11 : g 11 = _ := Option.some.inj hf11; replace hf21 : g 21 = _ := Option.some.inj hf21; replace hf22 : g 22 = _ := Option.some.inj hf22; replace hf23 : g 23 = _ := Option.some.inj hf23; rw [hf0, hf1, hf2, hf7, hf9, hf10, hf11, hf21, hf22, hf23]; clear hfl hf0 hf1 hf2 hf7 hf9 hf10 hf11 hf21 hf22 hf23
  have hlt := lssI 3 false (j : Nat) (fd.len : Nat)
  rw [hnn] at hlt
  have v2 := hk.at_ v1
  cases r with
  | fld kind frm to null tag dflt of sub rest =>
    obtain ⟨hjn, p, sv, hix, hld, hsv, hsub, hnext⟩ := hfrom.step
    replace hlt : binA P .lss 3 false (.i .i64 (j : Nat)) (.i .i64 nn) = some (.b true) := by rw [hlt]; simp; omega
    obtain ⟨b3, H3, H4, hal, hst, k4, v3, _, k3, _, _⟩ := alloc_new (H := H2) (cs := fcs kind frm to null tag dflt of sv) zeroF rfl zF rfl rfl (fcs_one hsv)
    have hld2 := hld H2 hk
    simp only [Fdl.plain, Bool.and_eq_true, Bool.or_eq_true, decide_eq_true_eq] at hrp
    obtain ⟨⟨⟨⟨⟨⟨p1, p2⟩, p3⟩, p4⟩, p5⟩, p6⟩, p7⟩ := hrp
    have hlz : binA P .lss 3 true (.i .i64 tag) (.i .i64 0) = some (.b true) := by rw [lssI]; simp; omega
    obtain ⟨hv, H5, hch, hve, k5⟩ := has_x (kind := kind) (frm := frm) (to := to) (null := null) (tag := tag) (dflt := dflt) (of := of) hsv ver H4
    subst hve
    rw [hvi] at hch
    have hadd := addJ 3 true (j : Nat) 1 (by omega)
    rw [show ((j : Nat) : Int) + 1 = ((j + 1 : Nat) : Int) by omega] at hadd
    rw [bodyS_fld] at hacc
    have k25 := k4.trans k5
    have k15 := hk.trans k25
    by_cases hh : hasS frm to ver = true
    · rw [hh] at hch
      rw [if_pos hh] at hacc
      have hlb : acc.length + ((fieldS kind null of sub ver flex (t.at j)).length + (bodyS ver flex rest (j + 1) t).length) = (bodyS ver flex fd 0 t).length := by rw [← hacc]; simp
      obtain ⟨cv, H6, hca, c', rfl, htc, k6⟩ := at_x (ht.kp (k1.trans k15)) j
      obtain ⟨ov, H7, hcf, hov, k7⟩ := field_x (kind := kind) (frm := frm) (to := to) (null := null) (tag := tag) (dflt := dflt) (of := of) (sub := sub) (sv := sv) (ver := ver) (flex := flex) (H := H6) p2 p3 (p4.imp (fun h => by simpa using h) id) hsv (hsub.kp (k15.trans k6)) hrs.1 htc (htf.at j) (by omega)
      rw [hvi] at hcf
      have k57 := k6.trans k7
      have ho7 := ho.wk (k25.trans k57)
      have hf7 := (OutAt.bytes hov).first
      obtain ⟨o8, H8, hap, ho8, k8⟩ := ap_bytes (str := false) (Nat.le_trans k15.1 k57.1) ho7 hf7 (by omega)
      have hns : ov.isS = false := hov.cells
      have v5 := k25.at_ v2
      have w5 := k5.at_ v3
      have r5 : H5[b1]? = _ ∧ H5[b3]? = _ := ⟨v5, w5⟩
      have r6 : H6[b1]? = _ ∧ H6[b3]? = _ := ⟨k6.at_ v5, k6.at_ w5⟩
      have r7 : H7[b1]? = _ ∧ H7[b3]? = _ := ⟨k57.at_ v5, k57.at_ w5⟩
      have r8 : H8[b1]? = _ ∧ H8[b3]? = _ := ⟨app_vr ho7 hf7 hap r7.1, app_vr ho7 hf7 hap r7.2⟩
      have hacc8 : (acc ++ fieldS kind null of sub ver flex (t.at j)) ++ bodyS ver flex rest (j + 1) t = bodyS ver flex fd 0 t := by rw [← hacc]; simp
      obtain ⟨n1, hca⟩ := hca
      obtain ⟨n2, hcf⟩ := hcf
      have k18 : Kp H1 H8 := (k15.trans k57).wt k8
      generalize hj1 : ((j + 1 : Nat) : Int) = j1 at hadd
      generalize hjj : ((j : Nat) : Int) = jj at hlt hix hadd hca
      ((repeat with_reducible refine WP.seqs ?_); refine WP.rg ?_)
      ((repeat with_reducible refine WP.seqs ?_); first | refine WP.seq (WP.condT rfl ?_) | refine WP.condT rfl ?_)
      refine WP.skip ?_; repeat (first | with_reducible refine Sq.n ?_ | with_reducible refine Sq.ret ?_ | with_reducible refine Sq.exit ?_ | with_reducible refine Bk.n ?_ | with_reducible refine Bk.ret ?_ | with_reducible refine Bk.exit ?_ | with_reducible refine Bk.ex' (by decide) ?_ | with_reducible refine Lp.ret ?_ | with_reducible refine Lp.exit ?_ | with_reducible refine Lx.exit ?_)
      ((repeat with_reducible refine WP.seqs ?_); first | refine WP.seq (WP.block ?_) | refine WP.block ?_)
      ((repeat with_reducible refine WP.seqs ?_); refine WP.rg ?_)
      ((repeat with_reducible refine WP.seqs ?_); refine WP.rg ?_)
      ((repeat with_reducible refine WP.seqs ?_); first | refine WP.seq (WP.condT rfl ?_) | refine WP.condT rfl ?_)
      refine WP.rSe (fun H' => H'[b1]? = some (.cells 26 .vr [.i .i64 t.n, s, .b t.null, l, u]) ∧ H'[b3]? = some (.cells 47 .vr (fcs kind frm to null tag dflt of sv))) (n0 := max n1 n2) r5 ?_
      apply Exists.intro; apply Exists.intro; apply And.intro
      · intro n hn
        have hca := hca n (by omega)
        have hcf := hcf n (by omega)
        (refine OpsP.pu rfl rfl (fun H2 hk => by (have v1 := hk.1); (have v2 := hk.2); exact ⟨_, opy⟩) ?_; dsimp only [AV.cells, putA, List.set_cons_zero, List.set_cons_succ])
        (refine OpsP.pu rfl rfl (fun H2 hk => by (have v1 := hk.1); (have v2 := hk.2); exact ⟨_, opy⟩) ?_; dsimp only [AV.cells, putA, List.set_cons_zero, List.set_cons_succ])
        (refine OpsP.pu rfl rfl (fun H2 hk => by (have v1 := hk.1); (have v2 := hk.2); exact ⟨_, opy⟩) ?_; dsimp only [AV.cells, putA, List.set_cons_zero, List.set_cons_succ])
        (refine OpsP.pu rfl rfl (fun H2 hk => by (have v1 := hk.1); (have v2 := hk.2); exact ⟨_, opy⟩) ?_; dsimp only [AV.cells, putA, List.set_cons_zero, List.set_cons_succ])
        (refine OpsP.pu rfl rfl (fun H2 hk => by (have v1 := hk.1); (have v2 := hk.2); exact ⟨_, opy⟩) ?_; dsimp only [AV.cells, putA, List.set_cons_zero, List.set_cons_succ])
        (refine OpsP.pu rfl rfl (fun H2 hk => by (have v1 := hk.1); (have v2 := hk.2); exact ⟨_, opy⟩) ?_; dsimp only [AV.cells, putA, List.set_cons_zero, List.set_cons_succ])
        (refine OpsP.cl rfl rfl ?_; dsimp only [AV.cells, putA, List.set_cons_zero, List.set_cons_succ])
        (refine OpsP.cl rfl rfl ?_; dsimp only [AV.cells, putA, List.set_cons_zero, List.set_cons_succ])
        (refine OpsP.op rfl rfl rfl ?_; dsimp only [AV.cells, putA, List.set_cons_zero, List.set_cons_succ])
        (refine OpsP.pu rfl rfl (fun H2 hk => by (have v1 := hk.1); (have v2 := hk.2); exact ⟨_, opy⟩) ?_; dsimp only [AV.cells, putA, List.set_cons_zero, List.set_cons_succ])
        exact OpsP.nil
      repeat (first | with_reducible refine Sq.n ?_ | with_reducible refine Sq.ret ?_ | with_reducible refine Sq.exit ?_ | with_reducible refine Bk.n ?_ | with_reducible refine Bk.ret ?_ | with_reducible refine Bk.exit ?_ | with_reducible refine Bk.ex' (by decide) ?_ | with_reducible refine Lp.ret ?_ | with_reducible refine Lp.exit ?_ | with_reducible refine Lx.exit ?_)
      refine WP.re ?_; repeat (first | with_reducible refine Sq.n ?_ | with_reducible refine Sq.ret ?_ | with_reducible refine Sq.exit ?_ | with_reducible refine Bk.n ?_ | with_reducible refine Bk.ret ?_ | with_reducible refine Bk.exit ?_ | with_reducible refine Bk.ex' (by decide) ?_ | with_reducible refine Lp.ret ?_ | with_reducible refine Lp.exit ?_ | with_reducible refine Lx.exit ?_)
      exact Lp.n ⟨by omega, rest, o8, _, ⟨rfl, rfl, rfl, rfl, rfl, rfl, rfl, rfl, rfl, rfl, rfl⟩, hnext, p7, hrs.2, hacc8, ho8, k18⟩
    · rw [show hasS frm to ver = false by simpa using hh] at hch
      rw [if_neg hh, List.nil_append] at hacc
      generalize hj1 : ((j + 1 : Nat) : Int) = j1 at hadd
      generalize hjj : ((j : Nat) : Int) = jj at hlt hix hadd
      ((repeat with_reducible refine WP.seqs ?_); refine WP.rg ?_)
      ((repeat with_reducible refine WP.seqs ?_); first | refine WP.seq (WP.condT rfl ?_) | refine WP.condT rfl ?_)
      refine WP.skip ?_; repeat (first | with_reducible refine Sq.n ?_ | with_reducible refine Sq.ret ?_ | with_reducible refine Sq.exit ?_ | with_reducible refine Bk.n ?_ | with_reducible refine Bk.ret ?_ | with_reducible refine Bk.exit ?_ | with_reducible refine Bk.ex' (by decide) ?_ | with_reducible refine Lp.ret ?_ | with_reducible refine Lp.exit ?_ | with_reducible refine Lx.exit ?_)
      ((repeat with_reducible refine WP.seqs ?_); first | refine WP.seq (WP.block ?_) | refine WP.block ?_)
      ((repeat with_reducible refine WP.seqs ?_); refine WP.rg ?_)
      ((repeat with_reducible refine WP.seqs ?_); refine WP.rg ?_)
      ((repeat with_reducible refine WP.seqs ?_); first | refine WP.seq (WP.condF rfl ?_) | refine WP.condF rfl ?_)
      refine WP.skip ?_; repeat (first | with_reducible refine Sq.n ?_ | with_reducible refine Sq.ret ?_ | with_reducible refine Sq.exit ?_ | with_reducible refine Bk.n ?_ | with_reducible refine Bk.ret ?_ | with_reducible refine Bk.exit ?_ | with_reducible refine Bk.ex' (by decide) ?_ | with_reducible refine Lp.ret ?_ | with_reducible refine Lp.exit ?_ | with_reducible refine Lx.exit ?_)
      refine WP.re ?_; repeat (first | with_reducible refine Sq.n ?_ | with_reducible refine Sq.ret ?_ | with_reducible refine Sq.exit ?_ | with_reducible refine Bk.n ?_ | with_reducible refine Bk.ret ?_ | with_reducible refine Bk.exit ?_ | with_reducible refine Bk.ex' (by decide) ?_ | with_reducible refine Lp.ret ?_ | with_reducible refine Lp.exit ?_ | with_reducible refine Lx.exit ?_)
      exact Lp.n ⟨by omega, rest, out, acc, ⟨rfl, rfl, rfl, rfl, rfl, rfl, rfl, rfl, rfl, rfl, rfl⟩, hnext, p7, hrs.2, hacc, ho.wk k25, k15⟩
  | nil =>
    have hjn := hfrom.done
    replace hlt : binA P .lss 3 false (.i .i64 (j : Nat)) (.i .i64 nn) = some (.b false) := by rw [hlt]; simp; omega
    have hacc : acc = bodyS ver flex fd 0 t := by simpa [bodyS] using hacc
    generalize ((j : Nat) : Int) = jj at hlt
    cases flex with
    | false =>
      ((repeat with_reducible refine WP.seqs ?_); refine WP.rg ?_)
      ((repeat with_reducible refine WP.seqs ?_); first | refine WP.seq (WP.condF rfl ?_) | refine WP.condF rfl ?_)
      refine WP.exit ?_; repeat (first | with_reducible refine Sq.n ?_ | with_reducible refine Sq.ret ?_ | with_reducible refine Sq.exit ?_ | with_reducible refine Bk.n ?_ | with_reducible refine Bk.ret ?_ | with_reducible refine Bk.exit ?_ | with_reducible refine Bk.ex' (by decide) ?_ | with_reducible refine Lp.ret ?_ | with_reducible refine Lp.exit ?_ | with_reducible refine Lx.exit ?_)
      ((repeat with_reducible refine WP.seqs ?_); refine WP.rg ?_)
      ((repeat with_reducible refine WP.seqs ?_); first | refine WP.seq (WP.condT rfl ?_) | refine WP.condT rfl ?_)
      ((repeat with_reducible refine WP.seqs ?_); refine WP.rg ?_)
      refine WP.ret ?_; repeat (first | with_reducible refine Sq.n ?_ | with_reducible refine Sq.ret ?_ | with_reducible refine Sq.exit ?_ | with_reducible refine Bk.n ?_ | with_reducible refine Bk.ret ?_ | with_reducible refine Bk.exit ?_ | with_reducible refine Bk.ex' (by decide) ?_ | with_reducible refine Lp.ret ?_ | with_reducible refine Lp.exit ?_ | with_reducible refine Lx.exit ?_)
      refine Fe.r1 rfl ⟨?_, k1.trans hk⟩
      simp only [tlS, Bool.false_eq_true, if_false, List.append_nil]
      rw [← hacc]
      exact ho.mono k1.1
    | true =>
      obtain ⟨kv, H3, hck, hkv, k3⟩ := known_x (hf.kp (k1.trans hk)) hpl hln
      subst hkv
      have hcv0 : convA P 53 3 (.i .u32 0) = some (.i .i64 0) := by kernel_rfl
      have hz : binA P .lss 3 false (.i .i64 0) (.i .i64 0) = some (.b false) := by rw [lssI]; rfl
      have v3 := k3.at_ v2
      obtain ⟨gv, H4, hcu, hgt, k4⟩ := unknown_x (hf.kp ((k1.trans hk).trans k3)) hpl hln (hu.kp ((k1.trans hk).trans k3))
      have hgl := hgt.1.len (t := 24) (by rw [elG]; rfl)
      obtain ⟨hok, htl⟩ := tagsW_ok htf.u
      have hTw : tagsW t.u = (unkS t.u).map fun x => (x.1, whole x.2) := rfl
      generalize hT : unkS t.u = T at hgt hgl hTw
      have hTl : T.length < 2 ^ 32 := by rw [hTw, List.length_map] at htl; exact htl
      have hkey : ∀ x ∈ T, x.1 < 2 ^ 32 := fun x hx => by
        have := okT_key hok (x.1, whole x.2) (by rw [hTw]; exact List.mem_map_of_mem hx)
        exact this
      have hte : tlS true t = uv T.length ++ T.flatMap wrT := by
        unfold tlS
        rw [if_pos rfl, hTw, List.length_map, encT_map]
      rw [hte] at hb ⊢
      rw [List.length_append] at hb
      have k14 := (hk.trans k3).trans k4
      have ho4 := ho.wk (k3.trans k4)
      generalize hni : ((T.length : Nat) : Int) = ni at hgl
      ((repeat with_reducible refine WP.seqs ?_); refine WP.rg ?_)
      ((repeat with_reducible refine WP.seqs ?_); first | refine WP.seq (WP.condF rfl ?_) | refine WP.condF rfl ?_)
      refine WP.exit ?_; repeat (first | with_reducible refine Sq.n ?_ | with_reducible refine Sq.ret ?_ | with_reducible refine Sq.exit ?_ | with_reducible refine Bk.n ?_ | with_reducible refine Bk.ret ?_ | with_reducible refine Bk.exit ?_ | with_reducible refine Bk.ex' (by decide) ?_ | with_reducible refine Lp.ret ?_ | with_reducible refine Lp.exit ?_ | with_reducible refine Lx.exit ?_)
      ((repeat with_reducible refine WP.seqs ?_); refine WP.rg ?_)
      ((repeat with_reducible refine WP.seqs ?_); first | refine WP.seq (WP.condF rfl ?_) | refine WP.condF rfl ?_)
      refine WP.skip ?_; repeat (first | with_reducible refine Sq.n ?_ | with_reducible refine Sq.ret ?_ | with_reducible refine Sq.exit ?_ | with_reducible refine Bk.n ?_ | with_reducible refine Bk.ret ?_ | with_reducible refine Bk.exit ?_ | with_reducible refine Bk.ex' (by decide) ?_ | with_reducible refine Lp.ret ?_ | with_reducible refine Lp.exit ?_ | with_reducible refine Lx.exit ?_)
      ((repeat with_reducible refine WP.seqs ?_); refine WP.rg ?_)
      ((repeat with_reducible refine WP.seqs ?_); first | refine WP.seq (WP.block ?_) | refine WP.block ?_)
      refine WP.loop0 ?_
      ((repeat with_reducible refine WP.seqs ?_); refine WP.rg ?_)
      ((repeat with_reducible refine WP.seqs ?_); first | refine WP.seq (WP.condF rfl ?_) | refine WP.condF rfl ?_)
      refine WP.exit ?_; repeat (first | with_reducible refine Sq.n ?_ | with_reducible refine Sq.ret ?_ | with_reducible refine Sq.exit ?_ | with_reducible refine Bk.n ?_ | with_reducible refine Bk.ret ?_ | with_reducible refine Bk.exit ?_ | with_reducible refine Bk.ex' (by decide) ?_ | with_reducible refine Lp.ret ?_ | with_reducible refine Lp.exit ?_ | with_reducible refine Lx.exit ?_)
      ((repeat with_reducible refine WP.seqs ?_); refine WP.rg ?_)
      ((repeat with_reducible refine WP.seqs ?_); first | refine WP.seq (WP.block ?_) | refine WP.block ?_)
      refine WP.loop (Inv := fun j fr H5 => ∃ (tags : AV), (fr.length = 132 ∧ fr[0]? = some (av) ∧ fr[1]? = some (.i .i64 vi) ∧ fr[2]? = some (.b true) ∧ fr[7]? = some (.p b1 0) ∧ fr[9]? = some (out) ∧ fr[10]? = some (tags) ∧ fr[11]? = some (.i .i64 (j : Nat)) ∧ fr[100]? = some (gv) ∧ fr[101]? = some (.i .i64 ni) ∧ fr[102]? = some (.i .i64 (j : Nat))) ∧ OutAt H4.length H5 tags ((T.take j).flatMap wrT) ∧ Kp H4 H5) T.length ?_ T.length 0 _ _ (by omega) ?_
      rotate_left
      · exact ⟨.s0, ⟨rfl, rfl, rfl, rfl, rfl, rfl, rfl, rfl, rfl, rfl, rfl⟩, .inl ⟨rfl, rfl⟩, Kp.refl _⟩
      clear hlt
      intro j fr H5 hj ⟨tags, ⟨hfl, hf0, hf1, hf2, hf7, hf9, hf10, hf11, hf100, hf101, hf102⟩, hot, hk5⟩
      obtain ⟨g, rfl⟩ := ex132 _ hfl; replace hf0 : g 0 = _ := Option.some.inj hf0; replace hf1 : g 1 = _ := Option.some.inj hf1; replace hf2 : g 2 = _ := Option.some.inj hf2; replace hf7 : g 7 = _ := Option.some.inj hf7; replace hf9 : g 9 = _ := Option.some.inj hf9; replace hf10 : g 10 = _ := Option.some.inj hf10; replace hf11 : g 11 = _ := Option.some.inj hf11; replace hf100 : g 100 = _ := Option.some.inj hf100; replace hf101 : g 101 = _ := Option.some.inj hf101; replace hf102 : g 102 = _ := Option.some.inj hf102; rw [hf0, hf1, hf2, hf7, hf9, hf10, hf11, hf100, hf101, hf102]; clear hfl hf0 hf1 hf2 hf7 hf9 hf10 hf11 hf100 hf101 hf102
      have hlt := lssI 3 false (j : Nat) (T.length : Nat)
      rw [hni] at hlt
      by_cases hjl : j < T.length
      · replace hlt : binA P .lss 3 false (.i .i64 (j : Nat)) (.i .i64 ni) = some (.b true) := by rw [hlt]; simp; omega
        obtain ⟨kx, bx, hxj⟩ : ∃ kx bx, T[j]? = some (kx, bx) := ⟨T[j].1, T[j].2, by simp [hjl]⟩
        have hkx : kx < 4294967296 := hkey (kx, bx) (List.mem_of_getElem? hxj)
        obtain ⟨w, hxe, hxb⟩ := hgt.2 j kx bx hxj
        obtain ⟨p, c, hix, hld, hel, _⟩ := (hgt.1.kp hk5).idxk elG zG aG hjl
        have hc : c = [.i .u32 (kx : Nat), w] := by
          rw [hgt.1.el hk5 hjl, hxe] at hel; cases hel; rfl
        subst hc
        have hld5 := hld H5 (Kp.refl _)
        have hwone := (BytesAt.one' hxb).2
        obtain ⟨b3, H6, H7, hal, hst, k7, v7, _, k6, _, _⟩ := alloc_new (H := H5) (cs := [.i .u32 (kx : Nat), w]) zeroG rfl zG rfl rfl (by have : (AV.i .u32 (kx : Nat)).one = true := rfl; simp [this, hwone])
        have k47 := hk5.trans k7
        obtain ⟨w2, hcw, hw2⟩ := whole_x (bytes_wk hxb (fun i hi => k47.2 i hi))
        have hl2 := hw2.len bty
        have hcv1 := cv_u32_u64 kx hkx
        have hwl := whole_len bx
        have hcv2 := cv_int_u64 (whole bx).length (by omega)
        have htk : (T.take (j + 1)).flatMap wrT = (T.take j).flatMap wrT ++ wrT (kx, bx) := by
          rw [List.take_add_one, hxj]; simp
        have hle : ((T.take j).flatMap wrT).length + (wrT (kx, bx)).length ≤ (T.flatMap wrT).length := by
          have e : T = T.take (j + 1) ++ T.drop (j + 1) := (List.take_append_drop _ _).symm
          have : (T.flatMap wrT).length = ((T.take (j + 1)).flatMap wrT).length + ((T.drop (j + 1)).flatMap wrT).length := by
            conv => lhs; rw [e]
            rw [List.flatMap_append, List.length_append]
          rw [this, htk, List.length_append]; omega
        have hwr : (wrT (kx, bx)).length = (uv kx).length + ((uv (whole bx).length).length + (whole bx).length) := by simp [wrT]
        rw [hwr] at hle
        obtain ⟨o1, H8, hc1, hq1, k8⟩ := uvs_x (n := kx) (by omega) H7
        obtain ⟨g1, H9, ha1, hg1, k9⟩ := ap_bytes (str := false) (Nat.le_trans k47.1 k8.1) ((hot.wk k7).wk k8) (OutAt.bytes hq1).first (by omega)
        obtain ⟨o2, H10, hc2, hq2, k10⟩ := uvs_x (n := (whole bx).length) (by omega) H9
        have h49 := Nat.le_trans (Nat.le_trans k47.1 k8.1) k9.len
        obtain ⟨g2, H11, ha2, hg2, k11⟩ := ap_bytes (str := false) (Nat.le_trans h49 k10.1) (hg1.wk k10) (OutAt.bytes hq2).first (by simp only [List.length_append]; omega)
        have h411 := Nat.le_trans (Nat.le_trans h49 k10.1) k11.len
        have hw11 : BytesAt (Lt H4) H11 w2 (whole bx) := bytes_wk hw2 (fun i hi => by
          rw [k11.at_ i hi, k10.2 i (by omega), k9.at_ i hi, k8.2 i (Nat.lt_of_lt_of_le hi k47.1)])
        obtain ⟨g3, H12, ha3, hg3, k12⟩ := ap_bytes (str := false) h411 hg2 hw11.first (by simp only [List.length_append]; omega)
        have hs1 := hq1.cells
        have hs2 := hq2.cells
        have hs3 := BytesAt.noS hw2
        have k412 : Kp H4 H12 := ⟨by have := k12.len; omega, fun i hi => by rw [k12.at_ i hi, k11.at_ i hi, k10.2 i (by omega), k9.at_ i hi, k8.2 i (Nat.lt_of_lt_of_le hi k47.1), k47.2 i hi]⟩
        have hadd := addJ 3 true (j : Nat) 1 (by omega)
        rw [show ((j : Nat) : Int) + 1 = ((j + 1 : Nat) : Int) by omega] at hadd
        have hg3' : OutAt H4.length H12 g3 ((T.take (j + 1)).flatMap wrT) := by
          rw [htk]
          simp only [wrT]
          simpa [List.append_assoc] using hg3
        generalize hj1 : ((j + 1 : Nat) : Int) = j1 at hadd
        generalize hjj : ((j : Nat) : Int) = jj at hlt hix hadd
        generalize (((whole bx).length : Nat) : Int) = wl at hl2 hcv2 hc2
        generalize ((kx : Nat) : Int) = kk at hld5 hst v7 hcv1 hc1
        ((repeat with_reducible refine WP.seqs ?_); refine WP.rg ?_)
        ((repeat with_reducible refine WP.seqs ?_); first | refine WP.seq (WP.condT rfl ?_) | refine WP.condT rfl ?_)
        refine WP.skip ?_; repeat (first | with_reducible refine Sq.n ?_ | with_reducible refine Sq.ret ?_ | with_reducible refine Sq.exit ?_ | with_reducible refine Bk.n ?_ | with_reducible refine Bk.ret ?_ | with_reducible refine Bk.exit ?_ | with_reducible refine Bk.ex' (by decide) ?_ | with_reducible refine Lp.ret ?_ | with_reducible refine Lp.exit ?_ | with_reducible refine Lx.exit ?_)
        ((repeat with_reducible refine WP.seqs ?_); first | refine WP.seq (WP.block ?_) | refine WP.block ?_)
        ((repeat with_reducible refine WP.seqs ?_); refine WP.rg ?_)
        ((repeat with_reducible refine WP.seqs ?_); refine WP.rg ?_)
        ((repeat with_reducible refine WP.seqs ?_); refine WP.rg ?_)
        refine WP.re ?_; repeat (first | with_reducible refine Sq.n ?_ | with_reducible refine Sq.ret ?_ | with_reducible refine Sq.exit ?_ | with_reducible refine Bk.n ?_ | with_reducible refine Bk.ret ?_ | with_reducible refine Bk.exit ?_ | with_reducible refine Bk.ex' (by decide) ?_ | with_reducible refine Lp.ret ?_ | with_reducible refine Lp.exit ?_ | with_reducible refine Lx.exit ?_)
        refine WP.re ?_; repeat (first | with_reducible refine Sq.n ?_ | with_reducible refine Sq.ret ?_ | with_reducible refine Sq.exit ?_ | with_reducible refine Bk.n ?_ | with_reducible refine Bk.ret ?_ | with_reducible refine Bk.exit ?_ | with_reducible refine Bk.ex' (by decide) ?_ | with_reducible refine Lp.ret ?_ | with_reducible refine Lp.exit ?_ | with_reducible refine Lx.exit ?_)
        exact Lp.n ⟨by omega, g3, ⟨rfl, rfl, rfl, rfl, rfl, rfl, rfl, rfl, rfl, rfl, rfl⟩, hg3', k412⟩
      · replace hlt : binA P .lss 3 false (.i .i64 (j : Nat)) (.i .i64 ni) = some (.b false) := by rw [hlt]; simp; omega
        have hjT : j = T.length := by omega
        subst hjT
        rw [List.take_length] at hot
        have hcv := cv_int_u64 T.length (by omega)
        have hal : acc.length = (bodyS ver true fd 0 t).length := by rw [hacc]
        have ho5 := ho4.wk hk5
        obtain ⟨o1, H6, hc1, hq1, k6⟩ := uvs_x (n := T.length) (by omega) H5
        have h15 := Nat.le_trans k14.1 hk5.1
        have hf1 := (OutAt.bytes hq1).first
        obtain ⟨g1, H7, ha1, hg1, k7⟩ := ap_bytes (str := false) (Nat.le_trans h15 k6.1) (ho5.wk k6) hf1 (by omega)
        have hok7 := app_keep ha1 (ho5.wk k6).shape hf1 (.inl (uv_pos _))
        have hft := first_wk (hot.wk k6) (fun i b hi hb => hok7.at_ i b hb (fun i0 o n e => by
          rcases ho4 with ⟨rfl, _⟩ | ⟨i1, _, rfl, h3, _⟩
          · cases e
          · cases e
            have := (List.getElem?_eq_some_iff.1 h3).1
            omega))
        obtain ⟨g2, H8, ha2, hg2, k8⟩ := ap_bytes (str := false) (Nat.le_trans (Nat.le_trans h15 k6.1) k7.len) hg1 hft (by simp only [List.length_append]; omega)
        have hs1 := hq1.cells
        have hs2 := hot.cells
        have kAll : Kp H H8 := (k1.trans ((k14.trans hk5).trans k6)).trans (Kp.refl _) |> fun _ => (k1.trans (((k14.trans hk5).trans k6).wt (k7.trans k8)))
        generalize ((T.length : Nat) : Int) = jj at hlt hcv hc1
        ((repeat with_reducible refine WP.seqs ?_); refine WP.rg ?_)
        ((repeat with_reducible refine WP.seqs ?_); first | refine WP.seq (WP.condF rfl ?_) | refine WP.condF rfl ?_)
        refine WP.exit ?_; repeat (first | with_reducible refine Sq.n ?_ | with_reducible refine Sq.ret ?_ | with_reducible refine Sq.exit ?_ | with_reducible refine Bk.n ?_ | with_reducible refine Bk.ret ?_ | with_reducible refine Bk.exit ?_ | with_reducible refine Bk.ex' (by decide) ?_ | with_reducible refine Lp.ret ?_ | with_reducible refine Lp.exit ?_ | with_reducible refine Lx.exit ?_)
        ((repeat with_reducible refine WP.seqs ?_); refine WP.rg ?_)
        refine WP.ret ?_; repeat (first | with_reducible refine Sq.n ?_ | with_reducible refine Sq.ret ?_ | with_reducible refine Sq.exit ?_ | with_reducible refine Bk.n ?_ | with_reducible refine Bk.ret ?_ | with_reducible refine Bk.exit ?_ | with_reducible refine Bk.ex' (by decide) ?_ | with_reducible refine Lp.ret ?_ | with_reducible refine Lp.exit ?_ | with_reducible refine Lx.exit ?_)
        refine Fe.r1 rfl ⟨?_, kAll⟩
        rw [← hacc, ← List.append_assoc]
        exact hg2.mono k1.1
end Go.Proofs.YtiifcfngbbhgoaaGreatDoor.Rd

