/-
  BrokerHeartbeatRequest: WHAT IS READ OF OCTETS IS WRITTEN AGAIN.
-/
import Derived.Test.YtiifcfngbbhgoagDoorQHbWrite
import Derived.Test.YtiifcfngbbhgoagDoorQApKit
set_option linter.constructorNameAsVariable false
set_option linter.unusedVariables false
set_option linter.unusedSimpArgs false
namespace Go.Proofs.YtiifcfngbbhgoagDoor.Rd
open Go Go.Proofs.YtiifcfngbbhgoagDoor.Ax Go.Proofs.YtiifcfngbbhgoagDoor.Wire
set_option maxRecDepth 100000
set_option maxHeartbeats 2000000
theorem readf_x {H H' : Heap} {q src r : AV} (c : CA P NS 14 [q, src, .b false] H (r, H')) : CA P NS 11 [q, src] H (r, H') := by
  have key : ∃ w Hw, CA P NS 11 [q, src] H (w, Hw) ∧ (w = r ∧ Hw = H') := by
    refine CA.wp (fn := Tryd.f11) (R := fun w Hw => w = r ∧ Hw = H') (by kernel_rfl) rfl ?_
    dsimp only [Tryd.f11]
    dsimp only [List.length_cons, List.length_nil, List.cons_append, List.nil_append, Nat.reduceSub, Nat.reduceAdd, List.replicate]
    ((repeat with_reducible refine WP.seqs ?_); refine WP.rg ?_)
    ((repeat with_reducible refine WP.seqs ?_); refine WP.rg ?_)
    refine WP.ret ?_; repeat (first | with_reducible refine Sq.n ?_ | with_reducible refine Sq.ret ?_ | with_reducible refine Sq.exit ?_ | with_reducible refine Bk.n ?_ | with_reducible refine Bk.ret ?_ | with_reducible refine Bk.exit ?_ | with_reducible refine Bk.ex' (by decide) ?_ | with_reducible refine Lp.ret ?_ | with_reducible refine Lp.exit ?_ | with_reducible refine Lx.exit ?_)
    exact Fe.r1 rfl ⟨rfl, rfl⟩
  obtain ⟨w, Hw, c', rfl, rfl⟩ := key
  exact c'
theorem LU.w {n0 rb sb : Nat} {X : List Nat} {H : Heap} {av : AV} {us : List B} (h : LU n0 rb sb X H av us) : WU H.length H av us := by
  obtain ⟨i, h1, _, _, _, _, h2⟩ := h
  obtain ⟨cs, h3, h4⟩ := h2
  exact .inr ⟨i, (List.getElem?_eq_some_iff.1 h3).1, h1, cs, h3, h4⟩
theorem again_hb {H : Heap} {rb0 : Nat} {data : AV} {bs : B} {k : Int} (hk : 0 ≤ k ∧ k ≤ 2) (G : Globs H rb0) (hb : DatAt H data bs) (hl : bs.length ≤ 10000) :
    (decW bs = none → ∃ H', CA P NS 5 [.i .i64 k, data] H (.t [.s0, .b false], H')) ∧
    ∀ v s, decW bs = some (v, s) → s.w ≤ 6000 → ∃ out H', CA P NS 5 [.i .i64 k, data] H (.t [out, .b true], H') ∧ OutAt H.length H' out (encW v s) ∧ H.length ≤ H'.length ∧ ∀ (i : Nat) (b : Blk), i < H.length → H[i]? = some b → H'[i]? = some b := by
  have c1 := new_x H
  have hv1 : (H ++ [Blk.cells 43 .vr (dHB 0)])[H.length]? = some (.cells 43 .vr (dHB 0)) := List.getElem?_concat_length ..
  have c2 := setV_x (v := k) hv1
  have e2 : (H ++ [Blk.cells 43 .vr (dHB 0)]).set H.length (.cells 43 .vr [.i .i16 k, .i .i32 0, .i .i64 (-1), .i .i64 0, .b false, .b false, .s0, .s0, .m0]) = H ++ [.cells 43 .vr (dHB k)] := by
    rw [List.set_append_right _ _ (Nat.le_refl _)]; simp [dHB]
  rw [e2] at c2
  have hcv : convA P 3 29 (.i .i64 k) = some (.i .i16 k) := by
    have e : convA P 3 29 (.i .i64 k) = some (.i .i16 (IntKind.i16.wrap k)) := by kernel_rfl
    rw [e]; simp [IntKind.wrap, IntKind.signed, IntKind.bits]; omega
  have hv2 : (H ++ [Blk.cells 43 .vr (dHB k)])[H.length]? = some (.cells 43 .vr (dHB k)) := List.getElem?_concat_length ..
  have hl2 : (H ++ [Blk.cells 43 .vr (dHB k)]).length = H.length + 1 := by simp
  have kp2 : Kp H (H ++ [Blk.cells 43 .vr (dHB k)]) := Kp.app _ _
  have hb2 := hb.app [.cells 43 .vr (dHB k)]
  generalize (H ++ [Blk.cells 43 .vr (dHB 0)]) = H1 at c1 c2
  generalize (H ++ [Blk.cells 43 .vr (dHB k)]) = H2 at *
  obtain ⟨src, H3, ha, ho, hkp⟩ := ap_bytes (str := false) (L0 := H2.length) (H := H2) (out := .s0) (bs := []) (Nat.le_refl _) (.inl ⟨rfl, rfl⟩) hb2.first (by simp; omega)
  rw [List.nil_append] at ho
  have hnoS := hb2.noS
  have k03 : Kp H H3 := ⟨by have := kp2.1; have := hkp.len; omega, fun i hi => by rw [hkp.at_ i (by omega), kp2.2 i hi]⟩
  have hv3 : H3[H.length]? = some (.cells 43 .vr (dHB k)) := by rw [hkp.at_ _ (by omega)]; exact hv2
  have hsrc : BytesAt (fun i => i ≠ H.length) H3 src bs := BytesAt.sub (fun i hi => by have hi : H2.length ≤ i := hi; omega) ho.bytes
  obtain ⟨tb, hbe⟩ := G.be
  obtain ⟨te, her⟩ := G.err
  have hbl := (List.getElem?_eq_some_iff.1 hbe).1
  have hel := (List.getElem?_eq_some_iff.1 her).1
  obtain ⟨r, H4, c3, hr⟩ := readFrom_x hk.1 hv3 hsrc (by omega) ⟨by omega, tb, k03.at_ hbe⟩ ⟨by omega, te, k03.at_ her⟩
  have c3f := readf_x c3
  rcases hr with ⟨rfl, hd⟩ | ⟨v, s, rfl, hd, hfin⟩
  · refine ⟨fun _ => ?_, fun v s h => by rw [hd] at h; cases h⟩
    have hne := neqE
    have key : ∃ w Hw, CA P NS 5 [.i .i64 k, data] H (w, Hw) ∧ w = .t [.s0, .b false] := by
      refine CA.wp (fn := Tryd.f5) (R := fun w _ => w = .t [.s0, .b false]) (by kernel_rfl) rfl ?_
      dsimp only [Tryd.f5]
      dsimp only [List.length_cons, List.length_nil, List.cons_append, List.nil_append, Nat.reduceSub, Nat.reduceAdd, List.replicate]
      ((repeat with_reducible refine WP.seqs ?_); refine WP.rg ?_)
      ((repeat with_reducible refine WP.seqs ?_); refine WP.rg ?_)
      ((repeat with_reducible refine WP.seqs ?_); refine WP.rg ?_)
      ((repeat with_reducible refine WP.seqs ?_); refine WP.rg ?_)
      ((repeat with_reducible refine WP.seqs ?_); first | refine WP.seq (WP.condT rfl ?_) | refine WP.condT rfl ?_)
      ((repeat with_reducible refine WP.seqs ?_); refine WP.rg ?_)
      refine WP.ret ?_; repeat (first | with_reducible refine Sq.n ?_ | with_reducible refine Sq.ret ?_ | with_reducible refine Sq.exit ?_ | with_reducible refine Bk.n ?_ | with_reducible refine Bk.ret ?_ | with_reducible refine Bk.exit ?_ | with_reducible refine Bk.ex' (by decide) ?_ | with_reducible refine Lp.ret ?_ | with_reducible refine Lp.exit ?_ | with_reducible refine Lx.exit ?_)
      exact Fe.ret (vs := [_, _]) rfl rfl
    obtain ⟨w, Hw, c, rfl⟩ := key
    exact ⟨Hw, c⟩
  · refine ⟨fun h => (by rw [hd] at h; cases h), fun v' s' h hw => ?_⟩
    rw [hd] at h; cases h
    obtain ⟨hso, hok, hsw, _, _⟩ := decW_again hd (by omega)
    obtain ⟨X, x1, x2, x3, x4, x5, v1, v2, v3, v4, v5, o, kk, m, st, rfl, r1, r2, r3, r4, r5, hs⟩ := hfin
    have hwk : (s.k = none ∧ kk = .s0) ∨ ∃ us, s.k = some us ∧ WU H4.length H4 kk us ∧ (kk = .sn ∨ ∃ i n, kk = .sl i 0 n) := by
      have hku := hs.ku
      cases hsk : s.k with
      | none => rw [hsk] at hku; exact .inl ⟨rfl, hku⟩
      | some us =>
        rw [hsk] at hku
        rcases hku with ⟨h1, h2⟩ | h
        · exact .inr ⟨us, rfl, .inl ⟨.inr h1, h2⟩, .inl h1⟩
        · refine .inr ⟨us, rfl, LU.w h, .inr ?_⟩
          obtain ⟨i, h1, _⟩ := h
          exact ⟨i, _, h1⟩
    have hwo : WU H4.length H4 o s.o := by
      rcases hs.ou with ⟨h1, h2⟩ | h
      · exact .inl ⟨.inl h1, h2⟩
      · exact LU.w h
    have hm : TagRep (fun i => i < H4.length) H4 (.t s.ts) (.g [m]) := by
      obtain ⟨h1, es, h2, h3⟩ := hs.mu
      have kt : KT (NX X) H4 (fun i => i < H4.length) H4 := ⟨Nat.le_refl _, fun i b _ x => ⟨(List.getElem?_eq_some_iff.1 x).1, x⟩⟩
      rcases h3 with ⟨rfl, rfl⟩ | ⟨i, rfl, _, _, _, _, h4⟩
      · refine ⟨s.ts, rfl, h1, .inl ⟨?_, rfl⟩⟩
        obtain ⟨es', p1, p2, _⟩ := h2
        have q1 := p1.length_eq
        have q2 := congrArg List.length p2
        rw [List.length_map, List.length_map, q1] at q2
        exact List.eq_nil_of_length_eq_zero q2.symm
      · exact ⟨s.ts, rfl, h1, .inr ⟨i, es, rfl, (List.getElem?_eq_some_iff.1 h4).1, h4, h2.kt' kt⟩⟩
    obtain ⟨out, H5, c5, ho5, k45⟩ := appendTo_x hk.1 hs.blk r1 r2 r3 r4 r5 hok hso hw hwo hwk hm
    have hne := neqN
    have key : ∃ w Hw, CA P NS 5 [.i .i64 k, data] H (w, Hw) ∧ (w = .t [out, .b true] ∧ Hw = H5) := by
      refine CA.wp (fn := Tryd.f5) (R := fun w Hw => w = .t [out, .b true] ∧ Hw = H5) (by kernel_rfl) rfl ?_
      dsimp only [Tryd.f5]
      dsimp only [List.length_cons, List.length_nil, List.cons_append, List.nil_append, Nat.reduceSub, Nat.reduceAdd, List.replicate]
      ((repeat with_reducible refine WP.seqs ?_); refine WP.rg ?_)
      ((repeat with_reducible refine WP.seqs ?_); refine WP.rg ?_)
      ((repeat with_reducible refine WP.seqs ?_); refine WP.rg ?_)
      ((repeat with_reducible refine WP.seqs ?_); refine WP.rg ?_)
      ((repeat with_reducible refine WP.seqs ?_); first | refine WP.seq (WP.condF rfl ?_) | refine WP.condF rfl ?_)
      refine WP.skip ?_; repeat (first | with_reducible refine Sq.n ?_ | with_reducible refine Sq.ret ?_ | with_reducible refine Sq.exit ?_ | with_reducible refine Bk.n ?_ | with_reducible refine Bk.ret ?_ | with_reducible refine Bk.exit ?_ | with_reducible refine Bk.ex' (by decide) ?_ | with_reducible refine Lp.ret ?_ | with_reducible refine Lp.exit ?_ | with_reducible refine Lx.exit ?_)
      ((repeat with_reducible refine WP.seqs ?_); refine WP.rg ?_)
      refine WP.ret ?_; repeat (first | with_reducible refine Sq.n ?_ | with_reducible refine Sq.ret ?_ | with_reducible refine Sq.exit ?_ | with_reducible refine Bk.n ?_ | with_reducible refine Bk.ret ?_ | with_reducible refine Bk.exit ?_ | with_reducible refine Bk.ex' (by decide) ?_ | with_reducible refine Lp.ret ?_ | with_reducible refine Lp.exit ?_ | with_reducible refine Lx.exit ?_)
      exact Fe.ret (vs := [_, _]) rfl ⟨rfl, rfl⟩
    obtain ⟨w, Hw, c, rfl, rfl⟩ := key
    have h34 := hs.len
    have h03 := k03.1
    refine ⟨out, Hw, c, ho5.mono (by omega), by have := k45.1; omega, fun i b hi x => ?_⟩
    have hx3 := k03.at_ x
    have h3l := (List.getElem?_eq_some_iff.1 hx3).1
    have : H4[i]? = H3[i]? := hs.keep i h3l (by omega) (by omega)
    exact k45.at_ (by rw [this]; exact hx3)
end Go.Proofs.YtiifcfngbbhgoagDoor.Rd

