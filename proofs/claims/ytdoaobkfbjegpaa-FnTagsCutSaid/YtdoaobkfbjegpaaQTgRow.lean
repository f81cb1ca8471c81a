/-
  ROWS OF TAGS put behind one another; the tags as the reference has them; do they fit.
-/
import Derived.Test.YtdoaobkfbjegpaaQRdTgr
set_option linter.constructorNameAsVariable false
set_option linter.unusedVariables false
set_option linter.unusedSimpArgs false
namespace Go.Proofs.Ytdoaobkfbjegpaa.Rd
open Go Go.Proofs.Ytdoaobkfbjegpaa.Ax Go.Proofs.Ytdoaobkfbjegpaa.Wire
set_option maxRecDepth 100000
set_option maxHeartbeats 2000000
def DstG (L0 : Nat) (H : Heap) (d : AV) (ts : List Tg) : Prop := AllOne ts ∧ (((d = .s0 ∨ d = .sn) ∧ ts = []) ∨ ∃ i, L0 ≤ i ∧ d = .sl i 0 ts.length ∧ H[i]? = some (.cells 42 .row (tgc ts)) ∧ 0 < ts.length)
theorem OutG.dst {L0 : Nat} {H : Heap} {d : AV} {ts : List Tg} (h : OutG L0 H d ts) : DstG L0 H d ts := by
  refine ⟨h.1, ?_⟩
  rcases h.2 with ⟨rfl, rfl⟩ | h
  · exact .inl ⟨.inl rfl, rfl⟩
  · exact .inr h
theorem DstG.kp {L0 : Nat} {H H' : Heap} {out : AV} {ts : List Tg} (h : DstG L0 H out ts) (k : Kp H H') : DstG L0 H' out ts := by
  refine ⟨h.1, ?_⟩
  rcases h.2 with h | ⟨i, h1, h2, h3, h4⟩
  · exact .inl h
  · exact .inr ⟨i, h1, h2, k.at_ h3, h4⟩
theorem DstG.out {L0 : Nat} {H : Heap} {d : AV} {ts : List Tg} (h : DstG L0 H d ts) (h0 : ts ≠ []) : OutG L0 H d ts := by
  refine ⟨h.1, ?_⟩
  rcases h.2 with ⟨_, h⟩ | h
  · exact absurd h h0
  · exact .inr h
def SrcG (H : Heap) (av : AV) (us : List Tg) : Prop := firstA H 2 av = some (us.length, tgc us) ∧ av.isS = false ∧ AllOne us
theorem appG {L0 : Nat} {H : Heap} {d src : AV} {ts us : List Tg} (hL : L0 ≤ H.length) (hd : DstG L0 H d ts) (hs : SrcG H src us) (hn : ts.length + us.length ≤ 1000000) :
    ∃ out' H', appendA P H 25 false d src = some (out', H') ∧ DstG L0 H' out' (ts ++ us) ∧ WKeep L0 H H' ∧ (∀ (b : Nat) (ty : TypeId) (cs : List AV), H[b]? = some (.cells ty .vr cs) → H'[b]? = some (.cells ty .vr cs)) ∧ (∀ j b, (∀ o n, d ≠ .sl j o n) → H[j]? = some b → H'[j]? = some b) := by
  obtain ⟨s1, s2, s3⟩ := hs
  have hone : AllOne (ts ++ us) := fun x hx => by
    rcases List.mem_append.1 hx with hx | hx
    · exact hd.1 x hx
    · exact s3 x hx
  have hz : (AV.g [.i .u32 0, .s0]).cells.length = 2 ∧ (AV.g [.i .u32 0, .s0]).cells.all AV.one = true := ⟨rfl, rfl⟩
  have hu1 := tgc_one s3
  rcases hd.2 with ⟨hd0, rfl⟩ | ⟨i, hi, rfl, h3, h4⟩
  · have hnew : ∀ j b, H[j]? = some b → (H ++ [Blk.cells 42 .row (tgc us)])[j]? = some b := fun j b hj => by
      rw [List.getElem?_append_left (List.getElem?_eq_some_iff.1 hj).1]; exact hj
    by_cases hu : us.length = 0
    · obtain rfl : us = [] := List.eq_nil_of_length_eq_zero hu
      refine ⟨d, H, ?_, ⟨hone, .inl ⟨hd0, rfl⟩⟩, .refl _ _, fun _ _ _ h => h, fun _ _ _ h => h⟩
      unfold appendA
      simp only [elG, zG, bytesG, zeroG]
      rw [if_pos ⟨by omega, hz.1, hz.2, by simp⟩]
      simp only [s1]
      rcases hd0 with rfl | rfl <;> rfl
    · refine ⟨.sl H.length 0 us.length, H ++ [.cells 42 .row (tgc us)], ?_, ⟨hone, .inr ⟨H.length, hL, rfl, by rw [List.getElem?_concat_length]; rfl, by simpa using Nat.pos_of_ne_zero hu⟩⟩, ⟨fun k hk => by rw [List.getElem?_append_left (by omega)], by simp⟩, fun b ty cs hb => hnew _ _ hb, fun j b _ hb => hnew _ _ hb⟩
      unfold appendA
      simp only [elG, zG, bytesG, zeroG]
      rw [if_pos ⟨by omega, hz.1, hz.2, by simp⟩]
      simp only [s1]
      rcases hd0 with rfl | rfl <;> (simp only; rw [if_neg hu, if_pos ⟨by simp at hn; omega, by simp at hn; omega⟩]; simp only [newBlk, hu1, if_true, Option.map_some])
  · have hil := (List.getElem?_eq_some_iff.1 h3).1
    have ht : (tgc ts).take (ts.length * 2) = tgc ts := by rw [← tgc_len, List.take_length]
    have hall : (tgc ts ++ tgc us).all AV.one = true := by rw [List.all_append, tgc_one hd.1, hu1]; rfl
    have hkeep : ∀ j b, j ≠ i → H[j]? = some b → (H.set i .dead ++ [Blk.cells 42 .row (tgc ts ++ tgc us)])[j]? = some b := fun j b hne hj => by
      have hjl := (List.getElem?_eq_some_iff.1 hj).1
      rw [List.getElem?_append_left (by simpa using hjl), List.getElem?_set_ne (fun e => hne e.symm)]; exact hj
    refine ⟨.sl H.length 0 (ts.length + us.length), (H.set i .dead) ++ [.cells 42 .row (tgc ts ++ tgc us)], ?_, ⟨hone, .inr ⟨H.length, hL, by simp, ?_, by simp; omega⟩⟩, ⟨fun k hk => ?_, by simp⟩, fun b ty cs hb => hkeep _ _ (fun e => by subst e; rw [h3] at hb; cases hb) hb, fun j b hne hb => hkeep _ _ (fun e => hne 0 ts.length (by rw [e])) hb⟩
    · unfold appendA
      simp only [elG, zG, bytesG, zeroG]
      rw [if_pos ⟨by omega, hz.1, hz.2, by simp⟩]
      simp only [s1, h3]
      rw [if_pos (by refine ⟨?_, ?_, ?_, ?_⟩ <;> first | trivial | rfl | omega | (rw [tgc_len]; omega)), ht]
      simp only [newBlk, hall, if_true, Option.map_some, List.length_set]
    · rw [tgc_app]
      have : (H.set i .dead).length = H.length := by simp
      rw [← this, List.getElem?_concat_length]
    · rw [List.getElem?_append_left (by simp; omega), List.getElem?_set_ne (by omega)]
theorem oneG {H : Heap} {k : Nat} {w : AV} {bs : B} (hw : w.one = true) : ∃ sl, buildSliceA P H 25 1 [(0, .g [.i .u32 (k : Nat), w])] = some (sl, H ++ [.cells 42 .row [.i .u32 (k : Nat), w]]) ∧ SrcG (H ++ [.cells 42 .row [.i .u32 (k : Nat), w]]) sl [(k, w, bs)] := by
  have hone : ([AV.i .u32 (k : Nat), w]).all AV.one = true := by have : (AV.i .u32 (k : Nat)).one = true := rfl; simp [hw, this]
  refine ⟨.sl H.length 0 1, ?_, ?_, rfl, fun x hx => by simp at hx; subst hx; exact hw⟩
  · unfold buildSliceA
    simp only [elG, zG, zeroG]
    rw [if_neg (by omega), if_pos ⟨by omega, rfl, rfl, by omega, by omega⟩]
    have hf : fillA (fun i => some (i * 2, 2)) (zerosA (AV.g [.i .u32 0, .s0]).cells 1) [(0, .g [.i .u32 (k : Nat), w])] = some [.i .u32 (k : Nat), w] := by
      have hc : (AV.g [AV.i .u32 (k : Nat), w]).cells.all AV.one = true := hone
      simp only [fillA]
      rw [if_pos ⟨rfl, by simp [zerosA, AV.cells], hc⟩]
      simp [over, zerosA, AV.cells]
    rw [hf]
    simp only [newBlk, hone, if_true, Option.map_some]
  · simp only [firstA, List.getElem?_concat_length]
    rw [if_pos ⟨by simp, by simpa using hone⟩]
    rfl
theorem OutG.pre {L0 : Nat} {H : Heap} {out : AV} {ts : List Tg} (h : OutG L0 H out ts) {p : Nat} (hp : p ≤ ts.length) : ∃ av, sliceA P 25 out none (some (.i .i64 (p : Nat))) = some av ∧ SrcG H av (ts.take p) := by
  have hone : AllOne (ts.take p) := fun x hx => h.1 x (List.mem_of_mem_take hx)
  unfold sliceA
  simp only [elG, zG]
  rcases h.2 with ⟨rfl, rfl⟩ | ⟨i, h1, rfl, h3, h4⟩
  · obtain rfl : p = 0 := by simpa using hp
    exact ⟨.s0, by simp, by simp [firstA, tgc], rfl, hone⟩
  · refine ⟨.sl i 0 p, by simp; omega, ?_, rfl, hone⟩
    have ht : (tgc ts).take (p * 2) = tgc (ts.take p) := by
      conv => lhs; rw [show ts = ts.take p ++ ts.drop p by rw [List.take_append_drop], tgc_app]
      have : (tgc (ts.take p)).length = p * 2 := by rw [tgc_len, List.length_take, Nat.min_eq_left hp]
      rw [← this, List.take_left']; rfl
    simp only [firstA, h3, List.drop_zero, Nat.zero_add]
    rw [if_pos ⟨by rw [tgc_len]; omega, by rw [ht]; exact tgc_one hone⟩, ht, List.length_take, Nat.min_eq_left hp]
theorem OutG.post {L0 : Nat} {H : Heap} {out : AV} {ts : List Tg} (h : OutG L0 H out ts) {p : Nat} (hp : p ≤ ts.length) : ∃ av, sliceA P 25 out (some (.i .i64 (p : Nat))) none = some av ∧ SrcG H av (ts.drop p) := by
  have hone : AllOne (ts.drop p) := fun x hx => h.1 x (List.mem_of_mem_drop hx)
  unfold sliceA
  simp only [elG, zG]
  rcases h.2 with ⟨rfl, rfl⟩ | ⟨i, h1, rfl, h3, h4⟩
  · obtain rfl : p = 0 := by simpa using hp
    exact ⟨.s0, by simp, by simp [firstA, tgc], rfl, hone⟩
  · have ht : (tgc ts).drop (p * 2) = tgc (ts.drop p) := by
      conv => lhs; rw [show ts = ts.take p ++ ts.drop p by rw [List.take_append_drop], tgc_app]
      have : (tgc (ts.take p)).length = p * 2 := by rw [tgc_len, List.length_take, Nat.min_eq_left hp]
      rw [← this, List.drop_left']; rfl
    by_cases h0 : p = 0
    · subst h0
      refine ⟨.sl i 0 ts.length, by simp, ?_, rfl, hone⟩
      have ht0 : (tgc ts).take (ts.length * 2) = tgc ts := by rw [← tgc_len, List.take_length]
      simp only [firstA, h3, List.drop_zero, Nat.zero_add]
      rw [if_pos ⟨by rw [tgc_len]; omega, by rw [ht0]; exact tgc_one h.1⟩, ht0]
    · by_cases hpn : p = ts.length
      · subst hpn
        refine ⟨.se, by simp only; rw [if_pos ⟨by omega, by omega, by omega⟩, if_neg (by omega)]; simp, ?_, rfl, hone⟩
        simp [firstA, tgc]
      · refine ⟨.sl i (p * 2) (ts.length - p), by simp only; rw [if_pos ⟨by omega, by omega, by omega⟩, if_neg (by omega), if_neg (by omega)]; simp, ?_, rfl, hone⟩
        have ht2 : ((tgc ts).drop (p * 2)).take ((ts.length - p) * 2) = tgc (ts.drop p) := by
          rw [ht]
          have : (tgc (ts.drop p)).length = (ts.length - p) * 2 := by rw [tgc_len, List.length_drop]
          rw [← this, List.take_length]
        simp only [firstA, h3]
        rw [if_pos ⟨by rw [tgc_len]; omega, by rw [ht2]; exact tgc_one hone⟩, ht2, List.length_drop]
end Go.Proofs.Ytdoaobkfbjegpaa.Rd

namespace Go.Proofs.Ytdoaobkfbjegpaa.Rd
open Go Go.Proofs.Ytdoaobkfbjegpaa.Ax Go.Proofs.Ytdoaobkfbjegpaa.Wire
set_option maxRecDepth 100000
set_option maxHeartbeats 2000000
theorem leqK (t : TypeId) (c : Bool) (a b : Int) : binA P .leq t c (.i .i64 a) (.i .i64 b) = some (.b (decide (a ≤ b))) := leq t .i64 c a b
theorem ex19 (fr : List AV) (h : fr.length = 19) : ∃ g : Nat → AV, fr = [g 0, g 1, g 2, g 3, g 4, g 5, g 6, g 7, g 8, g 9, g 10, g 11, g 12, g 13, g 14, g 15, g 16, g 17, g 18] := by
  obtain ⟨g, rfl⟩ := exM 19 fr h
  exact ⟨g, rfl⟩
theorem ex22 (fr : List AV) (h : fr.length = 22) : ∃ g : Nat → AV, fr = [g 0, g 1, g 2, g 3, g 4, g 5, g 6, g 7, g 8, g 9, g 10, g 11, g 12, g 13, g 14, g 15, g 16, g 17, g 18, g 19, g 20, g 21] := by
  obtain ⟨g, rfl⟩ := exM 22 fr h
  exact ⟨g, rfl⟩
theorem ex31 (fr : List AV) (h : fr.length = 31) : ∃ g : Nat → AV, fr = [g 0, g 1, g 2, g 3, g 4, g 5, g 6, g 7, g 8, g 9, g 10, g 11, g 12, g 13, g 14, g 15, g 16, g 17, g 18, g 19, g 20, g 21, g 22, g 23, g 24, g 25, g 26, g 27, g 28, g 29, g 30] := by
  obtain ⟨g, rfl⟩ := exM 31 fr h
  exact ⟨g, rfl⟩
theorem ex64 (fr : List AV) (h : fr.length = 64) : ∃ g : Nat → AV, fr = [g 0, g 1, g 2, g 3, g 4, g 5, g 6, g 7, g 8, g 9, g 10, g 11, g 12, g 13, g 14, g 15, g 16, g 17, g 18, g 19, g 20, g 21, g 22, g 23, g 24, g 25, g 26, g 27, g 28, g 29, g 30, g 31, g 32, g 33, g 34, g 35, g 36, g 37, g 38, g 39, g 40, g 41, g 42, g 43, g 44, g 45, g 46, g 47, g 48, g 49, g 50, g 51, g 52, g 53, g 54, g 55, g 56, g 57, g 58, g 59, g 60, g 61, g 62, g 63] := by
  obtain ⟨g, rfl⟩ := exM 64 fr h
  exact ⟨g, rfl⟩
def Fits (us : List (Nat × B)) : Prop := us.length ≤ 50 ∧ ∀ t ∈ us, t.2.length ≤ 2000
theorem tagsFit_x {H : Heap} {u : AV} {us : List (Nat × B)} (hu : TgAt H u us) (hbig : us.length ≤ 2147483647) : ∃ b H', CA P NS 5 [u] H (.b b, H') ∧ (b = true → Fits us) ∧ Kp H H' := by
  have key : ∃ v H', CA P NS 5 [u] H (v, H') ∧ ((∃ b, v = .b b ∧ (b = true → Fits us)) ∧ Kp H H') := by
    refine CA.wp (fn := Try.f5) (R := fun v H' => (∃ b, v = .b b ∧ (b = true → Fits us)) ∧ Kp H H') (by kernel_rfl) rfl ?_
    have hl := hu.1.len (t := 22) (by rw [elI]; rfl)
    generalize hni : ((us.length : Nat) : Int) = n at hl
    dsimp only [Try.f5]
    dsimp only [List.length_cons, List.length_nil, List.cons_append, List.nil_append, Nat.reduceSub, Nat.reduceAdd, List.replicate]
    ((repeat with_reducible refine WP.seqs ?_); refine WP.rg ?_)
    ((repeat with_reducible refine WP.seqs ?_); refine WP.rg ?_)
    ((repeat with_reducible refine WP.seqs ?_); first | refine WP.seq (WP.block ?_) | refine WP.block ?_)
    refine WP.loop (Inv := fun j fr H1 => (fr.length = 19 ∧ fr[0]? = some (u) ∧ fr[5]? = some (u) ∧ fr[6]? = some (.i .i64 n) ∧ fr[7]? = some (.i .i64 (j : Nat))) ∧ (∀ t ∈ us.take j, t.2.length ≤ 2000) ∧ Kp H H1) us.length ?_ us.length 0 _ _ (by omega) ?_
    rotate_left
    · exact ⟨⟨rfl, rfl, rfl, rfl, rfl⟩, by simp, Kp.refl _⟩
    intro j fr H1 hj ⟨⟨hfl, hf0, hf5, hf6, hf7⟩, hle, hk⟩
    obtain ⟨g, rfl⟩ := ex19 _ hfl; replace hf0 : g 0 = _ := Option.some.inj hf0; replace hf5 : g 5 = _ := Option.some.inj hf5; replace hf6 : g 6 = _ := Option.some.inj hf6; replace hf7 : g 7 = _ := Option.some.inj hf7; rw [hf0, hf5, hf6, hf7]; clear hfl hf0 hf5 hf6 hf7
    have hlt := lssI 3 false (j : Nat) (us.length : Nat)
    rw [hni] at hlt
    by_cases hjl : j < us.length
    · replace hlt : binA P .lss 3 false (.i .i64 (j : Nat)) (.i .i64 n) = some (.b true) := by rw [hlt]; simp; omega
      obtain ⟨kx, bx, hxj⟩ : ∃ kx bx, us[j]? = some (kx, bx) := ⟨us[j].1, us[j].2, by simp [hjl]⟩
      obtain ⟨w, hxe, hxb⟩ := hu.2 j kx bx hxj
      obtain ⟨p, c, hix, hld, hel, _⟩ := (hu.1.kp hk).idxk elI zI aI hjl
      have hc : c = [.i .u32 (kx : Nat), w] := by
        rw [hu.1.el hk hjl, hxe] at hel; cases hel; rfl
      subst hc
      have hld1 := hld H1 (Kp.refl _)
      have hwone := (BytesAt.one' hxb).2
      obtain ⟨b3, H2, H3, hal, hst, k3, v3, _, _, _, _⟩ := alloc_new (H := H1) (cs := [.i .u32 (kx : Nat), w]) zeroI rfl zI rfl rfl (by have : (AV.i .u32 (kx : Nat)).one = true := rfl; simp [this, hwone])
      have x1 := xI1 b3
      have hlw : loadA P H3 28 (.p b3 1) = some w := ldk v3 a_bs rfl
      have hlb := hxb.len bty
      have e2 := gtrJ 3 true (bx.length : Nat) 2000
      have k03 := hk.trans k3
      have hadd := addJ 3 true (j : Nat) 1 (by omega)
      rw [show ((j : Nat) : Int) + 1 = ((j + 1 : Nat) : Int) by omega] at hadd
      generalize hj1 : ((j + 1 : Nat) : Int) = j1 at hadd
      generalize hjj : ((j : Nat) : Int) = jj at hlt hix hadd
      generalize ((kx : Nat) : Int) = kk at hld1 hst v3
      by_cases hbl : bx.length ≤ 2000
      · replace e2 : binA P .gtr 3 true (.i .i64 (bx.length : Nat)) (.i .i64 2000) = some (.b false) := by rw [e2]; simp; omega
        generalize ((bx.length : Nat) : Int) = bl at hlb e2
        ((repeat with_reducible refine WP.seqs ?_); refine WP.rg ?_)
        ((repeat with_reducible refine WP.seqs ?_); first | refine WP.seq (WP.condT rfl ?_) | refine WP.condT rfl ?_)
        refine WP.skip ?_; repeat (first | with_reducible refine Sq.n ?_ | with_reducible refine Sq.ret ?_ | with_reducible refine Sq.exit ?_ | with_reducible refine Bk.n ?_ | with_reducible refine Bk.ret ?_ | with_reducible refine Bk.exit ?_ | with_reducible refine Bk.ex' (by decide) ?_ | with_reducible refine Lp.ret ?_ | with_reducible refine Lp.exit ?_ | with_reducible refine Lx.exit ?_)
        ((repeat with_reducible refine WP.seqs ?_); first | refine WP.seq (WP.block ?_) | refine WP.block ?_)
        ((repeat with_reducible refine WP.seqs ?_); refine WP.rg ?_)
        ((repeat with_reducible refine WP.seqs ?_); refine WP.rg ?_)
        ((repeat with_reducible refine WP.seqs ?_); first | refine WP.seq (WP.condF rfl ?_) | refine WP.condF rfl ?_)
        refine WP.skip ?_; repeat (first | with_reducible refine Sq.n ?_ | with_reducible refine Sq.ret ?_ | with_reducible refine Sq.exit ?_ | with_reducible refine Bk.n ?_ | with_reducible refine Bk.ret ?_ | with_reducible refine Bk.exit ?_ | with_reducible refine Bk.ex' (by decide) ?_ | with_reducible refine Lp.ret ?_ | with_reducible refine Lp.exit ?_ | with_reducible refine Lx.exit ?_)
        refine WP.re ?_; repeat (first | with_reducible refine Sq.n ?_ | with_reducible refine Sq.ret ?_ | with_reducible refine Sq.exit ?_ | with_reducible refine Bk.n ?_ | with_reducible refine Bk.ret ?_ | with_reducible refine Bk.exit ?_ | with_reducible refine Bk.ex' (by decide) ?_ | with_reducible refine Lp.ret ?_ | with_reducible refine Lp.exit ?_ | with_reducible refine Lx.exit ?_)
        refine Lp.n ⟨by omega, ⟨rfl, rfl, rfl, rfl, rfl⟩, fun t ht => ?_, k03⟩
        rw [List.take_add_one, hxj] at ht
        rcases List.mem_append.1 ht with ht | ht
        · exact hle t ht
        · simp at ht; subst ht; exact hbl
      · replace e2 : binA P .gtr 3 true (.i .i64 (bx.length : Nat)) (.i .i64 2000) = some (.b true) := by rw [e2]; simp; omega
        generalize ((bx.length : Nat) : Int) = bl at hlb e2
        ((repeat with_reducible refine WP.seqs ?_); refine WP.rg ?_)
        ((repeat with_reducible refine WP.seqs ?_); first | refine WP.seq (WP.condT rfl ?_) | refine WP.condT rfl ?_)
        refine WP.skip ?_; repeat (first | with_reducible refine Sq.n ?_ | with_reducible refine Sq.ret ?_ | with_reducible refine Sq.exit ?_ | with_reducible refine Bk.n ?_ | with_reducible refine Bk.ret ?_ | with_reducible refine Bk.exit ?_ | with_reducible refine Bk.ex' (by decide) ?_ | with_reducible refine Lp.ret ?_ | with_reducible refine Lp.exit ?_ | with_reducible refine Lx.exit ?_)
        ((repeat with_reducible refine WP.seqs ?_); first | refine WP.seq (WP.block ?_) | refine WP.block ?_)
        ((repeat with_reducible refine WP.seqs ?_); refine WP.rg ?_)
        ((repeat with_reducible refine WP.seqs ?_); refine WP.rg ?_)
        ((repeat with_reducible refine WP.seqs ?_); first | refine WP.seq (WP.condT rfl ?_) | refine WP.condT rfl ?_)
        ((repeat with_reducible refine WP.seqs ?_); refine WP.rg ?_)
        refine WP.ret ?_; repeat (first | with_reducible refine Sq.n ?_ | with_reducible refine Sq.ret ?_ | with_reducible refine Sq.exit ?_ | with_reducible refine Bk.n ?_ | with_reducible refine Bk.ret ?_ | with_reducible refine Bk.exit ?_ | with_reducible refine Bk.ex' (by decide) ?_ | with_reducible refine Lp.ret ?_ | with_reducible refine Lp.exit ?_ | with_reducible refine Lx.exit ?_)
        exact Fe.r1 rfl ⟨⟨_, rfl, fun h => by cases h⟩, k03⟩
    · replace hlt : binA P .lss 3 false (.i .i64 (j : Nat)) (.i .i64 n) = some (.b false) := by rw [hlt]; simp; omega
      have e3 := leqK 3 true n 50
      have hfin : decide (n ≤ 50) = true → Fits us := fun h => by
        have h := of_decide_eq_true h
        refine ⟨by omega, fun t ht => hle t (by rw [List.take_of_length_le (by omega)]; exact ht)⟩
      generalize decide (n ≤ 50) = fb at e3 hfin
      generalize ((j : Nat) : Int) = jj at hlt
      ((repeat with_reducible refine WP.seqs ?_); refine WP.rg ?_)
      ((repeat with_reducible refine WP.seqs ?_); first | refine WP.seq (WP.condF rfl ?_) | refine WP.condF rfl ?_)
      refine WP.exit ?_; repeat (first | with_reducible refine Sq.n ?_ | with_reducible refine Sq.ret ?_ | with_reducible refine Sq.exit ?_ | with_reducible refine Bk.n ?_ | with_reducible refine Bk.ret ?_ | with_reducible refine Bk.exit ?_ | with_reducible refine Bk.ex' (by decide) ?_ | with_reducible refine Lp.ret ?_ | with_reducible refine Lp.exit ?_ | with_reducible refine Lx.exit ?_)
      ((repeat with_reducible refine WP.seqs ?_); refine WP.rg ?_)
      refine WP.ret ?_; repeat (first | with_reducible refine Sq.n ?_ | with_reducible refine Sq.ret ?_ | with_reducible refine Sq.exit ?_ | with_reducible refine Bk.n ?_ | with_reducible refine Bk.ret ?_ | with_reducible refine Bk.exit ?_ | with_reducible refine Bk.ex' (by decide) ?_ | with_reducible refine Lp.ret ?_ | with_reducible refine Lp.exit ?_ | with_reducible refine Lx.exit ?_)
      exact Fe.r1 rfl ⟨⟨_, rfl, hfin⟩, hk⟩
  obtain ⟨v, H', c, ⟨b, rfl, h⟩, k⟩ := key
  exact ⟨b, H', c, h, k⟩
theorem DstG.tgAt {L0 : Nat} {H : Heap} {out : AV} {ts : List Tg} (h : OutG L0 H out ts) (hb : ∀ t ∈ ts, BytesAt (Lt H) H t.2.1 t.2.2) : TgAt H out (ts.map pr3) := by
  refine ⟨?_, fun i k bs hi => ?_⟩
  · rw [List.length_map]
    rcases h.2 with ⟨rfl, rfl⟩ | ⟨b, _, rfl, h3, h4⟩
    · exact .inl ⟨.inl rfl, rfl⟩
    · exact .inr ⟨b, 0, _, _, _, rfl, h4, h3, by rw [tgc_len]; omega⟩
  · rw [List.getElem?_map] at hi
    obtain ⟨t, ht, hpr⟩ := Option.map_eq_some_iff.1 hi
    simp only [pr3, Prod.mk.injEq] at hpr
    obtain ⟨rfl, rfl⟩ := hpr
    refine ⟨t.2.1, ?_, hb t (List.mem_of_getElem? ht)⟩
    rcases h.2 with ⟨rfl, rfl⟩ | ⟨b, _, rfl, h3, h4⟩
    · simp at ht
    · simp only [elAt, h3, Nat.zero_add]
      rw [tgc_el ts i t ht]
theorem buildT {k : Int} {w : AV} {bs : B} {A : Nat → Prop} {H : Heap} (h : BytesAt A H w bs) : buildA P 42 [(0, .i .u32 k), (1, w)] = some (.g [.i .u32 k, w]) := by
  cases h with
  | z => kernel_rfl
  | e => kernel_rfl
  | s hA h h0 h1 =>
    rename_i i o ty kn cs
    generalize bs.length = n
    kernel_rfl
theorem tagsOf_x {H : Heap} {u : AV} {us : List (Nat × B)} (hu : TgAt H u us) (hn : us.length ≤ 50) : ∃ v H', CA P NS 7 [u] H (v, H') ∧ TgAt H' v us ∧ Kp H H' := by
  refine CA.wp (fn := Try.f7) (R := fun v H' => TgAt H' v us ∧ Kp H H') (by kernel_rfl) rfl ?_
  have hl := hu.1.len (t := 22) (by rw [elI]; rfl)
  generalize hni : ((us.length : Nat) : Int) = n at hl
  dsimp only [Try.f7]
  dsimp only [List.length_cons, List.length_nil, List.cons_append, List.nil_append, Nat.reduceSub, Nat.reduceAdd, List.replicate]
  ((repeat with_reducible refine WP.seqs ?_); refine WP.rg ?_)
  ((repeat with_reducible refine WP.seqs ?_); refine WP.rg ?_)
  ((repeat with_reducible refine WP.seqs ?_); refine WP.rg ?_)
  ((repeat with_reducible refine WP.seqs ?_); first | refine WP.seq (WP.block ?_) | refine WP.block ?_)
  refine WP.loop (Inv := fun j fr H1 => ∃ (out : AV) (ts : List Tg), (fr.length = 22 ∧ fr[0]? = some (u) ∧ fr[3]? = some (out) ∧ fr[6]? = some (u) ∧ fr[7]? = some (.i .i64 n) ∧ fr[8]? = some (.i .i64 (j : Nat))) ∧ ts.map pr3 = us.take j ∧ ts.length = j ∧ (∀ t ∈ ts, BytesAt (Lt H) H t.2.1 t.2.2) ∧ OutG H.length H1 out ts ∧ Kp H H1) us.length ?_ us.length 0 _ _ (by omega) ?_
  rotate_left
  · exact ⟨.s0, [], ⟨rfl, rfl, rfl, rfl, rfl, rfl⟩, rfl, rfl, by simp, ⟨fun t h => (by cases h), .inl ⟨rfl, rfl⟩⟩, Kp.refl _⟩
  intro j fr H1 hj ⟨out, ts, ⟨hfl, hf0, hf3, hf6, hf7, hf8⟩, hts, htl, htb, ho, hk⟩
  obtain ⟨g, rfl⟩ := ex22 _ hfl; replace hf0 : g 0 = _ := Option.some.inj hf0; replace hf3 : g 3 = _ := Option.some.inj hf3; replace hf6 : g 6 = _ := Option.some.inj hf6; replace hf7 : g 7 = _ := Option.some.inj hf7; replace hf8 : g 8 = _ := Option.some.inj hf8; rw [hf0, hf3, hf6, hf7, hf8]; clear hfl hf0 hf3 hf6 hf7 hf8
  have hlt := lssI 3 false (j : Nat) (us.length : Nat)
  rw [hni] at hlt
  by_cases hjl : j < us.length
  rotate_left
  · replace hlt : binA P .lss 3 false (.i .i64 (j : Nat)) (.i .i64 n) = some (.b false) := by rw [hlt]; simp; omega
    generalize ((j : Nat) : Int) = jj at hlt
    ((repeat with_reducible refine WP.seqs ?_); refine WP.rg ?_)
    ((repeat with_reducible refine WP.seqs ?_); first | refine WP.seq (WP.condF rfl ?_) | refine WP.condF rfl ?_)
    refine WP.exit ?_; repeat (first | with_reducible refine Sq.n ?_ | with_reducible refine Sq.ret ?_ | with_reducible refine Sq.exit ?_ | with_reducible refine Bk.n ?_ | with_reducible refine Bk.ret ?_ | with_reducible refine Bk.exit ?_ | with_reducible refine Bk.ex' (by decide) ?_ | with_reducible refine Lp.ret ?_ | with_reducible refine Lp.exit ?_ | with_reducible refine Lx.exit ?_)
    ((repeat with_reducible refine WP.seqs ?_); refine WP.rg ?_)
    refine WP.ret ?_; repeat (first | with_reducible refine Sq.n ?_ | with_reducible refine Sq.ret ?_ | with_reducible refine Sq.exit ?_ | with_reducible refine Bk.n ?_ | with_reducible refine Bk.ret ?_ | with_reducible refine Bk.exit ?_ | with_reducible refine Bk.ex' (by decide) ?_ | with_reducible refine Lp.ret ?_ | with_reducible refine Lp.exit ?_ | with_reducible refine Lx.exit ?_)
    rw [List.take_of_length_le (by omega)] at hts
    refine Fe.r1 rfl ⟨?_, hk⟩
    rw [← hts]
    exact DstG.tgAt ho (fun t ht => hk.bytes (htb t ht))
  replace hlt : binA P .lss 3 false (.i .i64 (j : Nat)) (.i .i64 n) = some (.b true) := by rw [hlt]; simp; omega
  obtain ⟨kx, bx, hxj⟩ : ∃ kx bx, us[j]? = some (kx, bx) := ⟨us[j].1, us[j].2, by simp [hjl]⟩
  obtain ⟨w, hxe, hxb⟩ := hu.2 j kx bx hxj
  obtain ⟨p, c, hix, hld, hel, _⟩ := (hu.1.kp hk).idxk elI zI aI hjl
  have hc : c = [.i .u32 (kx : Nat), w] := by
    rw [hu.1.el hk hjl, hxe] at hel; cases hel; rfl
  subst hc
  have hld1 := hld H1 (Kp.refl _)
  have hwone := (BytesAt.one' hxb).2
  obtain ⟨b3, H2, H3, hal, hst, k3, v3, _, _, _, _⟩ := alloc_new (H := H1) (cs := [.i .u32 (kx : Nat), w]) zeroI rfl zI rfl rfl (by have : (AV.i .u32 (kx : Nat)).one = true := rfl; simp [this, hwone])
  have x0 := xI0 b3
  have x1 := xI1 b3
  have hlk : loadA P H3 37 (.p b3 0) = some (.i .u32 (kx : Nat)) := ldk v3 a_u32 rfl
  have hlw : loadA P H3 28 (.p b3 1) = some w := ldk v3 a_bs rfl
  have hbu := buildT (k := (kx : Nat)) hxb
  obtain ⟨sl, hbs, hsrc⟩ := oneG (H := H3) (k := kx) (bs := bx) hwone
  have hL3 : H.length ≤ H3.length := (hk.trans k3).1
  obtain ⟨out', H5, hap, hd5, w5, _, q5⟩ := appG (L0 := H.length) (by simp; omega) ((ho.kp k3).dst.kp (Kp.app _ _)) hsrc (by simp; omega)
  have ho5 := hd5.out (by simp)
  have hsS := hsrc.2.1
  have egs := elGs
  have k05 : Kp H H5 := ⟨by have := w5.len; simp at this; omega, fun i hi => by rw [w5.at_ i hi, List.getElem?_append_left (by omega)]; exact (hk.trans k3).2 i hi⟩
  have hadd := addJ 3 true (j : Nat) 1 (by omega)
  rw [show ((j : Nat) : Int) + 1 = ((j + 1 : Nat) : Int) by omega] at hadd
  generalize hj1 : ((j + 1 : Nat) : Int) = j1 at hadd
  generalize hjj : ((j : Nat) : Int) = jj at hlt hix hadd
  ((repeat with_reducible refine WP.seqs ?_); refine WP.rg ?_)
  ((repeat with_reducible refine WP.seqs ?_); first | refine WP.seq (WP.condT rfl ?_) | refine WP.condT rfl ?_)
  refine WP.skip ?_; repeat (first | with_reducible refine Sq.n ?_ | with_reducible refine Sq.ret ?_ | with_reducible refine Sq.exit ?_ | with_reducible refine Bk.n ?_ | with_reducible refine Bk.ret ?_ | with_reducible refine Bk.exit ?_ | with_reducible refine Bk.ex' (by decide) ?_ | with_reducible refine Lp.ret ?_ | with_reducible refine Lp.exit ?_ | with_reducible refine Lx.exit ?_)
  ((repeat with_reducible refine WP.seqs ?_); first | refine WP.seq (WP.block ?_) | refine WP.block ?_)
  ((repeat with_reducible refine WP.seqs ?_); refine WP.rg ?_)
  refine WP.re ?_; repeat (first | with_reducible refine Sq.n ?_ | with_reducible refine Sq.ret ?_ | with_reducible refine Sq.exit ?_ | with_reducible refine Bk.n ?_ | with_reducible refine Bk.ret ?_ | with_reducible refine Bk.exit ?_ | with_reducible refine Bk.ex' (by decide) ?_ | with_reducible refine Lp.ret ?_ | with_reducible refine Lp.exit ?_ | with_reducible refine Lx.exit ?_)
  refine WP.re ?_; repeat (first | with_reducible refine Sq.n ?_ | with_reducible refine Sq.ret ?_ | with_reducible refine Sq.exit ?_ | with_reducible refine Bk.n ?_ | with_reducible refine Bk.ret ?_ | with_reducible refine Bk.exit ?_ | with_reducible refine Bk.ex' (by decide) ?_ | with_reducible refine Lp.ret ?_ | with_reducible refine Lp.exit ?_ | with_reducible refine Lx.exit ?_)
  refine Lp.n ⟨by omega, out', ts ++ [(kx, w, bx)], ⟨rfl, rfl, rfl, rfl, rfl, rfl⟩, ?_, by simp [htl], fun t ht => ?_, ho5, k05⟩
  · rw [List.map_append, hts, List.take_add_one, hxj]; rfl
  · rcases List.mem_append.1 ht with ht | ht
    · exact htb t ht
    · simp at ht; subst ht; exact hxb
end Go.Proofs.Ytdoaobkfbjegpaa.Rd

