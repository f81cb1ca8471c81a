/-
  THE UNKNOWN TAGS, by rising numbers, as the reference puts them in order.
-/
import Derived.Test.YtiifcfngbbhgoaaGreatDoorQTrField
set_option linter.constructorNameAsVariable false
set_option linter.unusedVariables false
set_option linter.unusedSimpArgs false
namespace Go.Proofs.YtiifcfngbbhgoaaGreatDoor.Rd
open Go Go.Proofs.YtiifcfngbbhgoaaGreatDoor.Ax Go.Proofs.YtiifcfngbbhgoaaGreatDoor.Wire
set_option maxRecDepth 100000
set_option maxHeartbeats 2000000
theorem exM : ∀ (n : Nat) (fr : List AV), fr.length = n → ∃ g : Nat → AV, fr = (List.range n).map g := fun n fr h => ⟨fun i => fr.getD i .u, by
  apply List.ext_getElem
  · simp [h]
  · intro i h1 h2
    simp [List.getD_eq_getElem?_getD, h1]⟩
theorem ex85 (fr : List AV) (h : fr.length = 85) : ∃ g : Nat → AV, fr = [g 0, g 1, g 2, g 3, g 4, g 5, g 6, g 7, g 8, g 9, g 10, g 11, g 12, g 13, g 14, g 15, g 16, g 17, g 18, g 19, g 20, g 21, g 22, g 23, g 24, g 25, g 26, g 27, g 28, g 29, g 30, g 31, g 32, g 33, g 34, g 35, g 36, g 37, g 38, g 39, g 40, g 41, g 42, g 43, g 44, g 45, g 46, g 47, g 48, g 49, g 50, g 51, g 52, g 53, g 54, g 55, g 56, g 57, g 58, g 59, g 60, g 61, g 62, g 63, g 64, g 65, g 66, g 67, g 68, g 69, g 70, g 71, g 72, g 73, g 74, g 75, g 76, g 77, g 78, g 79, g 80, g 81, g 82, g 83, g 84] := by
  obtain ⟨g, rfl⟩ := exM 85 fr h
  exact ⟨g, rfl⟩
theorem shift_set {ts : List Tg} {k : Nat} (y z : Tg) (hk : k ≤ ts.length) : (ts.take k ++ [y] ++ ts.drop k).set k z = ts.take k ++ [z] ++ ts.drop k := by
  have hl : (ts.take k).length = k := by simp; omega
  rw [List.append_assoc, List.set_append_right _ _ (by omega), hl, Nat.sub_self]
  simp
theorem shift_at {ts : List Tg} {k : Nat} (y : Tg) (hk : k ≤ ts.length) (h0 : 0 < k) : (ts.take k ++ [y] ++ ts.drop k)[k - 1]? = some (ts[k - 1]'(by omega)) := by
  rw [List.append_assoc, List.getElem?_append_left (by simp; omega), List.getElem?_take, if_pos (by omega)]
  simp
theorem shift_down {ts : List Tg} {k : Nat} (hk : k ≤ ts.length) (h0 : 0 < k) : ts.take k ++ [ts[k - 1]'(by omega)] ++ ts.drop k = ts.take (k - 1) ++ [ts[k - 1]'(by omega)] ++ ts.drop (k - 1) := by
  obtain ⟨j, rfl⟩ : ∃ j, k = j + 1 := ⟨k - 1, by omega⟩
  have e1 : ts.take (j + 1) = ts.take j ++ [ts[j]'(by omega)] := by rw [List.take_add_one]; simp [show j < ts.length by omega]
  have e2 : ts.drop j = ts[j]'(by omega) :: ts.drop (j + 1) := List.drop_eq_getElem_cons (by omega)
  simp only [Nat.add_sub_cancel]
  rw [e1, e2]
  simp
theorem unknown_x {H : Heap} {av u : AV} {fd : Fdl} {us : List (Nat × B)} (hf : FdAt H av fd) (hp : fd.plain = true) (hn : fd.len ≤ 1000) (hu : TgAt H u us) :
    ∃ v H', CA P NS 26 [av, u] H (v, H') ∧ TgAt H' v (unkS us) ∧ Kp H H' := by
  obtain ⟨lv, H1, hkn, hlv, k1⟩ := known_x hf hp hn
  subst hlv
  have hlen1 := hu.1.len (t := 24) (by rw [elG]; rfl)
  have hmin := minA_nat us.length
  obtain ⟨l2, hsl, hl2, hel2⟩ := hu.1.hi elG zG (m := min us.length 32767) (by omega) (by omega)
  have hlen2 := hl2.len (t := 24) (by rw [elG]; rfl)
  have hL : ∃ L : List (Nat × B), L = us.take 32767 ∧ L.length = min us.length 32767 := ⟨_, rfl, by rw [List.length_take, Nat.min_comm]⟩
  obtain ⟨L, hLe, hLl⟩ := hL
  rw [← hLl] at hmin hsl hl2 hlen2
  have hLm : L.length ≤ 32767 := by omega
  have hLat : ∀ j k bs, L[j]? = some (k, bs) → ∃ w, elAt H 2 l2 j = some [.i .u32 (k : Nat), w] ∧ BytesAt (Lt H) H w bs := fun j k bs hj => by
    rw [hLe, List.getElem?_take] at hj
    split at hj
    · rw [hel2]; exact hu.2 j k bs hj
    · cases hj
  refine CA.wp (fn := Tryz.f26) (R := fun v H' => TgAt H' v (unkS us) ∧ Kp H H') (by kernel_rfl) rfl ?_
  have hunk : unkS us = L.foldl (fun a t => putF t.1 t.2 a) [] := by rw [hLe]; rfl
  rw [hunk]
  generalize hn1 : ((us.length : Nat) : Int) = n1 at hlen1 hmin
  generalize hn2 : ((L.length : Nat) : Int) = n2 at hmin hsl hlen2
  dsimp only [Tryz.f26]
  dsimp only [List.length_cons, List.length_nil, List.cons_append, List.nil_append, Nat.reduceSub, Nat.reduceAdd, List.replicate]
  ((repeat with_reducible refine WP.seqs ?_); refine WP.rg ?_)
  ((repeat with_reducible refine WP.seqs ?_); refine WP.rg ?_)
  ((repeat with_reducible refine WP.seqs ?_); refine WP.rg ?_)
  ((repeat with_reducible refine WP.seqs ?_); refine WP.rg ?_)
  ((repeat with_reducible refine WP.seqs ?_); first | refine WP.seq (WP.block ?_) | refine WP.block ?_)
  refine WP.loop (Inv := fun j fr H2 => ∃ (out : AV) (ts : List Tg), (fr.length = 85 ∧ fr[0]? = some (av) ∧ fr[1]? = some (u) ∧ fr[5]? = some (.i .u32 0) ∧ fr[6]? = some (out) ∧ fr[17]? = some (l2) ∧ fr[18]? = some (.i .i64 n2) ∧ fr[19]? = some (.i .i64 (j : Nat))) ∧ ts.map pr3 = (L.take j).foldl (fun a t => putF t.1 t.2 a) [] ∧ ts.length ≤ j ∧ (∀ t ∈ ts, BytesAt (Lt H) H t.2.1 t.2.2) ∧ OutG H1.length H2 out ts ∧ Kp H1 H2) L.length ?_ L.length 0 _ _ (by omega) ?_
  rotate_left
  · exact ⟨.s0, [], ⟨rfl, rfl, rfl, rfl, rfl, rfl, rfl, rfl⟩, rfl, by simp, by simp, ⟨fun t h => (by cases h), .inl ⟨rfl, rfl⟩⟩, Kp.refl _⟩
  intro j fr H2 hj ⟨out, ts, ⟨hfl, hf0, hf1, hf5, hf6, hf17, hf18, hf19⟩, hts, htl, htb, ho, hk⟩
  obtain ⟨g, rfl⟩ := ex85 _ hfl; replace hf0 : g 0 = _ := Option.some.inj hf0; replace hf1 : g 1 = _ := Option.some.inj hf1; replace hf5 : g 5 = _ := Option.some.inj hf5; replace hf6 : g 6 = _ := Option.some.inj hf6; replace hf17 : g 17 = _ := Option.some.inj hf17; replace hf18 : g 18 = _ := Option.some.inj hf18; replace hf19 : g 19 = _ := Option.some.inj hf19; rw [hf0, hf1, hf5, hf6, hf17, hf18, hf19]; clear hfl hf0 hf1 hf5 hf6 hf17 hf18 hf19
  have hlt := lssI 3 false (j : Nat) (L.length : Nat)
  rw [hn2] at hlt
  have k12 := k1.trans hk
  by_cases hjl : j < L.length
  rotate_left
  · replace hlt : binA P .lss 3 false (.i .i64 (j : Nat)) (.i .i64 n2) = some (.b false) := by rw [hlt]; simp; omega
    generalize ((j : Nat) : Int) = jj at hlt
    ((repeat with_reducible refine WP.seqs ?_); refine WP.rg ?_)
    ((repeat with_reducible refine WP.seqs ?_); first | refine WP.seq (WP.condF rfl ?_) | refine WP.condF rfl ?_)
    refine WP.exit ?_; repeat (first | with_reducible refine Sq.n ?_ | with_reducible refine Sq.ret ?_ | with_reducible refine Sq.exit ?_ | with_reducible refine Bk.n ?_ | with_reducible refine Bk.ret ?_ | with_reducible refine Bk.exit ?_ | with_reducible refine Bk.ex' (by decide) ?_ | with_reducible refine Lp.ret ?_ | with_reducible refine Lp.exit ?_ | with_reducible refine Lx.exit ?_)
    ((repeat with_reducible refine WP.seqs ?_); refine WP.rg ?_)
    refine WP.ret ?_; repeat (first | with_reducible refine Sq.n ?_ | with_reducible refine Sq.ret ?_ | with_reducible refine Sq.exit ?_ | with_reducible refine Bk.n ?_ | with_reducible refine Bk.ret ?_ | with_reducible refine Bk.exit ?_ | with_reducible refine Bk.ex' (by decide) ?_ | with_reducible refine Lp.ret ?_ | with_reducible refine Lp.exit ?_ | with_reducible refine Lx.exit ?_)
    rw [List.take_of_length_le (by omega)] at hts
    refine Fe.r1 rfl ⟨⟨?_, fun i k bs hi => ?_⟩, k12⟩
    · have hl : (L.foldl (fun a t => putF t.1 t.2 a) []).length = ts.length := by rw [← hts, List.length_map]
      rw [hl]
      rcases ho.2 with ⟨rfl, rfl⟩ | ⟨b, _, rfl, h3, h4⟩
      · exact .inl ⟨.inl rfl, rfl⟩
      · exact .inr ⟨b, 0, _, _, _, rfl, h4, h3, by rw [tgc_len]; omega⟩
    · rw [← hts, List.getElem?_map] at hi
      obtain ⟨t, ht, hpr⟩ := Option.map_eq_some_iff.1 hi
      simp only [pr3, Prod.mk.injEq] at hpr
      obtain ⟨rfl, rfl⟩ := hpr
      refine ⟨t.2.1, ?_, k12.bytes (htb t (List.mem_of_getElem? ht))⟩
      rcases ho.2 with ⟨rfl, rfl⟩ | ⟨b, _, rfl, h3, h4⟩
      · simp at ht
      · simp only [elAt, h3, Nat.zero_add]
        rw [tgc_el ts i t ht]
  replace hlt : binA P .lss 3 false (.i .i64 (j : Nat)) (.i .i64 n2) = some (.b true) := by rw [hlt]; simp; omega
  obtain ⟨kx, bx, hx⟩ : ∃ kx bx, L[j]? = some (kx, bx) := ⟨L[j].1, L[j].2, by simp [hjl]⟩
  obtain ⟨w, hxe, hxb⟩ := hLat j kx bx hx
  have hwone := (BytesAt.one' hxb).2
  obtain ⟨p, c, hix, hld, hel, _⟩ := (hl2.kp k12).idx elG zG aG hjl
  have hc : c = [.i .u32 (kx : Nat), w] := by
    rw [hl2.el k12 hjl, hxe] at hel; cases hel; rfl
  subst hc
  obtain ⟨b3, H3, H4, hal, hst, k4, v3, _, k3, _, _⟩ := alloc_new (H := H2) (cs := [.i .u32 (kx : Nat), w]) zeroG rfl zG rfl rfl (by have : (AV.i .u32 (kx : Nat)).one = true := rfl; simp [this, hwone])
  have ho4 := ho.kp k4
  have hlo := ho4.len
  have htake : (L.take (j + 1)).foldl (fun a t => putF t.1 t.2 a) [] = putF kx bx ((L.take j).foldl (fun a t => putF t.1 t.2 a) []) := by
    rw [List.take_add_one, hx]; simp [List.foldl_append]
  have hadd := addJ 3 true (j : Nat) 1 (by omega)
  rw [show ((j : Nat) : Int) + 1 = ((j + 1 : Nat) : Int) by omega] at hadd
  generalize hj1 : ((j + 1 : Nat) : Int) = j1 at hadd
  generalize hjj : ((j : Nat) : Int) = jj at hlt hix hadd
  ((repeat with_reducible refine WP.seqs ?_); refine WP.rg ?_)
  ((repeat with_reducible refine WP.seqs ?_); first | refine WP.seq (WP.condT rfl ?_) | refine WP.condT rfl ?_)
  refine WP.skip ?_; repeat (first | with_reducible refine Sq.n ?_ | with_reducible refine Sq.ret ?_ | with_reducible refine Sq.exit ?_ | with_reducible refine Bk.n ?_ | with_reducible refine Bk.ret ?_ | with_reducible refine Bk.exit ?_ | with_reducible refine Bk.ex' (by decide) ?_ | with_reducible refine Lp.ret ?_ | with_reducible refine Lp.exit ?_ | with_reducible refine Lx.exit ?_)
  ((repeat with_reducible refine WP.seqs ?_); first | refine WP.seq (WP.block ?_) | refine WP.block ?_)
  ((repeat with_reducible refine WP.seqs ?_); refine WP.rg ?_)
  ((repeat with_reducible refine WP.seqs ?_); refine WP.rg ?_)
  (repeat with_reducible refine WP.seqs ?_)
  refine WP.seq (WP.mono (Q' := fun x fr' H' => x = .normal ∧ H4 = H' ∧ (fr'.length = 85 ∧ fr'[0]? = some (av) ∧ fr'[1]? = some (u) ∧ fr'[5]? = some (.i .u32 0) ∧ fr'[6]? = some (out) ∧ fr'[8]? = some (.p b3 0) ∧ fr'[9]? = some (.i .i64 (posG kx ts : Nat)) ∧ fr'[17]? = some (l2) ∧ fr'[18]? = some (.i .i64 n2) ∧ fr'[19]? = some (.i .i64 jj))) ?_ ?_)
  · refine WP.block ?_
    refine WP.loop (Inv := fun i fr H5 => H4 = H5 ∧ (fr.length = 85 ∧ fr[0]? = some (av) ∧ fr[1]? = some (u) ∧ fr[5]? = some (.i .u32 0) ∧ fr[6]? = some (out) ∧ fr[8]? = some (.p b3 0) ∧ fr[9]? = some (.i .i64 (i : Nat)) ∧ fr[17]? = some (l2) ∧ fr[18]? = some (.i .i64 n2) ∧ fr[19]? = some (.i .i64 jj)) ∧ i ≤ posG kx ts) (posG kx ts) ?_ (posG kx ts) 0 _ _ (by omega) ?_
    rotate_left
    · exact ⟨rfl, ⟨rfl, rfl, rfl, rfl, rfl, rfl, rfl, rfl, rfl, rfl⟩, by omega⟩
    intro i fr H5 hi ⟨hH, ⟨hfl, hf0, hf1, hf5, hf6, hf8, hf9, hf17, hf18, hf19⟩, hip⟩
    subst hH
    obtain ⟨g, rfl⟩ := ex85 _ hfl; replace hf0 : g 0 = _ := Option.some.inj hf0; replace hf1 : g 1 = _ := Option.some.inj hf1; replace hf5 : g 5 = _ := Option.some.inj hf5; replace hf6 : g 6 = _ := Option.some.inj hf6; replace hf8 : g 8 = _ := Option.some.inj hf8; replace hf9 : g 9 = _ := Option.some.inj hf9; replace hf17 : g 17 = _ := Option.some.inj hf17; replace hf18 : g 18 = _ := Option.some.inj hf18; replace hf19 : g 19 = _ := Option.some.inj hf19; rw [hf0, hf1, hf5, hf6, hf8, hf9, hf17, hf18, hf19]; clear hfl hf0 hf1 hf5 hf6 hf8 hf9 hf17 hf18 hf19
    have hle := posG_le kx ts
    have hli := lssI 3 false (i : Nat) (ts.length : Nat)
    by_cases hil : i < ts.length
    · replace hli : binA P .lss 3 false (.i .i64 (i : Nat)) (.i .i64 (ts.length : Nat)) = some (.b true) := by rw [hli]; simp; omega
      have hti : ts[i]? = some ts[i] := by simp
      obtain ⟨p2, pk, hi2, hfa, hlk, _⟩ := ho4.el hti
      have hlu := lssU 53 false ((ts[i]).1 : Nat) (kx : Nat)
      by_cases hkl : (ts[i]).1 < kx
      · replace hlu : binA P .lss 53 false (.i .u32 ((ts[i]).1 : Nat)) (.i .u32 (kx : Nat)) = some (.b true) := by rw [hlu]; simp; omega
        have hip2 : i < posG kx ts := by
          rcases Nat.lt_or_ge i (posG kx ts) with h | h
          · exact h
          · have e : i = posG kx ts := by omega
            subst e
            have := posG_at hti
            omega
        have had := addJ 3 true (i : Nat) 1 (by omega)
        rw [show ((i : Nat) : Int) + 1 = ((i + 1 : Nat) : Int) by omega] at had
        generalize hi1 : ((i + 1 : Nat) : Int) = i1 at had
        generalize ((i : Nat) : Int) = ii at hli hi2 had
        generalize (((ts[i]).1 : Nat) : Int) = kk at hlk hlu
        ((repeat with_reducible refine WP.seqs ?_); refine WP.r0 ?_)
        ((repeat with_reducible refine WP.seqs ?_); first | refine WP.seq (WP.condT rfl ?_) | refine WP.condT rfl ?_)
        refine WP.skip ?_; repeat (first | with_reducible refine Sq.n ?_ | with_reducible refine Sq.ret ?_ | with_reducible refine Sq.exit ?_ | with_reducible refine Bk.n ?_ | with_reducible refine Bk.ret ?_ | with_reducible refine Bk.exit ?_ | with_reducible refine Bk.ex' (by decide) ?_ | with_reducible refine Lp.ret ?_ | with_reducible refine Lp.exit ?_ | with_reducible refine Lx.exit ?_)
        ((repeat with_reducible refine WP.seqs ?_); first | refine WP.seq (WP.block ?_) | refine WP.block ?_)
        refine WP.re ?_; repeat (first | with_reducible refine Sq.n ?_ | with_reducible refine Sq.ret ?_ | with_reducible refine Sq.exit ?_ | with_reducible refine Bk.n ?_ | with_reducible refine Bk.ret ?_ | with_reducible refine Bk.exit ?_ | with_reducible refine Bk.ex' (by decide) ?_ | with_reducible refine Lp.ret ?_ | with_reducible refine Lp.exit ?_ | with_reducible refine Lx.exit ?_)
        refine Lp.n ⟨hip2, rfl, ⟨rfl, rfl, rfl, rfl, rfl, rfl, rfl, rfl, rfl, rfl⟩, by omega⟩
      · replace hlu : binA P .lss 53 false (.i .u32 ((ts[i]).1 : Nat)) (.i .u32 (kx : Nat)) = some (.b false) := by rw [hlu]; simp; omega
        have hip2 : i = posG kx ts := by
          rcases Nat.lt_or_ge i (posG kx ts) with h | h
          · exact absurd (posG_lt hti h) hkl
          · omega
        rw [← hip2]
        generalize ((i : Nat) : Int) = ii at hli hi2
        generalize (((ts[i]).1 : Nat) : Int) = kk at hlk hlu
        ((repeat with_reducible refine WP.seqs ?_); refine WP.r0 ?_)
        ((repeat with_reducible refine WP.seqs ?_); first | refine WP.seq (WP.condF rfl ?_) | refine WP.condF rfl ?_)
        refine WP.exit ?_; repeat (first | with_reducible refine Sq.n ?_ | with_reducible refine Sq.ret ?_ | with_reducible refine Sq.exit ?_ | with_reducible refine Bk.n ?_ | with_reducible refine Bk.ret ?_ | with_reducible refine Bk.exit ?_ | with_reducible refine Bk.ex' (by decide) ?_ | with_reducible refine Lp.ret ?_ | with_reducible refine Lp.exit ?_ | with_reducible refine Lx.exit ?_)
        exact ⟨rfl, rfl, ⟨rfl, rfl, rfl, rfl, rfl, rfl, rfl, rfl, rfl, rfl⟩⟩
    · replace hli : binA P .lss 3 false (.i .i64 (i : Nat)) (.i .i64 (ts.length : Nat)) = some (.b false) := by rw [hli]; simp; omega
      have hip2 : i = posG kx ts := by omega
      rw [← hip2]
      generalize ((i : Nat) : Int) = ii at hli
      ((repeat with_reducible refine WP.seqs ?_); refine WP.r0 ?_)
      ((repeat with_reducible refine WP.seqs ?_); first | refine WP.seq (WP.condF rfl ?_) | refine WP.condF rfl ?_)
      refine WP.exit ?_; repeat (first | with_reducible refine Sq.n ?_ | with_reducible refine Sq.ret ?_ | with_reducible refine Sq.exit ?_ | with_reducible refine Bk.n ?_ | with_reducible refine Bk.ret ?_ | with_reducible refine Bk.exit ?_ | with_reducible refine Bk.ex' (by decide) ?_ | with_reducible refine Lp.ret ?_ | with_reducible refine Lp.exit ?_ | with_reducible refine Lx.exit ?_)
      exact ⟨rfl, rfl, ⟨rfl, rfl, rfl, rfl, rfl, rfl, rfl, rfl, rfl, rfl⟩⟩
  rintro x fr' H' ⟨rfl, rfl, hfl, hf0, hf1, hf5, hf6, hf8, hf9, hf17, hf18, hf19⟩
  obtain ⟨g, rfl⟩ := ex85 _ hfl; replace hf0 : g 0 = _ := Option.some.inj hf0; replace hf1 : g 1 = _ := Option.some.inj hf1; replace hf5 : g 5 = _ := Option.some.inj hf5; replace hf6 : g 6 = _ := Option.some.inj hf6; replace hf8 : g 8 = _ := Option.some.inj hf8; replace hf9 : g 9 = _ := Option.some.inj hf9; replace hf17 : g 17 = _ := Option.some.inj hf17; replace hf18 : g 18 = _ := Option.some.inj hf18; replace hf19 : g 19 = _ := Option.some.inj hf19; rw [hf0, hf1, hf5, hf6, hf8, hf9, hf17, hf18, hf19]; clear hfl hf0 hf1 hf5 hf6 hf8 hf9 hf17 hf18 hf19
  repeat (first | with_reducible refine Sq.n ?_ | with_reducible refine Sq.ret ?_ | with_reducible refine Sq.exit ?_ | with_reducible refine Bk.n ?_ | with_reducible refine Bk.ret ?_ | with_reducible refine Bk.exit ?_ | with_reducible refine Bk.ex' (by decide) ?_ | with_reducible refine Lp.ret ?_ | with_reducible refine Lp.exit ?_ | with_reducible refine Lx.exit ?_)
  have hl0 : binA P .lss 53 false (.i .u32 (kx : Nat)) (.i .u32 0) = some (.b false) := by rw [lssU]; simp
  have hple := posG_le kx ts
  have hlp := lssI 3 false (posG kx ts : Nat) (ts.length : Nat)
  have hput : (insG (kx, w, bx) ts).map pr3 = (L.take (j + 1)).foldl (fun a t => putF t.1 t.2 a) [] := by
    rw [htake, ← hts]; exact insG_put (kx, w, bx) ts
  have hil := insG_len (kx, w, bx) ts
  have hbe : ∀ t ∈ insG (kx, w, bx) ts, BytesAt (Lt H) H t.2.1 t.2.2 := fun t ht => by
    have : t ∈ ts ∨ t = (kx, w, bx) := by
      unfold insG at ht
      split at ht
      · split at ht
        · exact .inl ht
        · rcases List.mem_append.1 ht with ht | ht
          · rcases List.mem_append.1 ht with ht | ht
            · exact .inl (List.mem_of_mem_take ht)
            · exact .inr (by simpa using ht)
          · exact .inl (List.mem_of_mem_drop ht)
      · rcases List.mem_append.1 ht with ht | ht
        · exact .inl ht
        · exact .inr (by simpa using ht)
    rcases this with h | rfl
    · exact htb t h
    · exact hxb
  by_cases hdup : ∃ x, ts[posG kx ts]? = some x ∧ x.1 = kx
  · obtain ⟨x, hx1, hx2⟩ := hdup
    have hins : insG (kx, w, bx) ts = ts := by unfold insG; simp only [hx1, if_pos hx2]
    obtain ⟨p2, pk, hi2, hfa, hlk, _⟩ := ho4.el hx1
    replace hlp : binA P .lss 3 false (.i .i64 (posG kx ts : Nat)) (.i .i64 (ts.length : Nat)) = some (.b true) := by
      have := (List.getElem?_eq_some_iff.1 hx1).1
      rw [hlp]; simp; omega
    have hq : binA P .eql 53 false (.i .u32 (x.1 : Nat)) (.i .u32 (kx : Nat)) = some (.b true) := by rw [eqlU, hx2]; simp
    rw [hins] at hput
    generalize ((posG kx ts : Nat) : Int) = pp at hlp hi2
    generalize ((x.1 : Nat) : Int) = kk at hlk hq
    ((repeat with_reducible refine WP.seqs ?_); refine WP.r0 ?_)
    ((repeat with_reducible refine WP.seqs ?_); first | refine WP.seq (WP.condT rfl ?_) | refine WP.condT rfl ?_)
    refine WP.exit ?_; repeat (first | with_reducible refine Sq.n ?_ | with_reducible refine Sq.ret ?_ | with_reducible refine Sq.exit ?_ | with_reducible refine Bk.n ?_ | with_reducible refine Bk.ret ?_ | with_reducible refine Bk.exit ?_ | with_reducible refine Bk.ex' (by decide) ?_ | with_reducible refine Lp.ret ?_ | with_reducible refine Lp.exit ?_ | with_reducible refine Lx.exit ?_)
    refine WP.re ?_; repeat (first | with_reducible refine Sq.n ?_ | with_reducible refine Sq.ret ?_ | with_reducible refine Sq.exit ?_ | with_reducible refine Bk.n ?_ | with_reducible refine Bk.ret ?_ | with_reducible refine Bk.exit ?_ | with_reducible refine Bk.ex' (by decide) ?_ | with_reducible refine Lp.ret ?_ | with_reducible refine Lp.exit ?_ | with_reducible refine Lx.exit ?_)
    refine Lp.n ⟨by omega, out, ts, ⟨rfl, rfl, rfl, rfl, rfl, rfl, rfl, rfl⟩, hput, by omega, htb, ho4, hk.trans k4⟩
  have hins : insG (kx, w, bx) ts = ts.take (posG kx ts) ++ [(kx, w, bx)] ++ ts.drop (posG kx ts) := by
    unfold insG
    cases hx1 : ts[posG kx ts]? with
    | some x => simp only; rw [if_neg (fun h => hdup ⟨x, hx1, h⟩)]
    | none =>
      have : ts.length ≤ posG kx ts := by simpa using hx1
      simp only
      rw [List.take_of_length_le this, List.drop_eq_nil_of_le this, List.append_nil]
  rw [hins] at hput hil hbe
  refine WP.seq (WP.mono (Q' := fun x fr' H' => x = .normal ∧ H4 = H' ∧ (fr'.length = 85 ∧ fr'[0]? = some (av) ∧ fr'[1]? = some (u) ∧ fr'[5]? = some (.i .u32 0) ∧ fr'[6]? = some (out) ∧ fr'[8]? = some (.p b3 0) ∧ fr'[9]? = some (.i .i64 (posG kx ts : Nat)) ∧ fr'[17]? = some (l2) ∧ fr'[18]? = some (.i .i64 n2) ∧ fr'[19]? = some (.i .i64 jj))) ?_ ?_)
  · by_cases hpl : posG kx ts < ts.length
    · replace hlp : binA P .lss 3 false (.i .i64 (posG kx ts : Nat)) (.i .i64 (ts.length : Nat)) = some (.b true) := by rw [hlp]; simp; omega
      have hx1 : ts[posG kx ts]? = some ts[posG kx ts] := by simp
      obtain ⟨p2, pk, hi2, hfa, hlk, _⟩ := ho4.el hx1
      have hq : binA P .eql 53 false (.i .u32 ((ts[posG kx ts]).1 : Nat)) (.i .u32 (kx : Nat)) = some (.b false) := by
        rw [eqlU]
        have : ¬ (ts[posG kx ts]).1 = kx := fun h => hdup ⟨_, hx1, h⟩
        simp; omega
      generalize ((posG kx ts : Nat) : Int) = pp at hlp hi2 ⊢
      generalize (((ts[posG kx ts]).1 : Nat) : Int) = kk at hlk hq
      ((repeat with_reducible refine WP.seqs ?_); refine WP.r0 ?_)
      ((repeat with_reducible refine WP.seqs ?_); first | refine WP.seq (WP.condF rfl ?_) | refine WP.condF rfl ?_)
      refine WP.skip ?_; repeat (first | with_reducible refine Sq.n ?_ | with_reducible refine Sq.ret ?_ | with_reducible refine Sq.exit ?_ | with_reducible refine Bk.n ?_ | with_reducible refine Bk.ret ?_ | with_reducible refine Bk.exit ?_ | with_reducible refine Bk.ex' (by decide) ?_ | with_reducible refine Lp.ret ?_ | with_reducible refine Lp.exit ?_ | with_reducible refine Lx.exit ?_)
      exact ⟨rfl, rfl, ⟨rfl, rfl, rfl, rfl, rfl, rfl, rfl, rfl, rfl, rfl⟩⟩
    · replace hlp : binA P .lss 3 false (.i .i64 (posG kx ts : Nat)) (.i .i64 (ts.length : Nat)) = some (.b false) := by rw [hlp]; simp; omega
      generalize ((posG kx ts : Nat) : Int) = pp at hlp ⊢
      ((repeat with_reducible refine WP.seqs ?_); refine WP.r0 ?_)
      ((repeat with_reducible refine WP.seqs ?_); first | refine WP.seq (WP.condF rfl ?_) | refine WP.condF rfl ?_)
      refine WP.skip ?_; repeat (first | with_reducible refine Sq.n ?_ | with_reducible refine Sq.ret ?_ | with_reducible refine Sq.exit ?_ | with_reducible refine Bk.n ?_ | with_reducible refine Bk.ret ?_ | with_reducible refine Bk.exit ?_ | with_reducible refine Bk.ex' (by decide) ?_ | with_reducible refine Lp.ret ?_ | with_reducible refine Lp.exit ?_ | with_reducible refine Lx.exit ?_)
      exact ⟨rfl, rfl, ⟨rfl, rfl, rfl, rfl, rfl, rfl, rfl, rfl, rfl, rfl⟩⟩
  rintro x fr' H' ⟨rfl, rfl, hfl, hf0, hf1, hf5, hf6, hf8, hf9, hf17, hf18, hf19⟩
  obtain ⟨g, rfl⟩ := ex85 _ hfl; replace hf0 : g 0 = _ := Option.some.inj hf0; replace hf1 : g 1 = _ := Option.some.inj hf1; replace hf5 : g 5 = _ := Option.some.inj hf5; replace hf6 : g 6 = _ := Option.some.inj hf6; replace hf8 : g 8 = _ := Option.some.inj hf8; replace hf9 : g 9 = _ := Option.some.inj hf9; replace hf17 : g 17 = _ := Option.some.inj hf17; replace hf18 : g 18 = _ := Option.some.inj hf18; replace hf19 : g 19 = _ := Option.some.inj hf19; rw [hf0, hf1, hf5, hf6, hf8, hf9, hf17, hf18, hf19]; clear hfl hf0 hf1 hf5 hf6 hf8 hf9 hf17 hf18 hf19
  repeat (first | with_reducible refine Sq.n ?_ | with_reducible refine Sq.ret ?_ | with_reducible refine Sq.exit ?_ | with_reducible refine Bk.n ?_ | with_reducible refine Bk.ret ?_ | with_reducible refine Bk.exit ?_ | with_reducible refine Bk.ex' (by decide) ?_ | with_reducible refine Lp.ret ?_ | with_reducible refine Lp.exit ?_ | with_reducible refine Lx.exit ?_)
  have hL4 : H1.length ≤ H4.length := Nat.le_trans hk.1 k4.1
  have hbt := buildG
  have helg := elGs
  obtain ⟨sl, H5, out', H6, hbs, hsl, hap, ho6, k6, kv6⟩ := ho4.push hL4 (by omega)
  have v6 := kv6 _ _ _ v3
  have hl6 := ho6.len
  have hsub := subJ 3 true ((ts.length + 1 : Nat)) 1 (by omega)
  rw [show (((ts.length + 1 : Nat) : Int) - 1) = ((ts.length : Nat) : Int) by omega] at hsub
  have el6 : (ts ++ [(0, AV.s0, ([] : B))]).length = ts.length + 1 := by simp
  rw [el6] at hl6
  generalize ((ts.length + 1 : Nat) : Int) = m1 at hsub hl6
  generalize hml : ((ts.length : Nat) : Int) = ml at hsub
  ((repeat with_reducible refine WP.seqs ?_); refine WP.rg ?_)
  ((repeat with_reducible refine WP.seqs ?_); refine WP.rg ?_)
  refine WP.mono (Q' := fun x fr' H' => x = .normal ∧ ∃ y, (fr'.length = 85 ∧ fr'[0]? = some (av) ∧ fr'[1]? = some (u) ∧ fr'[5]? = some (.i .u32 0) ∧ fr'[6]? = some (out') ∧ fr'[8]? = some (.p b3 0) ∧ fr'[9]? = some (.i .i64 (posG kx ts : Nat)) ∧ fr'[17]? = some (l2) ∧ fr'[18]? = some (.i .i64 n2) ∧ fr'[19]? = some (.i .i64 jj)) ∧ OutG H1.length H' out' (ts.take (posG kx ts) ++ [y] ++ ts.drop (posG kx ts)) ∧ WKeep H1.length H6 H' ∧ H'[b3]? = some (.cells 55 .vr [.i .u32 (kx : Nat), w])) ?_ ?_
  · refine WP.block ?_
    refine WP.loop (Inv := fun i fr H7 => ∃ (m : Nat) (y : Tg), m + i = ts.length ∧ posG kx ts ≤ m ∧ (fr.length = 85 ∧ fr[0]? = some (av) ∧ fr[1]? = some (u) ∧ fr[5]? = some (.i .u32 0) ∧ fr[6]? = some (out') ∧ fr[8]? = some (.p b3 0) ∧ fr[9]? = some (.i .i64 (posG kx ts : Nat)) ∧ fr[10]? = some (.i .i64 (m : Nat)) ∧ fr[17]? = some (l2) ∧ fr[18]? = some (.i .i64 n2) ∧ fr[19]? = some (.i .i64 jj)) ∧ OutG H1.length H7 out' (ts.take m ++ [y] ++ ts.drop m) ∧ WKeep H1.length H6 H7 ∧ H7[b3]? = some (.cells 55 .vr [.i .u32 (kx : Nat), w])) (ts.length - posG kx ts) ?_ (ts.length - posG kx ts) 0 _ _ (by omega) ?_
    rotate_left
    · refine ⟨ts.length, (0, .s0, []), by omega, hple, ⟨rfl, rfl, rfl, rfl, rfl, rfl, rfl, by rw [hml]; rfl, rfl, rfl, rfl⟩, ?_, .refl _ _, v6⟩
      rw [List.take_length, List.drop_length, List.append_nil]
      exact ho6
    intro i fr H7 hi ⟨m, y, hmi, hpm, ⟨hfl, hf0, hf1, hf5, hf6, hf8, hf9, hf10, hf17, hf18, hf19⟩, ho7, k7, v7⟩
    obtain ⟨g, rfl⟩ := ex85 _ hfl; replace hf0 : g 0 = _ := Option.some.inj hf0; replace hf1 : g 1 = _ := Option.some.inj hf1; replace hf5 : g 5 = _ := Option.some.inj hf5; replace hf6 : g 6 = _ := Option.some.inj hf6; replace hf8 : g 8 = _ := Option.some.inj hf8; replace hf9 : g 9 = _ := Option.some.inj hf9; replace hf10 : g 10 = _ := Option.some.inj hf10; replace hf17 : g 17 = _ := Option.some.inj hf17; replace hf18 : g 18 = _ := Option.some.inj hf18; replace hf19 : g 19 = _ := Option.some.inj hf19; rw [hf0, hf1, hf5, hf6, hf8, hf9, hf10, hf17, hf18, hf19]; clear hfl hf0 hf1 hf5 hf6 hf8 hf9 hf10 hf17 hf18 hf19
    have hgt := gtrJ 3 false (m : Nat) (posG kx ts : Nat)
    have hlm : (ts.take m ++ [y] ++ ts.drop m).length = ts.length + 1 := by simp; omega
    by_cases hmp : posG kx ts < m
    · replace hgt : binA P .gtr 3 false (.i .i64 (m : Nat)) (.i .i64 (posG kx ts : Nat)) = some (.b true) := by rw [hgt]; simp; omega
      have hsb := subJ 3 true (m : Nat) 1 (by omega)
      rw [show (((m : Nat) : Int) - 1) = ((m - 1 : Nat) : Int) by omega] at hsb
      have hat := shift_at (ts := ts) (k := m) y (by omega) (by omega)
      obtain ⟨p2, pk, hi2, _, _, hld2⟩ := ho7.el hat
      have h1e := ho7.1 _ (List.mem_of_getElem? hat)
      obtain ⟨p3, H8, hi3, hst3, ho8, k8, kv8⟩ := ho7.set (j := m) (by omega) (ts[m - 1]'(by omega)) h1e
      rw [shift_set _ _ (by omega), shift_down (by omega) (by omega)] at ho8
      have v8 := kv8 _ _ _ v7
      generalize hm1 : ((m - 1 : Nat) : Int) = mm1 at hsb hi2
      generalize hm0 : ((m : Nat) : Int) = mm at hgt hsb hi3
      generalize (((ts[m - 1]'(by omega)).1 : Nat) : Int) = kk at hld2 hst3
      ((repeat with_reducible refine WP.seqs ?_); refine WP.rg ?_)
      ((repeat with_reducible refine WP.seqs ?_); first | refine WP.seq (WP.condT rfl ?_) | refine WP.condT rfl ?_)
      refine WP.skip ?_; repeat (first | with_reducible refine Sq.n ?_ | with_reducible refine Sq.ret ?_ | with_reducible refine Sq.exit ?_ | with_reducible refine Bk.n ?_ | with_reducible refine Bk.ret ?_ | with_reducible refine Bk.exit ?_ | with_reducible refine Bk.ex' (by decide) ?_ | with_reducible refine Lp.ret ?_ | with_reducible refine Lp.exit ?_ | with_reducible refine Lx.exit ?_)
      ((repeat with_reducible refine WP.seqs ?_); first | refine WP.seq (WP.block ?_) | refine WP.block ?_)
      refine WP.re ?_; repeat (first | with_reducible refine Sq.n ?_ | with_reducible refine Sq.ret ?_ | with_reducible refine Sq.exit ?_ | with_reducible refine Bk.n ?_ | with_reducible refine Bk.ret ?_ | with_reducible refine Bk.exit ?_ | with_reducible refine Bk.ex' (by decide) ?_ | with_reducible refine Lp.ret ?_ | with_reducible refine Lp.exit ?_ | with_reducible refine Lx.exit ?_)
      refine WP.re ?_; repeat (first | with_reducible refine Sq.n ?_ | with_reducible refine Sq.ret ?_ | with_reducible refine Sq.exit ?_ | with_reducible refine Bk.n ?_ | with_reducible refine Bk.ret ?_ | with_reducible refine Bk.exit ?_ | with_reducible refine Bk.ex' (by decide) ?_ | with_reducible refine Lp.ret ?_ | with_reducible refine Lp.exit ?_ | with_reducible refine Lx.exit ?_)
      refine Lp.n ⟨by omega, m - 1, _, by omega, by omega, ⟨rfl, rfl, rfl, rfl, rfl, rfl, rfl, by rw [hm1]; rfl, rfl, rfl, rfl⟩, ho8, k7.trans k8, v8⟩
    · replace hgt : binA P .gtr 3 false (.i .i64 (m : Nat)) (.i .i64 (posG kx ts : Nat)) = some (.b false) := by rw [hgt]; simp; omega
      have em : m = posG kx ts := by omega
      generalize hm0 : ((m : Nat) : Int) = mm at hgt
      generalize hp0 : ((posG kx ts : Nat) : Int) = pp at hgt ⊢
      ((repeat with_reducible refine WP.seqs ?_); refine WP.rg ?_)
      ((repeat with_reducible refine WP.seqs ?_); first | refine WP.seq (WP.condF rfl ?_) | refine WP.condF rfl ?_)
      refine WP.exit ?_; repeat (first | with_reducible refine Sq.n ?_ | with_reducible refine Sq.ret ?_ | with_reducible refine Sq.exit ?_ | with_reducible refine Bk.n ?_ | with_reducible refine Bk.ret ?_ | with_reducible refine Bk.exit ?_ | with_reducible refine Bk.ex' (by decide) ?_ | with_reducible refine Lp.ret ?_ | with_reducible refine Lp.exit ?_ | with_reducible refine Lx.exit ?_)
      exact ⟨rfl, y, ⟨rfl, rfl, rfl, rfl, rfl, rfl, rfl, rfl, rfl, rfl⟩, by rw [← em]; exact ho7, k7, v7⟩
  rintro x fr' H' ⟨rfl, y, ⟨hfl, hf0, hf1, hf5, hf6, hf8, hf9, hf17, hf18, hf19⟩, ho7, k7, v7⟩
  obtain ⟨g, rfl⟩ := ex85 _ hfl; replace hf0 : g 0 = _ := Option.some.inj hf0; replace hf1 : g 1 = _ := Option.some.inj hf1; replace hf5 : g 5 = _ := Option.some.inj hf5; replace hf6 : g 6 = _ := Option.some.inj hf6; replace hf8 : g 8 = _ := Option.some.inj hf8; replace hf9 : g 9 = _ := Option.some.inj hf9; replace hf17 : g 17 = _ := Option.some.inj hf17; replace hf18 : g 18 = _ := Option.some.inj hf18; replace hf19 : g 19 = _ := Option.some.inj hf19; rw [hf0, hf1, hf5, hf6, hf8, hf9, hf17, hf18, hf19]; clear hfl hf0 hf1 hf5 hf6 hf8 hf9 hf17 hf18 hf19
  repeat (first | with_reducible refine Sq.n ?_ | with_reducible refine Sq.ret ?_ | with_reducible refine Sq.exit ?_ | with_reducible refine Bk.n ?_ | with_reducible refine Bk.ret ?_ | with_reducible refine Bk.exit ?_ | with_reducible refine Bk.ex' (by decide) ?_ | with_reducible refine Lp.ret ?_ | with_reducible refine Lp.exit ?_ | with_reducible refine Lx.exit ?_)
  have hlm : (ts.take (posG kx ts) ++ [y] ++ ts.drop (posG kx ts)).length = ts.length + 1 := by simp; omega
  obtain ⟨p3, H8, hi3, hst3, ho8, k8, kv8⟩ := ho7.set (j := posG kx ts) (by omega) (kx, w, bx) hwone
  rw [shift_set _ _ hple] at ho8
  generalize ((posG kx ts : Nat) : Int) = pp at hi3
  refine WP.re ?_; repeat (first | with_reducible refine Sq.n ?_ | with_reducible refine Sq.ret ?_ | with_reducible refine Sq.exit ?_ | with_reducible refine Bk.n ?_ | with_reducible refine Bk.ret ?_ | with_reducible refine Bk.exit ?_ | with_reducible refine Bk.ex' (by decide) ?_ | with_reducible refine Lp.ret ?_ | with_reducible refine Lp.exit ?_ | with_reducible refine Lx.exit ?_)
  refine WP.re ?_; repeat (first | with_reducible refine Sq.n ?_ | with_reducible refine Sq.ret ?_ | with_reducible refine Sq.exit ?_ | with_reducible refine Bk.n ?_ | with_reducible refine Bk.ret ?_ | with_reducible refine Bk.exit ?_ | with_reducible refine Bk.ex' (by decide) ?_ | with_reducible refine Lp.ret ?_ | with_reducible refine Lp.exit ?_ | with_reducible refine Lx.exit ?_)
  refine Lp.n ⟨by omega, out', _, ⟨rfl, rfl, rfl, rfl, rfl, rfl, rfl, rfl⟩, hput, by omega, hbe, ho8, ?_⟩
  exact (hk.trans k4).wt ((k6.trans k7).trans k8)
end Go.Proofs.YtiifcfngbbhgoaaGreatDoor.Rd

