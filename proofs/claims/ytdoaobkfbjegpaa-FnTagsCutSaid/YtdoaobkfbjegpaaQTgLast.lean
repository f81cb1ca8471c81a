/-
  THE LAST TAGS of a row, by rising numbers.
-/
import Derived.Test.YtdoaobkfbjegpaaQTgRow
set_option linter.constructorNameAsVariable false
set_option linter.unusedVariables false
set_option linter.unusedSimpArgs false
namespace Go.Proofs.Ytdoaobkfbjegpaa.Rd
open Go Go.Proofs.Ytdoaobkfbjegpaa.Ax Go.Proofs.Ytdoaobkfbjegpaa.Wire
set_option maxRecDepth 100000
set_option maxHeartbeats 2000000
def insL (t : Tg) (ts : List Tg) : List Tg := match ts[posG t.1 ts]? with
  | some x => if x.1 = t.1 then ts.set (posG t.1 ts) t else ts.take (posG t.1 ts) ++ [t] ++ ts.drop (posG t.1 ts)
  | none => ts ++ [t]
theorem insL_put (t : Tg) : ∀ ts : List Tg, (insL t ts).map pr3 = put t.1 t.2.2 (ts.map pr3)
  | [] => rfl
  | x :: r => by
    have ih := insL_put t r
    unfold insL at ih ⊢
    simp only [posG, List.map_cons, pr3, put]
    by_cases h1 : x.1 < t.1
    · rw [if_pos h1]
      simp only [List.getElem?_cons_succ, List.take_succ_cons, List.drop_succ_cons, List.set_cons_succ]
      rw [if_neg (by omega), if_neg (by omega)]
      cases hx : r[posG t.1 r]? with
      | none =>
        rw [hx] at ih
        simp only [List.cons_append, List.map_cons] at ih ⊢
        rw [← ih]; rfl
      | some y =>
        rw [hx] at ih
        simp only at ih ⊢
        split
        · rename_i h2
          rw [if_pos h2] at ih
          simp only [List.map_cons]
          rw [← ih]; rfl
        · rename_i h2
          rw [if_neg h2] at ih
          simp only [List.cons_append, List.map_cons]
          rw [← ih]; rfl
    · rw [if_neg h1]
      simp only [List.getElem?_cons_zero, List.take_zero, List.drop_zero, List.nil_append, List.set_cons_zero]
      by_cases h2 : x.1 = t.1
      · rw [if_pos h2, if_neg (by omega), if_pos h2.symm]; rfl
      · rw [if_neg h2, if_pos (by omega)]; rfl
theorem insL_len (t : Tg) (ts : List Tg) : (insL t ts).length ≤ ts.length + 1 := by
  unfold insL
  split
  · split
    · simp
    · have := posG_le t.1 ts
      simp; omega
  · simp
theorem insL_mem {t x : Tg} {ts : List Tg} (h : x ∈ insL t ts) : x ∈ ts ∨ x = t := by
  unfold insL at h
  split at h
  · split at h
    · exact List.mem_or_eq_of_mem_set h
    · rcases List.mem_append.1 h with h | h
      · rcases List.mem_append.1 h with h | h
        · exact .inl (List.mem_of_mem_take h)
        · exact .inr (by simpa using h)
      · exact .inl (List.mem_of_mem_drop h)
  · rcases List.mem_append.1 h with h | h
    · exact .inl h
    · exact .inr (by simpa using h)
theorem build0 (H : Heap) : buildSliceA P H 25 0 [] = some (.sn, H ++ [.cells 42 .row []]) := by
  have hu : P.underlying 42 = some (.struct (match P.underlying 42 with | some (.struct f) => f | _ => #[])) := by kernel_rfl
  unfold buildSliceA
  simp only [elG, zG, zeroG, List.isEmpty_nil, if_true, newBlk, List.all_nil, Option.map_some]
  rw [hu]
theorem lastTags_x {H : Heap} {u : AV} {us : List (Nat × B)} (hu : TgAt H u us) (hn50 : us.length ≤ 50) : ∃ v H', CA P NS 6 [u] H (v, H') ∧ TgAt H' v (lastT us) ∧ Kp H H' := by
  refine CA.wp (fn := Try.f6) (R := fun v H' => TgAt H' v (lastT us) ∧ Kp H H') (by kernel_rfl) rfl ?_
  have hl := hu.1.len (t := 25) (by rw [elG]; rfl)
  generalize hni : ((us.length : Nat) : Int) = n at hl
  dsimp only [Try.f6]
  dsimp only [List.length_cons, List.length_nil, List.cons_append, List.nil_append, Nat.reduceSub, Nat.reduceAdd, List.replicate]
  ((repeat with_reducible refine WP.seqs ?_); refine WP.rg ?_)
  ((repeat with_reducible refine WP.seqs ?_); refine WP.rg ?_)
  ((repeat with_reducible refine WP.seqs ?_); refine WP.rg ?_)
  ((repeat with_reducible refine WP.seqs ?_); first | refine WP.seq (WP.block ?_) | refine WP.block ?_)
  refine WP.loop (Inv := fun j fr H2 => ∃ (out : AV) (ts : List Tg), (fr.length = 64 ∧ fr[0]? = some (u) ∧ fr[3]? = some (out) ∧ fr[8]? = some (u) ∧ fr[9]? = some (.i .i64 n) ∧ fr[10]? = some (.i .i64 (j : Nat))) ∧ ts.map pr3 = (us.take j).foldl (fun a t => put t.1 t.2 a) [] ∧ ts.length ≤ j ∧ (∀ t ∈ ts, BytesAt (Lt H) H t.2.1 t.2.2) ∧ OutG H.length H2 out ts ∧ Kp H H2) us.length ?_ us.length 0 _ _ (by omega) ?_
  rotate_left
  · exact ⟨.s0, [], ⟨rfl, rfl, rfl, rfl, rfl, rfl⟩, rfl, by simp, by simp, ⟨fun t h => (by cases h), .inl ⟨rfl, rfl⟩⟩, Kp.refl _⟩
  intro j fr H2 hj ⟨out, ts, ⟨hfl, hf0, hf3, hf8, hf9, hf10⟩, hts, htl, htb, ho, hk⟩
  obtain ⟨g, rfl⟩ := ex64 _ hfl; replace hf0 : g 0 = _ := Option.some.inj hf0; replace hf3 : g 3 = _ := Option.some.inj hf3; replace hf8 : g 8 = _ := Option.some.inj hf8; replace hf9 : g 9 = _ := Option.some.inj hf9; replace hf10 : g 10 = _ := Option.some.inj hf10; rw [hf0, hf3, hf8, hf9, hf10]; clear hfl hf0 hf3 hf8 hf9 hf10
  have hlt := lssI 3 false (j : Nat) (us.length : Nat)
  rw [hni] at hlt
  by_cases hjl : j < us.length
  rotate_left
  · replace hlt : binA P .lss 3 false (.i .i64 (j : Nat)) (.i .i64 n) = some (.b false) := by rw [hlt]; simp; omega
    generalize ((j : Nat) : Int) = jj at hlt
    ((repeat with_reducible refine WP.seqs ?_); refine WP.rg ?_)
    ((repeat with_reducible refine WP.seqs ?_); first | refine WP.seq (WP.condF rfl ?_) | refine WP.condF rfl ?_)
    refine WP.exit ?_; repeat (first | with_reducible refine Sq.n ?_ | with_reducible refine Sq.ret ?_ | with_reducible refine Sq.exit ?_ | with_reducible refine Bk.n ?_ | with_reducible refine Bk.ret ?_ | with_reducible refine Bk.exit ?_ | with_reducible refine Bk.ex' (by decide) ?_ | with_reducible refine Lp.ret ?_ | with_reducible refine Lp.exit ?_ | with_reducible refine Lx.exit ?_)
    ((repeat with_reducible refine WP.seqs ?_); refine WP.rg ?_)
    refine WP.ret ?_; repeat (first | with_reducible refine Sq.n ?_ | with_reducible refine Sq.ret ?_ | with_reducible refine Sq.exit ?_ | with_reducible refine Bk.n ?_ | with_reducible refine Bk.ret ?_ | with_reducible refine Bk.exit ?_ | with_reducible refine Bk.ex' (by decide) ?_ | with_reducible refine Lp.ret ?_ | with_reducible refine Lp.exit ?_ | with_reducible refine Lx.exit ?_)
    rw [List.take_of_length_le (by omega)] at hts
    refine Fe.r1 rfl ⟨?_, hk⟩
    have e : lastT us = ts.map pr3 := hts.symm
    rw [e]
    exact DstG.tgAt ho (fun t ht => hk.bytes (htb t ht))
  replace hlt : binA P .lss 3 false (.i .i64 (j : Nat)) (.i .i64 n) = some (.b true) := by rw [hlt]; simp; omega
  obtain ⟨kx, bx, hx⟩ : ∃ kx bx, us[j]? = some (kx, bx) := ⟨us[j].1, us[j].2, by simp [hjl]⟩
  obtain ⟨w, hxe, hxb⟩ := hu.2 j kx bx hx
  have hwone := (BytesAt.one' hxb).2
  obtain ⟨p, c, hix, hld, hel, _⟩ := (hu.1.kp hk).idxk elG zG aG hjl
  have hc : c = [.i .u32 (kx : Nat), w] := by
    rw [hu.1.el hk hjl, hxe] at hel; cases hel; rfl
  subst hc
  have hld1 := hld H2 (Kp.refl _)
  obtain ⟨b3, H3, H4, hal, hst, k4, v3, _, k3, _, _⟩ := alloc_new (H := H2) (cs := [.i .u32 (kx : Nat), w]) zeroG rfl zG rfl rfl (by have : (AV.i .u32 (kx : Nat)).one = true := rfl; simp [this, hwone])
  have ho4 := ho.kp k4
  have hlo := ho4.len
  have htake : (us.take (j + 1)).foldl (fun a t => put t.1 t.2 a) [] = put kx bx ((us.take j).foldl (fun a t => put t.1 t.2 a) []) := by
    rw [List.take_add_one, hx]; simp [List.foldl_append]
  have hadd := addJ 3 true (j : Nat) 1 (by omega)
  rw [show ((j : Nat) : Int) + 1 = ((j + 1 : Nat) : Int) by omega] at hadd
  generalize hj1 : ((j + 1 : Nat) : Int) = j1 at hadd
  generalize hjj : ((j : Nat) : Int) = jj at hlt hix hadd
  ((repeat with_reducible refine WP.seqs ?_); refine WP.rg ?_)
  ((repeat with_reducible refine WP.seqs ?_); first | refine WP.seq (WP.condT rfl ?_) | refine WP.condT rfl ?_)
  refine WP.skip ?_; repeat (first | with_reducible refine Sq.n ?_ | with_reducible refine Sq.ret ?_ | with_reducible refine Sq.exit ?_ | with_reducible refine Bk.n ?_ | with_reducible refine Bk.ret ?_ | with_reducible refine Bk.exit ?_ | with_reducible refine Bk.ex' (by decide) ?_ | with_reducible refine Lp.ret ?_ | with_reducible refine Lp.exit ?_ | with_reducible refine Lx.exit ?_)
  ((repeat with_reducible refine WP.seqs ?_); first | refine WP.seq (WP.block ?_) | refine WP.block ?_)
  ((repeat with_reducible refine WP.seqs ?_); refine WP.rg ?_)
  ((repeat with_reducible refine WP.seqs ?_); refine WP.rg ?_)
  (repeat with_reducible refine WP.seqs ?_)
  refine WP.seq (WP.mono (Q' := fun x fr' H' => x = .normal ∧ H4 = H' ∧ (fr'.length = 64 ∧ fr'[0]? = some (u) ∧ fr'[3]? = some (out) ∧ fr'[5]? = some (.p b3 0) ∧ fr'[6]? = some (.i .i64 (posG kx ts : Nat)) ∧ fr'[8]? = some (u) ∧ fr'[9]? = some (.i .i64 n) ∧ fr'[10]? = some (.i .i64 jj))) ?_ ?_)
  · refine WP.block ?_
    refine WP.loop (Inv := fun i fr H5 => H4 = H5 ∧ (fr.length = 64 ∧ fr[0]? = some (u) ∧ fr[3]? = some (out) ∧ fr[5]? = some (.p b3 0) ∧ fr[6]? = some (.i .i64 (i : Nat)) ∧ fr[8]? = some (u) ∧ fr[9]? = some (.i .i64 n) ∧ fr[10]? = some (.i .i64 jj)) ∧ i ≤ posG kx ts) (posG kx ts) ?_ (posG kx ts) 0 _ _ (by omega) ?_
    rotate_left
    · exact ⟨rfl, ⟨rfl, rfl, rfl, rfl, rfl, rfl, rfl, rfl⟩, by omega⟩
    intro i fr H5 hi ⟨hH, ⟨hfl, hf0, hf3, hf5, hf6, hf8, hf9, hf10⟩, hip⟩
    subst hH
    obtain ⟨g, rfl⟩ := ex64 _ hfl; replace hf0 : g 0 = _ := Option.some.inj hf0; replace hf3 : g 3 = _ := Option.some.inj hf3; replace hf5 : g 5 = _ := Option.some.inj hf5; replace hf6 : g 6 = _ := Option.some.inj hf6; replace hf8 : g 8 = _ := Option.some.inj hf8; replace hf9 : g 9 = _ := Option.some.inj hf9; replace hf10 : g 10 = _ := Option.some.inj hf10; rw [hf0, hf3, hf5, hf6, hf8, hf9, hf10]; clear hfl hf0 hf3 hf5 hf6 hf8 hf9 hf10
    have hle := posG_le kx ts
    have hli := lssI 3 false (i : Nat) (ts.length : Nat)
    by_cases hil : i < ts.length
    · replace hli : binA P .lss 3 false (.i .i64 (i : Nat)) (.i .i64 (ts.length : Nat)) = some (.b true) := by rw [hli]; simp; omega
      have hti : ts[i]? = some ts[i] := by simp
      obtain ⟨p2, pk, hi2, hfa, hlk, _⟩ := ho4.el hti
      have hlu := lssU 37 false ((ts[i]).1 : Nat) (kx : Nat)
      by_cases hkl : (ts[i]).1 < kx
      · replace hlu : binA P .lss 37 false (.i .u32 ((ts[i]).1 : Nat)) (.i .u32 (kx : Nat)) = some (.b true) := by rw [hlu]; simp; omega
        have hip2 : i < posG kx ts := by
          rcases Nat.lt_or_ge i (posG kx ts) with h | h
          · exact h
          · have e : i = posG kx ts := by omega
            subst e
            have := posG_at hti
            omega
        have had := addJ 3 true (i : Nat) 1 (by omega)
        rw [show ((i : Nat) : Int) + 1 = ((i + 1 : Nat) : Int) by omega] at had
        generalize hi1 : ((i + 1 : Nat) : Int) = i1 at had
        generalize ((i : Nat) : Int) = ii at hli hi2 had
        generalize (((ts[i]).1 : Nat) : Int) = kk at hlk hlu
        ((repeat with_reducible refine WP.seqs ?_); refine WP.r0 ?_)
        ((repeat with_reducible refine WP.seqs ?_); first | refine WP.seq (WP.condT rfl ?_) | refine WP.condT rfl ?_)
        refine WP.skip ?_; repeat (first | with_reducible refine Sq.n ?_ | with_reducible refine Sq.ret ?_ | with_reducible refine Sq.exit ?_ | with_reducible refine Bk.n ?_ | with_reducible refine Bk.ret ?_ | with_reducible refine Bk.exit ?_ | with_reducible refine Bk.ex' (by decide) ?_ | with_reducible refine Lp.ret ?_ | with_reducible refine Lp.exit ?_ | with_reducible refine Lx.exit ?_)
        ((repeat with_reducible refine WP.seqs ?_); first | refine WP.seq (WP.block ?_) | refine WP.block ?_)
        refine WP.re ?_; repeat (first | with_reducible refine Sq.n ?_ | with_reducible refine Sq.ret ?_ | with_reducible refine Sq.exit ?_ | with_reducible refine Bk.n ?_ | with_reducible refine Bk.ret ?_ | with_reducible refine Bk.exit ?_ | with_reducible refine Bk.ex' (by decide) ?_ | with_reducible refine Lp.ret ?_ | with_reducible refine Lp.exit ?_ | with_reducible refine Lx.exit ?_)
        refine Lp.n ⟨hip2, rfl, ⟨rfl, rfl, rfl, rfl, rfl, rfl, rfl, rfl⟩, by omega⟩
      · replace hlu : binA P .lss 37 false (.i .u32 ((ts[i]).1 : Nat)) (.i .u32 (kx : Nat)) = some (.b false) := by rw [hlu]; simp; omega
        have hip2 : i = posG kx ts := by
          rcases Nat.lt_or_ge i (posG kx ts) with h | h
          · exact absurd (posG_lt hti h) hkl
          · omega
        rw [← hip2]
        generalize ((i : Nat) : Int) = ii at hli hi2
        generalize (((ts[i]).1 : Nat) : Int) = kk at hlk hlu
        ((repeat with_reducible refine WP.seqs ?_); refine WP.r0 ?_)
        ((repeat with_reducible refine WP.seqs ?_); first | refine WP.seq (WP.condF rfl ?_) | refine WP.condF rfl ?_)
        refine WP.exit ?_; repeat (first | with_reducible refine Sq.n ?_ | with_reducible refine Sq.ret ?_ | with_reducible refine Sq.exit ?_ | with_reducible refine Bk.n ?_ | with_reducible refine Bk.ret ?_ | with_reducible refine Bk.exit ?_ | with_reducible refine Bk.ex' (by decide) ?_ | with_reducible refine Lp.ret ?_ | with_reducible refine Lp.exit ?_ | with_reducible refine Lx.exit ?_)
        exact ⟨rfl, rfl, ⟨rfl, rfl, rfl, rfl, rfl, rfl, rfl, rfl⟩⟩
    · replace hli : binA P .lss 3 false (.i .i64 (i : Nat)) (.i .i64 (ts.length : Nat)) = some (.b false) := by rw [hli]; simp; omega
      have hip2 : i = posG kx ts := by omega
      rw [← hip2]
      generalize ((i : Nat) : Int) = ii at hli
      ((repeat with_reducible refine WP.seqs ?_); refine WP.r0 ?_)
      ((repeat with_reducible refine WP.seqs ?_); first | refine WP.seq (WP.condF rfl ?_) | refine WP.condF rfl ?_)
      refine WP.exit ?_; repeat (first | with_reducible refine Sq.n ?_ | with_reducible refine Sq.ret ?_ | with_reducible refine Sq.exit ?_ | with_reducible refine Bk.n ?_ | with_reducible refine Bk.ret ?_ | with_reducible refine Bk.exit ?_ | with_reducible refine Bk.ex' (by decide) ?_ | with_reducible refine Lp.ret ?_ | with_reducible refine Lp.exit ?_ | with_reducible refine Lx.exit ?_)
      exact ⟨rfl, rfl, ⟨rfl, rfl, rfl, rfl, rfl, rfl, rfl, rfl⟩⟩
  rintro x fr' H' ⟨rfl, rfl, hfl, hf0, hf3, hf5, hf6, hf8, hf9, hf10⟩
  obtain ⟨g, rfl⟩ := ex64 _ hfl; replace hf0 : g 0 = _ := Option.some.inj hf0; replace hf3 : g 3 = _ := Option.some.inj hf3; replace hf5 : g 5 = _ := Option.some.inj hf5; replace hf6 : g 6 = _ := Option.some.inj hf6; replace hf8 : g 8 = _ := Option.some.inj hf8; replace hf9 : g 9 = _ := Option.some.inj hf9; replace hf10 : g 10 = _ := Option.some.inj hf10; rw [hf0, hf3, hf5, hf6, hf8, hf9, hf10]; clear hfl hf0 hf3 hf5 hf6 hf8 hf9 hf10
  repeat (first | with_reducible refine Sq.n ?_ | with_reducible refine Sq.ret ?_ | with_reducible refine Sq.exit ?_ | with_reducible refine Bk.n ?_ | with_reducible refine Bk.ret ?_ | with_reducible refine Bk.exit ?_ | with_reducible refine Bk.ex' (by decide) ?_ | with_reducible refine Lp.ret ?_ | with_reducible refine Lp.exit ?_ | with_reducible refine Lx.exit ?_)
  have hple := posG_le kx ts
  have hlp := lssI 3 false (posG kx ts : Nat) (ts.length : Nat)
  have hput : (insL (kx, w, bx) ts).map pr3 = (us.take (j + 1)).foldl (fun a t => put t.1 t.2 a) [] := by
    rw [htake, ← hts]; exact insL_put (kx, w, bx) ts
  have hil := insL_len (kx, w, bx) ts
  have hbe : ∀ t ∈ insL (kx, w, bx) ts, BytesAt (Lt H) H t.2.1 t.2.2 := fun t ht => by
    rcases insL_mem ht with h | rfl
    · exact htb t h
    · exact hxb
  have hlw4 : loadA P H4 42 (.p b3 0) = some (.g [.i .u32 (kx : Nat), w]) := ldw v3 aG zG rfl
  have hL4 : H.length ≤ H4.length := (hk.trans k4).1
  have egs := elGs
  by_cases hdup : ∃ x, ts[posG kx ts]? = some x ∧ x.1 = kx
  · obtain ⟨x, hx1, hx2⟩ := hdup
    have hins : insL (kx, w, bx) ts = ts.set (posG kx ts) (kx, w, bx) := by unfold insL; simp only [hx1, if_pos hx2]
    obtain ⟨p2, pk, hi2, hfa, hlk, _⟩ := ho4.el hx1
    have hpl := (List.getElem?_eq_some_iff.1 hx1).1
    obtain ⟨p3, H5, hi3, hst5, ho5, w5, _⟩ := ho4.set hpl (kx, w, bx) hwone
    replace hlp : binA P .lss 3 false (.i .i64 (posG kx ts : Nat)) (.i .i64 (ts.length : Nat)) = some (.b true) := by
      rw [hlp]; simp; omega
    have hq : binA P .eql 37 false (.i .u32 (x.1 : Nat)) (.i .u32 (kx : Nat)) = some (.b true) := by rw [eqlU, hx2]; simp
    rw [hins] at hput hbe hil
    have hi23 : p2 = p3 := Option.some.inj (hi2.symm.trans hi3)
    subst hi23
    generalize ((posG kx ts : Nat) : Int) = pp at hlp hi2 hi3
    generalize ((x.1 : Nat) : Int) = kk at hlk hq
    ((repeat with_reducible refine WP.seqs ?_); refine WP.r0 ?_)
    ((repeat with_reducible refine WP.seqs ?_); first | refine WP.seq (WP.condT rfl ?_) | refine WP.condT rfl ?_)
    ((repeat with_reducible refine WP.seqs ?_); refine WP.rg ?_)
    refine WP.exit ?_; repeat (first | with_reducible refine Sq.n ?_ | with_reducible refine Sq.ret ?_ | with_reducible refine Sq.exit ?_ | with_reducible refine Bk.n ?_ | with_reducible refine Bk.ret ?_ | with_reducible refine Bk.exit ?_ | with_reducible refine Bk.ex' (by decide) ?_ | with_reducible refine Lp.ret ?_ | with_reducible refine Lp.exit ?_ | with_reducible refine Lx.exit ?_)
    refine WP.re ?_; repeat (first | with_reducible refine Sq.n ?_ | with_reducible refine Sq.ret ?_ | with_reducible refine Sq.exit ?_ | with_reducible refine Bk.n ?_ | with_reducible refine Bk.ret ?_ | with_reducible refine Bk.exit ?_ | with_reducible refine Bk.ex' (by decide) ?_ | with_reducible refine Lp.ret ?_ | with_reducible refine Lp.exit ?_ | with_reducible refine Lx.exit ?_)
    refine Lp.n ⟨by omega, out, _, ⟨rfl, rfl, rfl, rfl, rfl, rfl⟩, hput, by omega, hbe, ho5, ⟨by have := w5.len; have := (hk.trans k4).1; omega, fun i hi => by rw [w5.at_ i hi, (hk.trans k4).2 i hi]⟩⟩
  have hins : insL (kx, w, bx) ts = ts.take (posG kx ts) ++ [(kx, w, bx)] ++ ts.drop (posG kx ts) := by
    unfold insL
    cases hx1 : ts[posG kx ts]? with
    | some x => simp only; rw [if_neg (fun h => hdup ⟨x, hx1, h⟩)]
    | none =>
      have : ts.length ≤ posG kx ts := by simpa using hx1
      simp only
      rw [List.take_of_length_le this, List.drop_eq_nil_of_le this, List.append_nil]
  rw [hins] at hput hil hbe
  refine WP.seq (WP.mono (Q' := fun x fr' H' => x = .normal ∧ H4 = H' ∧ (fr'.length = 64 ∧ fr'[0]? = some (u) ∧ fr'[3]? = some (out) ∧ fr'[5]? = some (.p b3 0) ∧ fr'[6]? = some (.i .i64 (posG kx ts : Nat)) ∧ fr'[8]? = some (u) ∧ fr'[9]? = some (.i .i64 n) ∧ fr'[10]? = some (.i .i64 jj))) ?_ ?_)
  · by_cases hpl : posG kx ts < ts.length
    · replace hlp : binA P .lss 3 false (.i .i64 (posG kx ts : Nat)) (.i .i64 (ts.length : Nat)) = some (.b true) := by rw [hlp]; simp; omega
      have hx1 : ts[posG kx ts]? = some ts[posG kx ts] := by simp
      obtain ⟨p2, pk, hi2, hfa, hlk, _⟩ := ho4.el hx1
      have hq : binA P .eql 37 false (.i .u32 ((ts[posG kx ts]).1 : Nat)) (.i .u32 (kx : Nat)) = some (.b false) := by
        rw [eqlU]
        have : ¬ (ts[posG kx ts]).1 = kx := fun h => hdup ⟨_, hx1, h⟩
        simp; omega
      generalize ((posG kx ts : Nat) : Int) = pp at hlp hi2 ⊢
      generalize (((ts[posG kx ts]).1 : Nat) : Int) = kk at hlk hq
      ((repeat with_reducible refine WP.seqs ?_); refine WP.r0 ?_)
      ((repeat with_reducible refine WP.seqs ?_); first | refine WP.seq (WP.condF rfl ?_) | refine WP.condF rfl ?_)
      refine WP.skip ?_; repeat (first | with_reducible refine Sq.n ?_ | with_reducible refine Sq.ret ?_ | with_reducible refine Sq.exit ?_ | with_reducible refine Bk.n ?_ | with_reducible refine Bk.ret ?_ | with_reducible refine Bk.exit ?_ | with_reducible refine Bk.ex' (by decide) ?_ | with_reducible refine Lp.ret ?_ | with_reducible refine Lp.exit ?_ | with_reducible refine Lx.exit ?_)
      exact ⟨rfl, rfl, ⟨rfl, rfl, rfl, rfl, rfl, rfl, rfl, rfl⟩⟩
    · replace hlp : binA P .lss 3 false (.i .i64 (posG kx ts : Nat)) (.i .i64 (ts.length : Nat)) = some (.b false) := by rw [hlp]; simp; omega
      generalize ((posG kx ts : Nat) : Int) = pp at hlp ⊢
      ((repeat with_reducible refine WP.seqs ?_); refine WP.r0 ?_)
      ((repeat with_reducible refine WP.seqs ?_); first | refine WP.seq (WP.condF rfl ?_) | refine WP.condF rfl ?_)
      refine WP.skip ?_; repeat (first | with_reducible refine Sq.n ?_ | with_reducible refine Sq.ret ?_ | with_reducible refine Sq.exit ?_ | with_reducible refine Bk.n ?_ | with_reducible refine Bk.ret ?_ | with_reducible refine Bk.exit ?_ | with_reducible refine Bk.ex' (by decide) ?_ | with_reducible refine Lp.ret ?_ | with_reducible refine Lp.exit ?_ | with_reducible refine Lx.exit ?_)
      exact ⟨rfl, rfl, ⟨rfl, rfl, rfl, rfl, rfl, rfl, rfl, rfl⟩⟩
  rintro x fr' H' ⟨rfl, rfl, hfl, hf0, hf3, hf5, hf6, hf8, hf9, hf10⟩
  obtain ⟨g, rfl⟩ := ex64 _ hfl; replace hf0 : g 0 = _ := Option.some.inj hf0; replace hf3 : g 3 = _ := Option.some.inj hf3; replace hf5 : g 5 = _ := Option.some.inj hf5; replace hf6 : g 6 = _ := Option.some.inj hf6; replace hf8 : g 8 = _ := Option.some.inj hf8; replace hf9 : g 9 = _ := Option.some.inj hf9; replace hf10 : g 10 = _ := Option.some.inj hf10; rw [hf0, hf3, hf5, hf6, hf8, hf9, hf10]; clear hfl hf0 hf3 hf5 hf6 hf8 hf9 hf10
  repeat (first | with_reducible refine Sq.n ?_ | with_reducible refine Sq.ret ?_ | with_reducible refine Sq.exit ?_ | with_reducible refine Bk.n ?_ | with_reducible refine Bk.ret ?_ | with_reducible refine Bk.exit ?_ | with_reducible refine Bk.ex' (by decide) ?_ | with_reducible refine Lp.ret ?_ | with_reducible refine Lp.exit ?_ | with_reducible refine Lx.exit ?_)
  have hb0 := build0 H4
  obtain ⟨H5, hH5⟩ : ∃ H5, H5 = H4 ++ [Blk.cells 42 .row []] := ⟨_, rfl⟩
  rw [← hH5] at hb0
  have k45 : Kp H4 H5 := by rw [hH5]; exact Kp.app _ _
  have ho5 := ho4.kp k45
  obtain ⟨av1, hs1, hsr1⟩ := ho5.pre (p := posG kx ts) hple
  obtain ⟨out1, H6, hap1, hd6, w6, _, _⟩ := appG (L0 := H5.length) (d := .sn) (ts := []) (Nat.le_refl _) ⟨fun t h => (by cases h), .inl ⟨.inr rfl, rfl⟩⟩ hsr1 (by simp; omega)
  have hS1 := hsr1.2.1
  have k56 : Kp H5 H6 := (Kp.refl H5).wt w6
  have v6 := k56.at_ (k45.at_ v3)
  have hlw6 : loadA P H6 42 (.p b3 0) = some (.g [.i .u32 (kx : Nat), w]) := ldw v6 aG zG rfl
  obtain ⟨sl, hbs, hsrc⟩ := oneG (H := H6) (k := kx) (bs := bx) hwone
  obtain ⟨H7, hH7⟩ : ∃ H7, H7 = H6 ++ [Blk.cells 42 .row [.i .u32 (kx : Nat), w]] := ⟨_, rfl⟩
  rw [← hH7] at hbs hsrc
  have k67 : Kp H6 H7 := by rw [hH7]; exact Kp.app _ _
  have hS2 := hsrc.2.1
  obtain ⟨out2, H8, hap2, hd8, w8, _, _⟩ := appG (L0 := H5.length) (Nat.le_trans k56.1 k67.1) (hd6.kp k67) hsrc (by simp; omega)
  have k58 : Kp H5 H8 := (k56.trans k67).wt w8
  obtain ⟨av3, hs3, hsr3⟩ := (ho5.kp k58).post (p := posG kx ts) hple
  have hS3 := hsr3.2.1
  obtain ⟨out3, H9, hap3, hd9, w9, _, _⟩ := appG (L0 := H5.length) k58.1 hd8 hsr3 (by simp; omega)
  have k59 : Kp H5 H9 := k58.wt w9
  have ho9 := hd9.out (by simp)
  rw [List.nil_append] at ho9
  have ho10 : OutG H.length H9 out3 (ts.take (posG kx ts) ++ [(kx, w, bx)] ++ ts.drop (posG kx ts)) := by
    refine ⟨ho9.1, ?_⟩
    rcases ho9.2 with h | ⟨i, h1, h2, h3, h4⟩
    · exact .inl h
    · exact .inr ⟨i, Nat.le_trans hL4 (Nat.le_trans k45.1 h1), h2, h3, h4⟩
  generalize hpp : ((posG kx ts : Nat) : Int) = pp at hs1 hs3
  generalize hkk : ((kx : Nat) : Int) = kk at hlw6 hbs
  ((repeat with_reducible refine WP.seqs ?_); refine WP.rg ?_)
  ((repeat with_reducible refine WP.seqs ?_); refine WP.rg ?_)
  refine WP.re ?_; repeat (first | with_reducible refine Sq.n ?_ | with_reducible refine Sq.ret ?_ | with_reducible refine Sq.exit ?_ | with_reducible refine Bk.n ?_ | with_reducible refine Bk.ret ?_ | with_reducible refine Bk.exit ?_ | with_reducible refine Bk.ex' (by decide) ?_ | with_reducible refine Lp.ret ?_ | with_reducible refine Lp.exit ?_ | with_reducible refine Lx.exit ?_)
  refine WP.re ?_; repeat (first | with_reducible refine Sq.n ?_ | with_reducible refine Sq.ret ?_ | with_reducible refine Sq.exit ?_ | with_reducible refine Bk.n ?_ | with_reducible refine Bk.ret ?_ | with_reducible refine Bk.exit ?_ | with_reducible refine Bk.ex' (by decide) ?_ | with_reducible refine Lp.ret ?_ | with_reducible refine Lp.exit ?_ | with_reducible refine Lx.exit ?_)
  refine Lp.n ⟨by omega, out3, _, ⟨rfl, rfl, rfl, rfl, rfl, rfl⟩, hput, by omega, hbe, ho10, ((hk.trans k4).trans k45).trans k59⟩
end Go.Proofs.Ytdoaobkfbjegpaa.Rd

namespace Go.Proofs.Ytdoaobkfbjegpaa.Rd
open Go Go.Proofs.Ytdoaobkfbjegpaa.Ax Go.Proofs.Ytdoaobkfbjegpaa.Wire
set_option maxRecDepth 100000
set_option maxHeartbeats 2000000
theorem cv_int_u64 (n : Nat) (h : n < 9223372036854775808) : convA P 3 30 (.i .i64 (n : Nat)) = some (.i .u64 (n : Nat)) := by
  have e : convA P 3 30 (.i .i64 (n : Nat)) = some (.i .u64 (IntKind.u64.wrap (n : Nat))) := by kernel_rfl
  rw [e]; simp [IntKind.wrap, IntKind.signed, IntKind.bits]; omega
theorem cv_u32_u64 (n : Nat) (h : n < 4294967296) : convA P 37 30 (.i .u32 (n : Nat)) = some (.i .u64 (n : Nat)) := by
  have e : convA P 37 30 (.i .u32 (n : Nat)) = some (.i .u64 (IntKind.u64.wrap (n : Nat))) := by kernel_rfl
  rw [e]; simp [IntKind.wrap, IntKind.signed, IntKind.bits]; omega
theorem app_vr {L0 : Nat} {H H' : Heap} {out out' x : AV} {bs new : B} (ho : OutAt L0 H out bs) (hx : firstA H 1 x = some (new.length, u8s new)) (h : appendA P H 28 false out x = some (out', H')) {b : Nat} {ty : TypeId} {cs : List AV} (hb : H[b]? = some (.cells ty .vr cs)) : H'[b]? = some (.cells ty .vr cs) := by
  by_cases h0 : 0 < new.length ∨ out ≠ .s0
  · refine (app_keep h ho.shape hx h0).at_ b _ hb fun i o n e => ?_
    rcases ho with ⟨rfl, _⟩ | ⟨k, _, rfl, hk, _⟩
    · cases e
    · cases e
      intro e
      subst e
      rw [hk] at hb; cases hb
  · have h1 : new.length = 0 := by omega
    have h2 : out = .s0 := by
      by_cases e : out = .s0
      · exact e
      · exact absurd (.inr e) h0
    subst h2
    unfold appendA at h
    simp only [elemB, sizeU, bytesU, zeroU] at h
    split at h
    · rw [hx] at h
      simp only [h1, if_true] at h
      cases h
      exact hb
    · cases h
theorem putB {L0 : Nat} {H : Heap} {out src : AV} {bs new : B} (hL : L0 ≤ H.length) (ho : OutAt L0 H out bs) {A : Nat → Prop} (hs : BytesAt A H src new) (hb : bs.length + new.length ≤ 1000000) :
    ∃ out' H', appendA P H 28 false out src = some (out', H') ∧ OutAt L0 H' out' (bs ++ new) ∧ WKeep L0 H H' ∧ (∀ (b : Nat) (ty : TypeId) (cs : List AV), H[b]? = some (.cells ty .vr cs) → H'[b]? = some (.cells ty .vr cs)) ∧ src.isS = false := by
  obtain ⟨out', H', h1, h2, h3⟩ := ap_bytes (str := false) hL ho hs.first (by omega)
  exact ⟨out', H', h1, h2, h3, fun b ty cs h => app_vr ho hs.first h1 h, BytesAt.noS hs⟩
theorem tagBytes_x {H : Heap} {u : AV} {us : List (Nat × B)} (hu : TgAt H u us) (hf : Fits us) (hk32 : ∀ t ∈ us, t.1 < 4294967296) :
    ∃ v H', CA P NS 9 [u] H (v, H') ∧ OutAt H.length H' v (encT us) ∧ (encT us).length ≤ 102000 ∧ Kp H H' := by
  refine CA.wp (fn := Try.f9) (R := fun v H' => OutAt H.length H' v (encT us) ∧ (encT us).length ≤ 102000 ∧ Kp H H') (by kernel_rfl) rfl ?_
  have hl := hu.1.len (t := 25) (by rw [elG]; rfl)
  have hn50 := hf.1
  generalize hni : ((us.length : Nat) : Int) = n at hl
  dsimp only [Try.f9]
  dsimp only [List.length_cons, List.length_nil, List.cons_append, List.nil_append, Nat.reduceSub, Nat.reduceAdd, List.replicate]
  ((repeat with_reducible refine WP.seqs ?_); refine WP.rg ?_)
  ((repeat with_reducible refine WP.seqs ?_); refine WP.rg ?_)
  ((repeat with_reducible refine WP.seqs ?_); refine WP.rg ?_)
  ((repeat with_reducible refine WP.seqs ?_); first | refine WP.seq (WP.block ?_) | refine WP.block ?_)
  refine WP.loop (Inv := fun j fr H1 => ∃ (out : AV), (fr.length = 31 ∧ fr[0]? = some (u) ∧ fr[3]? = some (out) ∧ fr[6]? = some (u) ∧ fr[7]? = some (.i .i64 n) ∧ fr[8]? = some (.i .i64 (j : Nat))) ∧ OutAt H.length H1 out (encT (us.take j)) ∧ (encT (us.take j)).length ≤ 2020 * j ∧ Kp H H1) us.length ?_ us.length 0 _ _ (by omega) ?_
  rotate_left
  · exact ⟨.s0, ⟨rfl, rfl, rfl, rfl, rfl, rfl⟩, .inl ⟨rfl, rfl⟩, by simp [encT], Kp.refl _⟩
  intro j fr H1 hj ⟨out, ⟨hfl, hf0, hf3, hf6, hf7, hf8⟩, ho, hol, hk⟩
  obtain ⟨g, rfl⟩ := ex31 _ hfl; replace hf0 : g 0 = _ := Option.some.inj hf0; replace hf3 : g 3 = _ := Option.some.inj hf3; replace hf6 : g 6 = _ := Option.some.inj hf6; replace hf7 : g 7 = _ := Option.some.inj hf7; replace hf8 : g 8 = _ := Option.some.inj hf8; rw [hf0, hf3, hf6, hf7, hf8]; clear hfl hf0 hf3 hf6 hf7 hf8
  have hlt := lssI 3 false (j : Nat) (us.length : Nat)
  rw [hni] at hlt
  by_cases hjl : j < us.length
  rotate_left
  · replace hlt : binA P .lss 3 false (.i .i64 (j : Nat)) (.i .i64 n) = some (.b false) := by rw [hlt]; simp; omega
    generalize ((j : Nat) : Int) = jj at hlt
    ((repeat with_reducible refine WP.seqs ?_); refine WP.rg ?_)
    ((repeat with_reducible refine WP.seqs ?_); first | refine WP.seq (WP.condF rfl ?_) | refine WP.condF rfl ?_)
    refine WP.exit ?_; repeat (first | with_reducible refine Sq.n ?_ | with_reducible refine Sq.ret ?_ | with_reducible refine Sq.exit ?_ | with_reducible refine Bk.n ?_ | with_reducible refine Bk.ret ?_ | with_reducible refine Bk.exit ?_ | with_reducible refine Bk.ex' (by decide) ?_ | with_reducible refine Lp.ret ?_ | with_reducible refine Lp.exit ?_ | with_reducible refine Lx.exit ?_)
    ((repeat with_reducible refine WP.seqs ?_); refine WP.rg ?_)
    refine WP.ret ?_; repeat (first | with_reducible refine Sq.n ?_ | with_reducible refine Sq.ret ?_ | with_reducible refine Sq.exit ?_ | with_reducible refine Bk.n ?_ | with_reducible refine Bk.ret ?_ | with_reducible refine Bk.exit ?_ | with_reducible refine Bk.ex' (by decide) ?_ | with_reducible refine Lp.ret ?_ | with_reducible refine Lp.exit ?_ | with_reducible refine Lx.exit ?_)
    rw [List.take_of_length_le (by omega)] at ho hol
    exact Fe.r1 rfl ⟨ho, by omega, hk⟩
  replace hlt : binA P .lss 3 false (.i .i64 (j : Nat)) (.i .i64 n) = some (.b true) := by rw [hlt]; simp; omega
  obtain ⟨kx, bx, hxj⟩ : ∃ kx bx, us[j]? = some (kx, bx) := ⟨us[j].1, us[j].2, by simp [hjl]⟩
  obtain ⟨w, hxe, hxb⟩ := hu.2 j kx bx hxj
  have hkx : kx < 4294967296 := hk32 _ (List.mem_of_getElem? hxj)
  have hbx : bx.length ≤ 2000 := hf.2 _ (List.mem_of_getElem? hxj)
  obtain ⟨p, c, hix, hld, hel, _⟩ := (hu.1.kp hk).idxk elG zG aG hjl
  have hc : c = [.i .u32 (kx : Nat), w] := by
    rw [hu.1.el hk hjl, hxe] at hel; cases hel; rfl
  subst hc
  have hld1 := hld H1 (Kp.refl _)
  have hwone := (BytesAt.one' hxb).2
  obtain ⟨b3, H2, H3, hal, hst, k3, v3, _, _, _, _⟩ := alloc_new (H := H1) (cs := [.i .u32 (kx : Nat), w]) zeroG rfl zG rfl rfl (by have : (AV.i .u32 (kx : Nat)).one = true := rfl; simp [this, hwone])
  have hL1 := hk.1
  have l1 := uv_le5 (n := kx) (by omega)
  have l2 := uv_le5 (n := bx.length) (by omega)
  have hcv1 := cv_u32_u64 kx hkx
  obtain ⟨o1, H4, hc1, ho1, k4⟩ := uvs_x (n := kx) (by omega) H3
  obtain ⟨out1, H5, hap1, hO1, w5, kv5, hS1⟩ := putB (by have := k3.1; have := k4.1; omega) (ho.wk (k3.trans k4)) ho1.bytes (by omega)
  have v5 := kv5 _ _ _ (k4.at_ v3)
  have hlb := hxb.len bty
  have hcv2 := cv_int_u64 bx.length (by omega)
  obtain ⟨o2, H6, hc2, ho2, k6⟩ := uvs_x (n := bx.length) (by omega) H5
  have hL5 := w5.len
  obtain ⟨out2, H7, hap2, hO2, w7, kv7, hS2⟩ := putB (by have := k3.1; have := k4.1; have := k6.1; omega) (hO1.wk k6) ho2.bytes (by rw [List.length_append]; omega)
  have v7 := kv7 _ _ _ (k6.at_ v5)
  have k15 : Kp H H5 := (hk.trans (k3.trans k4)).wt w5
  have k17 : Kp H H7 := (k15.trans k6).wt w7
  obtain ⟨out3, H8, hap3, hO3, w8, _, hS3⟩ := putB k17.1 hO2 (k17.bytes hxb) (by rw [List.length_append, List.length_append]; omega)
  have hadd := addJ 3 true (j : Nat) 1 (by omega)
  rw [show ((j : Nat) : Int) + 1 = ((j + 1 : Nat) : Int) by omega] at hadd
  have henc : encT (us.take (j + 1)) = encT (us.take j) ++ uv kx ++ uv bx.length ++ bx := by
    rw [List.take_add_one, hxj]; simp [encT]
  generalize hj1 : ((j + 1 : Nat) : Int) = j1 at hadd
  generalize hjj : ((j : Nat) : Int) = jj at hlt hix hadd
  generalize ((kx : Nat) : Int) = kk at hld1 hst v3 v5 v7 hcv1 hc1 ⊢
  generalize ((bx.length : Nat) : Int) = bl at hlb hcv2 hc2
  ((repeat with_reducible refine WP.seqs ?_); refine WP.rg ?_)
  ((repeat with_reducible refine WP.seqs ?_); first | refine WP.seq (WP.condT rfl ?_) | refine WP.condT rfl ?_)
  refine WP.skip ?_; repeat (first | with_reducible refine Sq.n ?_ | with_reducible refine Sq.ret ?_ | with_reducible refine Sq.exit ?_ | with_reducible refine Bk.n ?_ | with_reducible refine Bk.ret ?_ | with_reducible refine Bk.exit ?_ | with_reducible refine Bk.ex' (by decide) ?_ | with_reducible refine Lp.ret ?_ | with_reducible refine Lp.exit ?_ | with_reducible refine Lx.exit ?_)
  ((repeat with_reducible refine WP.seqs ?_); first | refine WP.seq (WP.block ?_) | refine WP.block ?_)
  ((repeat with_reducible refine WP.seqs ?_); refine WP.rg ?_)
  ((repeat with_reducible refine WP.seqs ?_); refine WP.rg ?_)
  ((repeat with_reducible refine WP.seqs ?_); refine WP.rg ?_)
  refine WP.re ?_; repeat (first | with_reducible refine Sq.n ?_ | with_reducible refine Sq.ret ?_ | with_reducible refine Sq.exit ?_ | with_reducible refine Bk.n ?_ | with_reducible refine Bk.ret ?_ | with_reducible refine Bk.exit ?_ | with_reducible refine Bk.ex' (by decide) ?_ | with_reducible refine Lp.ret ?_ | with_reducible refine Lp.exit ?_ | with_reducible refine Lx.exit ?_)
  refine WP.re ?_; repeat (first | with_reducible refine Sq.n ?_ | with_reducible refine Sq.ret ?_ | with_reducible refine Sq.exit ?_ | with_reducible refine Bk.n ?_ | with_reducible refine Bk.ret ?_ | with_reducible refine Bk.exit ?_ | with_reducible refine Bk.ex' (by decide) ?_ | with_reducible refine Lp.ret ?_ | with_reducible refine Lp.exit ?_ | with_reducible refine Lx.exit ?_)
  refine Lp.n ⟨by omega, out3, ⟨rfl, rfl, rfl, rfl, rfl, rfl⟩, by rw [henc]; exact hO3, by rw [henc, List.length_append, List.length_append, List.length_append]; omega, k17.wt w8⟩
end Go.Proofs.Ytdoaobkfbjegpaa.Rd

