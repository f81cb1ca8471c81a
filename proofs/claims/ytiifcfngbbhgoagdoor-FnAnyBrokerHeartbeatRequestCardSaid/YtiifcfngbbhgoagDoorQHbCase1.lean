/-
  BrokerHeartbeatRequest: A ROUND IN WHICH THE TAG 1 IS READ.
-/
import Derived.Test.YtiifcfngbbhgoagDoorQHbCase0
set_option linter.constructorNameAsVariable false
set_option linter.unusedVariables false
set_option linter.unusedSimpArgs false
namespace Go.Proofs.YtiifcfngbbhgoagDoor.Rd
open Go Go.Proofs.YtiifcfngbbhgoagDoor.Ax Go.Proofs.YtiifcfngbbhgoagDoor.Wire
set_option maxRecDepth 100000
set_option maxHeartbeats 4000000
theorem lss16i (t : TypeId) (c : Bool) (a b : Int) : binA P .lss t c (.i .i16 a) (.i .i16 b) = some (.b (decide (a < b))) := by
  simp [binA, binOp, Op.intCmp, ofSem, ofV1]
  rfl
theorem eql32i (t : TypeId) (c : Bool) (a b : Int) : binA P .eql t c (.i .i32 a) (.i .i32 b) = some (.b (decide (a = b))) := by
  have e : binA P .eql t c (.i .i32 a) (.i .i32 b) = some (.b (a == b)) := by
    simp [binA, binOp, Op.intCmp, ofSem, ofV1]
    rfl
  rw [e]; congr 2
theorem build0U (H : Heap) : buildSliceA P H 38 0 [] = some (.sn, H ++ [.cells 52 .row []]) := by
  have hu : P.underlying 52 = some (.array 16 5) := by kernel_rfl
  unfold buildSliceA
  simp only [elU, zU16, zeroU16, List.isEmpty_nil, if_true, newBlk, List.all_nil, Option.map_some]
  rw [hu]
theorem round1 {H0 : Heap} {rb sb : Nat} {hd : List AV} {X : List Nat} {H H1 : Heap} {st st1 : Option B} {s : Hs} {o k m : AV} {mm kn : Nat} {ver : Int} {fr : List AV} {Q : Ends} {I : List AV → Heap → Prop}
    (h6 : hd.length = 6) (hmm : mm + 1 < 4294967296) (hbd : ∀ r, st = some r → r.length ≤ 100000) (h1s : HbSt H0 rb sb hd X H1 st1 s o k m) (hkn : kn = 1) (hver : 0 ≤ ver)
    (c1 : CA P NS 29 [.p rb 0] H (.i .u32 (kn : Nat), H1)) (m1 : match st.bind rdVi with | none => st1 = none ∧ ((kn : Nat) : Int) = 0 | some (v, r) => st1 = some r ∧ ((kn : Nat) : Int) = v)
    (hfr : (fr.length = 180 ∧ fr[0]? = some (.p sb 0) ∧ fr[6]? = some (.n) ∧ fr[7]? = some (.p rb 0) ∧ fr[8]? = some (.i .i16 ver) ∧ fr[9]? = some (.b true) ∧ fr[10]? = some (.p sb 0) ∧ fr[16]? = some (.i .u32 ((mm + 1 : Nat) : Int))))
    (hE : ∀ fr' H', fr'.length = 180 → fr'[6]? = some .e → (st.bind fun r => decG (mm + 1) s r) = none → Q .ret fr' H')
    (hN : ∀ fr' H' X' st' s' o' k' m', (fr'.length = 180 ∧ fr'[0]? = some (.p sb 0) ∧ fr'[6]? = some (.n) ∧ fr'[7]? = some (.p rb 0) ∧ fr'[8]? = some (.i .i16 ver) ∧ fr'[9]? = some (.b true) ∧ fr'[10]? = some (.p sb 0) ∧ fr'[16]? = some (.i .u32 (mm : Nat))) → HbSt H0 rb sb hd X' H' st' s' o' k' m' → (st.bind fun r => decG (mm + 1) s r) = (st'.bind fun r => decG mm s' r) → (∀ r, st' = some r → r.length ≤ 100000) → I fr' H') :
    WP NS (cd0 hbLoops) fr H (Lp Q I) := by
  obtain ⟨hfl, hf0, hf6, hf7, hf8, hf9, hf10, hf16⟩ := hfr
  obtain ⟨g, rfl⟩ := ex180 _ hfl; replace hf0 : g 0 = _ := Option.some.inj hf0; replace hf6 : g 6 = _ := Option.some.inj hf6; replace hf7 : g 7 = _ := Option.some.inj hf7; replace hf8 : g 8 = _ := Option.some.inj hf8; replace hf9 : g 9 = _ := Option.some.inj hf9; replace hf10 : g 10 = _ := Option.some.inj hf10; replace hf16 : g 16 = _ := Option.some.inj hf16; rw [hf0, hf6, hf7, hf8, hf9, hf10, hf16]; clear hfl hf0 hf6 hf7 hf8 hf9 hf10 hf16
  obtain ⟨ln, H2, hdB, av, H3, st3, c2, hln, c3, h3s, hbv, hl0, hl3, hbd3, hD0, hD1⟩ := tag3 h1s m1 hbd (mm := mm)
  have hzR : zeroA P 56 = some (.g [.s0, .b false]) := by kernel_rfl
  have hsR : sizeA P 56 = some 2 := by kernel_rfl
  have hav := BytesAt.one' hbv
  obtain ⟨b2, H3a, H4, hal, hst4, k4, v4, hb2, _, _, _⟩ := alloc_new (H := H3) (e := 56) (cs := [av, .b false]) hzR rfl hsR rfl rfl (by have : (AV.b false).one = true := rfl; simp [hav.2, this])
  have hbu := build_rd hbv
  have hb24 : b2 < H4.length := (List.getElem?_eq_some_iff.1 v4).1
  have h4s := h3s.new k4 hb2 hb24
  have hrb3 := rdAt_lt h3s.rd
  have hsb3 := (List.getElem?_eq_some_iff.1 h3s.blk).1
  have hn3 := h3s.len
  have R4 : Room (NX (b2 :: X)) H4 b2 := h4s.room.kt (KT.refl _ _) (fun e => e List.mem_cons_self) h4s.room.new
  have kt34 : KT (NX X) H3 (NX (b2 :: X)) H4 := ⟨k4.1, fun i b a x => ⟨fun e => by
    rcases List.mem_cons.1 e with rfl | e
    · have := (List.getElem?_eq_some_iff.1 x).1; omega
    · exact a e, k4.at_ x⟩⟩
  have rd4 : RdAt (NX (b2 :: X)) tR H4 b2 false (some hdB) := ⟨av, v4, BytesAt.kt hbv kt34, fun h => by cases h⟩
  obtain ⟨l, H5, st5, c5, rd5, le5, k5, m5⟩ := len_both rd_carrlen R4 rd4
  have kB5 : KB b2 H4 H5 := ⟨le5, k5⟩
  have h5s := h4s.inner List.mem_cons_self (by omega) (by omega) (by omega) v4 kB5
  have R5 : Room (NX (b2 :: X)) H5 b2 := R4.keep ⟨le5, fun i b a x => k5 i b (fun e => R4.no (e ▸ a)) x⟩
  obtain ⟨src5, bad5, hb5, _, _⟩ := RdAt.cell rd5
  have hb5l := (List.getElem?_eq_some_iff.1 hb5).1
  have cok := rdok.run _ _ _ _ _ rd5
  have cdone := rddone.run _ _ _ _ _ R5 rd5
  have hlnc := conv32_64 ln hln
  have hq0 : binA P .eql 49 true (.i .u32 (kn : Nat)) (.i .u32 0) = some (.b false) := by rw [eqU32, hkn]; simp
  have hq1 : binA P .eql 49 true (.i .u32 (kn : Nat)) (.i .u32 1) = some (.b true) := by rw [eqU32, hkn]; simp
  have hvl := lss16i 29 true ver 0
  replace hvl : binA P .lss 29 true (.i .i16 ver) (.i .i16 0) = some (.b false) := by rw [hvl]; simp; omega
  have hl0q := eql32i 21 true l 0
  have xf : fieldAddrA P 43 (.p sb 0) 7 = some (.p sb 7) := by kernel_rfl
  have h5b := h5s.blk
  have hldo : loadA P H4 38 (.p sb 7) = some k := ldc h4s.blk aUs (by rw [List.getElem?_append_right (by omega), h6]; rfl)
  have hs21 := sub32 mm hmm true
  have hg0 := gtr32 (mm + 1) true
  rw [decide_eq_true (by omega)] at hg0
  have hml : (st.bind fun r => decG (mm + 1) s r) = (decUs hdB).bind fun x => (st3.bind fun r3 => decG mm { s with k := if x.1 < 0 ∧ s.k.isNone = true then none else some x.2 } r3) := by
    cases h3 : st3 with
    | none => rw [hD0 h3]; cases decUs hdB <;> rfl
    | some r3 =>
      rw [hD1 r3 h3]
      unfold stepU
      rw [if_neg (by omega), if_pos hkn]
      cases decUs hdB <;> rfl
  have hspan : decUs hdB ≠ none → ∃ r3, st3 = some r3 := fun hne => by
    cases h3 : st3 with
    | none => rw [hl0 h3] at hne; exact absurd (by rfl) hne
    | some r3 => exact ⟨r3, rfl⟩
  have hx5 : ∀ (i : Nat) (cs : List AV), i ∈ b2 :: X → i ≠ rb → H5[i]? = some (.cells tR .vr cs) → H0.length ≤ i := fun i cs hi hne x => by
    rcases h5s.xn i hi with e | e | e
    · exact absurd e hne
    · subst e; rw [h5b] at x; exact absurd (Blk.cells.inj (Option.some.inj x)).1 (by decide)
    · exact e
  have hkc : ((k = .s0 ∨ k = .sn) ∧ (k = .s0 ↔ s.k = none)) ∨ ∃ us, s.k = some us ∧ LU H0.length rb sb (b2 :: X) H5 k us := by
    have hk := h5s.ku
    cases hs : s.k with
    | none => rw [hs] at hk; have : k = .s0 := hk; subst this; exact .inl ⟨.inl rfl, by simp⟩
    | some us =>
      rw [hs] at hk
      rcases hk with ⟨rfl, _⟩ | h
      · exact .inl ⟨.inr rfl, by simp⟩
      · exact .inr ⟨us, rfl, h⟩
  have hold : ∀ i l, k = .sl i 0 l → i ∈ b2 :: X ∧ H0.length ≤ i ∧ i ≠ rb ∧ ∃ cs, H5[i]? = some (.cells 52 .row cs) := fun i l e => by
    rcases hkc with ⟨rfl | rfl, _⟩ | ⟨us, _, i', rfl, q1, q2, q3, _, cs, q5, _⟩
    · cases e
    · cases e
    · cases e; exact ⟨q1, q2, q3, cs, q5⟩
  have hob2 : ∀ l, k ≠ .sl b2 0 l := fun l e => by obtain ⟨_, _, _, cs, hc⟩ := hold _ l e; rw [hb5] at hc; cases hc
  have hosb : ∀ l, k ≠ .sl sb 0 l := fun l e => by obtain ⟨_, _, _, cs, hc⟩ := hold _ l e; rw [h5b] at hc; cases hc
  have hkl : ∀ i l, o = .sl i 0 l → i < H5.length := fun i l e => by
    rcases h5s.ou with ⟨rfl, _⟩ | ⟨i', rfl, _, _, _, _, cs, hr, _⟩
    · cases e
    · cases e; exact (List.getElem?_eq_some_iff.1 hr).1
  have hov : ∀ w : AV, over (hd ++ [o, k, m]) [w] 7 = hd ++ [o, w, m] := fun w => by
    simp only [over, List.length_singleton, Nat.reduceAdd]
    rw [List.take_append, List.drop_append, h6, List.take_of_length_le (by omega), List.drop_eq_nil_of_le (by omega)]
    simp
  have h5l : H5.length ≥ H4.length := le5
  have hsbl : sb < H5.length := (List.getElem?_eq_some_iff.1 h5b).1
  have hbad : st5 = none → decUs hdB = none := fun e => by
    rw [e] at m5
    unfold decUs
    cases hr : rdL true hdB with
    | none => rfl
    | some x => simp only [Option.bind_some, hr] at m5; cases m5.1
  have hgood : ∀ r5, st5 = some r5 → rdL true hdB = some (l, r5) := fun r5 e => by
    rw [e] at m5
    simp only [Option.bind_some] at m5
    cases hr : rdL true hdB with
    | none => rw [hr] at m5; cases m5.1
    | some x => obtain ⟨l', r'⟩ := x; rw [hr] at m5; obtain ⟨e1, e2⟩ := m5; cases e1; rw [e2]
  by_cases hlz : l = 0
  · subst hlz
    replace hl0q : binA P .eql 21 true (.i .i32 0) (.i .i32 0) = some (.b true) := by rw [hl0q]; rfl
    have hbz := build0U H5
    have hk5 : Kp H5 (H5 ++ [Blk.cells 52 .row []]) := Kp.app _ _
    have hlz : (H5 ++ [Blk.cells 52 .row []]).length = H5.length + 1 := by simp
    generalize (H5 ++ [Blk.cells 52 .row []]) = H6 at *
    have h6s := h5s.new hk5 (Nat.le_refl _) (by omega)
    have kt56 : KT (NX (b2 :: X)) H5 (NX (H5.length :: b2 :: X)) H6 := ⟨by omega, fun i b a x => ⟨fun e => by
      rcases List.mem_cons.1 e with rfl | e
      · have := (List.getElem?_eq_some_iff.1 x).1; omega
      · exact a e, hk5.at_ x⟩⟩
    have R6 : Room (NX (H5.length :: b2 :: X)) H6 b2 := R5.kt kt56 (fun e => e (by simp)) (fun i hi e => by
      rcases List.mem_cons.1 e with rfl | e
      · omega
      · exact R5.new i (by omega) e)
    have rd6 : RdAt (NX (H5.length :: b2 :: X)) tR H6 b2 true st5 := rdAt_kt rd5 kt56 (hk5.2 _ hb5l)
    have cok6 := rdok.run _ _ _ _ _ rd6
    cases hst5 : st5 with
    | none =>
      rw [hbad hst5] at hml
      rw [hst5] at cok6 rd6
      have cdone6 := rddone.run _ _ _ _ _ R6 rd6
      simp only [Option.isSome_none, Bool.false_eq_true, if_false] at cok6 cdone6
      clear cok cdone
      generalize hmi : ((mm + 1 : Nat) : Int) = mi at hs21 hg0
      generalize hmj : ((mm : Nat) : Int) = mj at hs21 hN
      generalize ((kn : Nat) : Int) = ki at c1 hq0 hq1
      generalize ((ln : Nat) : Int) = li at c2 c3 hlnc
      dsimp only [hbLoops, Tryd.f14, Option.getD_some, loopsOf, List.cons_append, List.nil_append, cd0]
      ((repeat with_reducible refine WP.seqs ?_); refine WP.rg ?_)
      ((repeat with_reducible refine WP.seqs ?_); first | refine WP.seq (WP.condT rfl ?_) | refine WP.condT rfl ?_)
      refine WP.skip ?_; repeat (first | with_reducible refine Sq.n ?_ | with_reducible refine Sq.ret ?_ | with_reducible refine Sq.exit ?_ | with_reducible refine Bk.n ?_ | with_reducible refine Bk.ret ?_ | with_reducible refine Bk.exit ?_ | with_reducible refine Bk.ex' (by decide) ?_ | with_reducible refine Lp.ret ?_ | with_reducible refine Lp.exit ?_ | with_reducible refine Lx.exit ?_)
      ((repeat with_reducible refine WP.seqs ?_); first | refine WP.seq (WP.block ?_) | refine WP.block ?_)
      ((repeat with_reducible refine WP.seqs ?_); refine WP.rg ?_)
      ((repeat with_reducible refine WP.seqs ?_); refine WP.rg ?_)
      ((repeat with_reducible refine WP.seqs ?_); first | refine WP.seq (WP.block ?_) | refine WP.block ?_)
      ((repeat with_reducible refine WP.seqs ?_); refine WP.rg ?_)
      ((repeat with_reducible refine WP.seqs ?_); first | refine WP.seq (WP.condF rfl ?_) | refine WP.condF rfl ?_)
      ((repeat with_reducible refine WP.seqs ?_); refine WP.rg ?_)
      ((repeat with_reducible refine WP.seqs ?_); first | refine WP.seq (WP.condT rfl ?_) | refine WP.condT rfl ?_)
      ((repeat with_reducible refine WP.seqs ?_); refine WP.rg ?_)
      ((repeat with_reducible refine WP.seqs ?_); refine WP.rg ?_)
      ((repeat with_reducible refine WP.seqs ?_); refine WP.rg ?_)
      ((repeat with_reducible refine WP.seqs ?_); refine WP.rg ?_)
      ((repeat with_reducible refine WP.seqs ?_); refine WP.rg ?_)
      ((repeat with_reducible refine WP.seqs ?_); first | refine WP.seq (WP.condT rfl ?_) | refine WP.condT rfl ?_)
      refine WP.re ?_; repeat (first | with_reducible refine Sq.n ?_ | with_reducible refine Sq.ret ?_ | with_reducible refine Sq.exit ?_ | with_reducible refine Bk.n ?_ | with_reducible refine Bk.ret ?_ | with_reducible refine Bk.exit ?_ | with_reducible refine Bk.ex' (by decide) ?_ | with_reducible refine Lp.ret ?_ | with_reducible refine Lp.exit ?_ | with_reducible refine Lx.exit ?_)
      ((repeat with_reducible refine WP.seqs ?_); refine WP.rg ?_)
      ((repeat with_reducible refine WP.seqs ?_); first | refine WP.seq (WP.condT rfl ?_) | refine WP.condT rfl ?_)
      refine WP.re ?_; repeat (first | with_reducible refine Sq.n ?_ | with_reducible refine Sq.ret ?_ | with_reducible refine Sq.exit ?_ | with_reducible refine Bk.n ?_ | with_reducible refine Bk.ret ?_ | with_reducible refine Bk.exit ?_ | with_reducible refine Bk.ex' (by decide) ?_ | with_reducible refine Lp.ret ?_ | with_reducible refine Lp.exit ?_ | with_reducible refine Lx.exit ?_)
      ((repeat with_reducible refine WP.seqs ?_); refine WP.rg ?_)
      ((repeat with_reducible refine WP.seqs ?_); first | refine WP.seq (WP.condT rfl ?_) | refine WP.condT rfl ?_)
      ((repeat with_reducible refine WP.seqs ?_); refine WP.rg ?_)
      refine WP.ret ?_; repeat (first | with_reducible refine Sq.n ?_ | with_reducible refine Sq.ret ?_ | with_reducible refine Sq.exit ?_ | with_reducible refine Bk.n ?_ | with_reducible refine Bk.ret ?_ | with_reducible refine Bk.exit ?_ | with_reducible refine Bk.ex' (by decide) ?_ | with_reducible refine Lp.ret ?_ | with_reducible refine Lp.exit ?_ | with_reducible refine Lx.exit ?_)
      exact hE _ _ rfl rfl hml
    | some r5 =>
      have hrl := hgood r5 hst5
      rw [hst5] at cok6 rd6
      simp only [Option.isSome_some] at cok6
      clear cok cdone
      have hdu : decUs hdB = some (0, []) := by unfold decUs; rw [hrl]; simp [many16]
      have hgp : binA P .gtr 21 true (.i .i32 0) (.i .i32 0) = some (.b false) := by rw [gtr32i]; rfl
      have hlp : binA P .lss 21 false (.i .i32 0) (.i .i32 0) = some (.b false) := by rw [lss32]; rfl
      have hsl : sliceA P 38 .sn none (some (.i .i64 0)) = some .sn := by kernel_rfl
      have h6b := hk5.at_ h5b
      have hst8 : storeA P H6 38 (.p sb 7) .sn = _ := stc h6b zUs (by simp [h6]) rfl rfl
      rw [hov] at hst8
      have hset : ∀ (i : Nat) (b : Blk), i ≠ sb → H6[i]? = some b → (H6.set sb (.cells 43 .vr (hd ++ [o, .sn, m])))[i]? = some b := fun i b hi x => by rw [List.getElem?_set_ne (Ne.symm hi)]; exact x
      have h8b : (H6.set sb (.cells 43 .vr (hd ++ [o, .sn, m])))[sb]? = some (.cells 43 .vr (hd ++ [o, .sn, m])) := by rw [List.getElem?_set_self (by omega)]
      have h8l : (H6.set sb (.cells 43 .vr (hd ++ [o, .sn, m]))).length = H6.length := by simp
      generalize (H6.set sb (.cells 43 .vr (hd ++ [o, .sn, m]))) = H8 at *
      have kt78 : KT (NX (H5.length :: b2 :: X)) H6 (NX (H5.length :: b2 :: X)) H8 := ⟨by omega, fun i b a x => ⟨a, hset i b (fun e => a (by rw [e]; exact h6s.sx)) x⟩⟩
      have R8 : Room (NX (H5.length :: b2 :: X)) H8 b2 := R6.keep kt78.keep
      have rd8 : RdAt (NX (H5.length :: b2 :: X)) tR H8 b2 true (some r5) := rdAt_kt rd6 kt78 (by rw [hset _ _ (by omega) (hk5.at_ hb5), hk5.at_ hb5])
      have cdone := rddone.run _ _ _ _ _ R8 rd8
      simp only [Option.isSome_some, if_true] at cdone
      have hne := neqN
      rw [hdu] at hml hspan
      obtain ⟨r3, hr3⟩ := hspan (by simp)
      have hfin : HbSt H0 rb sb hd (H5.length :: b2 :: X) H8 st3 { s with k := some [] } o .sn m := h5s.setK (fun x hx => List.mem_cons_of_mem _ hx) (fun x hx => by
          rcases List.mem_cons.1 hx with rfl | hx
          · exact .inr ⟨Nat.le_refl _, by omega⟩
          · exact .inl hx) (by omega) (fun i b h1 h2 x => .inl (hset i b h2 (hk5.at_ x))) h8b (.inl ⟨rfl, rfl⟩) (fun i l i' l' e1 e2 => by cases e2) hold hx5
      generalize hmi : ((mm + 1 : Nat) : Int) = mi at hs21 hg0
      generalize hmj : ((mm : Nat) : Int) = mj at hs21 hN
      generalize ((kn : Nat) : Int) = ki at c1 hq0 hq1
      generalize ((ln : Nat) : Int) = li at c2 c3 hlnc
      dsimp only [hbLoops, Tryd.f14, Option.getD_some, loopsOf, List.cons_append, List.nil_append, cd0]
      ((repeat with_reducible refine WP.seqs ?_); refine WP.rg ?_)
      ((repeat with_reducible refine WP.seqs ?_); first | refine WP.seq (WP.condT rfl ?_) | refine WP.condT rfl ?_)
      refine WP.skip ?_; repeat (first | with_reducible refine Sq.n ?_ | with_reducible refine Sq.ret ?_ | with_reducible refine Sq.exit ?_ | with_reducible refine Bk.n ?_ | with_reducible refine Bk.ret ?_ | with_reducible refine Bk.exit ?_ | with_reducible refine Bk.ex' (by decide) ?_ | with_reducible refine Lp.ret ?_ | with_reducible refine Lp.exit ?_ | with_reducible refine Lx.exit ?_)
      ((repeat with_reducible refine WP.seqs ?_); first | refine WP.seq (WP.block ?_) | refine WP.block ?_)
      ((repeat with_reducible refine WP.seqs ?_); refine WP.rg ?_)
      ((repeat with_reducible refine WP.seqs ?_); refine WP.rg ?_)
      ((repeat with_reducible refine WP.seqs ?_); first | refine WP.seq (WP.block ?_) | refine WP.block ?_)
      ((repeat with_reducible refine WP.seqs ?_); refine WP.rg ?_)
      ((repeat with_reducible refine WP.seqs ?_); first | refine WP.seq (WP.condF rfl ?_) | refine WP.condF rfl ?_)
      ((repeat with_reducible refine WP.seqs ?_); refine WP.rg ?_)
      ((repeat with_reducible refine WP.seqs ?_); first | refine WP.seq (WP.condT rfl ?_) | refine WP.condT rfl ?_)
      ((repeat with_reducible refine WP.seqs ?_); refine WP.rg ?_)
      ((repeat with_reducible refine WP.seqs ?_); refine WP.rg ?_)
      ((repeat with_reducible refine WP.seqs ?_); refine WP.rg ?_)
      ((repeat with_reducible refine WP.seqs ?_); refine WP.rg ?_)
      ((repeat with_reducible refine WP.seqs ?_); refine WP.rg ?_)
      ((repeat with_reducible refine WP.seqs ?_); first | refine WP.seq (WP.condT rfl ?_) | refine WP.condT rfl ?_)
      refine WP.re ?_; repeat (first | with_reducible refine Sq.n ?_ | with_reducible refine Sq.ret ?_ | with_reducible refine Sq.exit ?_ | with_reducible refine Bk.n ?_ | with_reducible refine Bk.ret ?_ | with_reducible refine Bk.exit ?_ | with_reducible refine Bk.ex' (by decide) ?_ | with_reducible refine Lp.ret ?_ | with_reducible refine Lp.exit ?_ | with_reducible refine Lx.exit ?_)
      ((repeat with_reducible refine WP.seqs ?_); refine WP.rg ?_)
      ((repeat with_reducible refine WP.seqs ?_); first | refine WP.seq (WP.condT rfl ?_) | refine WP.condT rfl ?_)
      refine WP.re ?_; repeat (first | with_reducible refine Sq.n ?_ | with_reducible refine Sq.ret ?_ | with_reducible refine Sq.exit ?_ | with_reducible refine Bk.n ?_ | with_reducible refine Bk.ret ?_ | with_reducible refine Bk.exit ?_ | with_reducible refine Bk.ex' (by decide) ?_ | with_reducible refine Lp.ret ?_ | with_reducible refine Lp.exit ?_ | with_reducible refine Lx.exit ?_)
      ((repeat with_reducible refine WP.seqs ?_); refine WP.rg ?_)
      ((repeat with_reducible refine WP.seqs ?_); first | refine WP.seq (WP.condF rfl ?_) | refine WP.condF rfl ?_)
      refine WP.skip ?_; repeat (first | with_reducible refine Sq.n ?_ | with_reducible refine Sq.ret ?_ | with_reducible refine Sq.exit ?_ | with_reducible refine Bk.n ?_ | with_reducible refine Bk.ret ?_ | with_reducible refine Bk.exit ?_ | with_reducible refine Bk.ex' (by decide) ?_ | with_reducible refine Lp.ret ?_ | with_reducible refine Lp.exit ?_ | with_reducible refine Lx.exit ?_)
      ((repeat with_reducible refine WP.seqs ?_); refine WP.rg ?_)
      ((repeat with_reducible refine WP.seqs ?_); refine WP.rg ?_)
      ((repeat with_reducible refine WP.seqs ?_); first | refine WP.seq (WP.condF rfl ?_) | refine WP.condF rfl ?_)
      refine WP.skip ?_; repeat (first | with_reducible refine Sq.n ?_ | with_reducible refine Sq.ret ?_ | with_reducible refine Sq.exit ?_ | with_reducible refine Bk.n ?_ | with_reducible refine Bk.ret ?_ | with_reducible refine Bk.exit ?_ | with_reducible refine Bk.ex' (by decide) ?_ | with_reducible refine Lp.ret ?_ | with_reducible refine Lp.exit ?_ | with_reducible refine Lx.exit ?_)
      ((repeat with_reducible refine WP.seqs ?_); refine WP.rg ?_)
      ((repeat with_reducible refine WP.seqs ?_); first | refine WP.seq (WP.block ?_) | refine WP.block ?_)
      refine WP.loop0 ?_
      ((repeat with_reducible refine WP.seqs ?_); refine WP.rg ?_)
      ((repeat with_reducible refine WP.seqs ?_); first | refine WP.seq (WP.condF rfl ?_) | refine WP.condF rfl ?_)
      refine WP.exit ?_; repeat (first | with_reducible refine Sq.n ?_ | with_reducible refine Sq.ret ?_ | with_reducible refine Sq.exit ?_ | with_reducible refine Bk.n ?_ | with_reducible refine Bk.ret ?_ | with_reducible refine Bk.exit ?_ | with_reducible refine Bk.ex' (by decide) ?_ | with_reducible refine Lp.ret ?_ | with_reducible refine Lp.exit ?_ | with_reducible refine Lx.exit ?_)
      ((repeat with_reducible refine WP.seqs ?_); refine WP.rg ?_)
      ((repeat with_reducible refine WP.seqs ?_); refine WP.rg ?_)
      ((repeat with_reducible refine WP.seqs ?_); refine WP.rg ?_)
      ((repeat with_reducible refine WP.seqs ?_); refine WP.rg ?_)
      ((repeat with_reducible refine WP.seqs ?_); first | refine WP.seq (WP.condF rfl ?_) | refine WP.condF rfl ?_)
      refine WP.skip ?_; repeat (first | with_reducible refine Sq.n ?_ | with_reducible refine Sq.ret ?_ | with_reducible refine Sq.exit ?_ | with_reducible refine Bk.n ?_ | with_reducible refine Bk.ret ?_ | with_reducible refine Bk.exit ?_ | with_reducible refine Bk.ex' (by decide) ?_ | with_reducible refine Lp.ret ?_ | with_reducible refine Lp.exit ?_ | with_reducible refine Lx.exit ?_)
      refine WP.re ?_; repeat (first | with_reducible refine Sq.n ?_ | with_reducible refine Sq.ret ?_ | with_reducible refine Sq.exit ?_ | with_reducible refine Bk.n ?_ | with_reducible refine Bk.ret ?_ | with_reducible refine Bk.exit ?_ | with_reducible refine Bk.ex' (by decide) ?_ | with_reducible refine Lp.ret ?_ | with_reducible refine Lp.exit ?_ | with_reducible refine Lx.exit ?_)
      refine Lp.n (hN _ _ _ _ _ _ _ _ ⟨rfl, rfl, rfl, rfl, rfl, rfl, rfl, rfl⟩ hfin ?_ hbd3)
      rw [hml]; rfl
  replace hl0q : binA P .eql 21 true (.i .i32 l) (.i .i32 0) = some (.b false) := by rw [hl0q, decide_eq_false hlz]
  obtain ⟨a0, hsl, ha0⟩ : ∃ a0, sliceA P 38 k none (some (.i .i64 0)) = some a0 ∧ (((k = .s0 ∨ k = .sn) ∧ a0 = k) ∨ ∃ i l', k = .sl i 0 l' ∧ a0 = .sl i 0 0 ∧ s.k.isNone = false ∧ i ∈ b2 :: X ∧ H0.length ≤ i ∧ i ≠ rb ∧ i ≠ sb ∧ RowU H5 i []) := by
    rcases hkc with ⟨h, _⟩ | ⟨us, hs, hlu⟩
    · obtain ⟨a0, q1, q2⟩ := cutU (n0 := H0.length) (rb := rb) (sb := sb) (X := b2 :: X) (H := H5) (us := []) (.inl ⟨h, rfl⟩)
      rcases q2 with q2 | ⟨i, e, _⟩
      · exact ⟨a0, q1, .inl q2⟩
      · rcases h with rfl | rfl <;> cases e
    · obtain ⟨a0, q1, q2⟩ := cutU (.inr hlu)
      rcases q2 with q2 | ⟨i, e1, e2, e3, e4, e5, e6, e7⟩
      · exact ⟨a0, q1, .inl q2⟩
      · exact ⟨a0, q1, .inr ⟨i, _, e1, e2, by rw [hs]; rfl, e3, e4, e5, e6, e7.nil⟩⟩
  cases hst5 : st5 with
  | none =>
    rw [hbad hst5] at hml
    rw [hst5] at cok cdone
    simp only [Option.isSome_none, Bool.false_eq_true, if_false] at cok cdone
    generalize hmi : ((mm + 1 : Nat) : Int) = mi at hs21 hg0
    generalize hmj : ((mm : Nat) : Int) = mj at hs21 hN
    generalize ((kn : Nat) : Int) = ki at c1 hq0 hq1
    generalize ((ln : Nat) : Int) = li at c2 c3 hlnc
    dsimp only [hbLoops, Tryd.f14, Option.getD_some, loopsOf, List.cons_append, List.nil_append, cd0]
    ((repeat with_reducible refine WP.seqs ?_); refine WP.rg ?_)
    ((repeat with_reducible refine WP.seqs ?_); first | refine WP.seq (WP.condT rfl ?_) | refine WP.condT rfl ?_)
    refine WP.skip ?_; repeat (first | with_reducible refine Sq.n ?_ | with_reducible refine Sq.ret ?_ | with_reducible refine Sq.exit ?_ | with_reducible refine Bk.n ?_ | with_reducible refine Bk.ret ?_ | with_reducible refine Bk.exit ?_ | with_reducible refine Bk.ex' (by decide) ?_ | with_reducible refine Lp.ret ?_ | with_reducible refine Lp.exit ?_ | with_reducible refine Lx.exit ?_)
    ((repeat with_reducible refine WP.seqs ?_); first | refine WP.seq (WP.block ?_) | refine WP.block ?_)
    ((repeat with_reducible refine WP.seqs ?_); refine WP.rg ?_)
    ((repeat with_reducible refine WP.seqs ?_); refine WP.rg ?_)
    ((repeat with_reducible refine WP.seqs ?_); first | refine WP.seq (WP.block ?_) | refine WP.block ?_)
    ((repeat with_reducible refine WP.seqs ?_); refine WP.rg ?_)
    ((repeat with_reducible refine WP.seqs ?_); first | refine WP.seq (WP.condF rfl ?_) | refine WP.condF rfl ?_)
    ((repeat with_reducible refine WP.seqs ?_); refine WP.rg ?_)
    ((repeat with_reducible refine WP.seqs ?_); first | refine WP.seq (WP.condT rfl ?_) | refine WP.condT rfl ?_)
    ((repeat with_reducible refine WP.seqs ?_); refine WP.rg ?_)
    ((repeat with_reducible refine WP.seqs ?_); refine WP.rg ?_)
    ((repeat with_reducible refine WP.seqs ?_); refine WP.rg ?_)
    ((repeat with_reducible refine WP.seqs ?_); refine WP.rg ?_)
    ((repeat with_reducible refine WP.seqs ?_); refine WP.rg ?_)
    ((repeat with_reducible refine WP.seqs ?_); first | refine WP.seq (WP.condT rfl ?_) | refine WP.condT rfl ?_)
    refine WP.re ?_; repeat (first | with_reducible refine Sq.n ?_ | with_reducible refine Sq.ret ?_ | with_reducible refine Sq.exit ?_ | with_reducible refine Bk.n ?_ | with_reducible refine Bk.ret ?_ | with_reducible refine Bk.exit ?_ | with_reducible refine Bk.ex' (by decide) ?_ | with_reducible refine Lp.ret ?_ | with_reducible refine Lp.exit ?_ | with_reducible refine Lx.exit ?_)
    ((repeat with_reducible refine WP.seqs ?_); refine WP.rg ?_)
    ((repeat with_reducible refine WP.seqs ?_); first | refine WP.seq (WP.condF rfl ?_) | refine WP.condF rfl ?_)
    refine WP.skip ?_; repeat (first | with_reducible refine Sq.n ?_ | with_reducible refine Sq.ret ?_ | with_reducible refine Sq.exit ?_ | with_reducible refine Bk.n ?_ | with_reducible refine Bk.ret ?_ | with_reducible refine Bk.exit ?_ | with_reducible refine Bk.ex' (by decide) ?_ | with_reducible refine Lp.ret ?_ | with_reducible refine Lp.exit ?_ | with_reducible refine Lx.exit ?_)
    ((repeat with_reducible refine WP.seqs ?_); refine WP.rg ?_)
    ((repeat with_reducible refine WP.seqs ?_); first | refine WP.seq (WP.condT rfl ?_) | refine WP.condT rfl ?_)
    ((repeat with_reducible refine WP.seqs ?_); refine WP.rg ?_)
    refine WP.ret ?_; repeat (first | with_reducible refine Sq.n ?_ | with_reducible refine Sq.ret ?_ | with_reducible refine Sq.exit ?_ | with_reducible refine Bk.n ?_ | with_reducible refine Bk.ret ?_ | with_reducible refine Bk.exit ?_ | with_reducible refine Bk.ex' (by decide) ?_ | with_reducible refine Lp.ret ?_ | with_reducible refine Lp.exit ?_ | with_reducible refine Lx.exit ?_)
    exact hE _ _ rfl rfl hml
  | some r5 =>
    have hrl := hgood r5 hst5
    rw [hst5] at cok rd5
    simp only [Option.isSome_some] at cok
    clear cdone
    have hlok := rdL_ok hrl
    have hlen := hb_rdL hrl
    by_cases hpos : 0 < l
    · obtain ⟨n, rfl⟩ : ∃ n : Nat, l = n := ⟨l.toNat, by omega⟩
      have hdu : decUs hdB = (many16 n r5).map fun x => ((n : Int), x.1) := by unfold decUs; rw [hrl]; simp
      obtain ⟨H6, hap, hl6, hj6, hk6⟩ := appZ (H := H5) (a := a0) (l := n) (by omega) (by omega) (by
        rcases ha0 with ⟨h, rfl⟩ | ⟨i, _, _, rfl, _, _, _, _, _, h⟩
        · exact .inl h
        · exact .inr ⟨i, rfl, h⟩)
      have hk6' : ∀ (i : Nat) (b : Blk), (∀ l, k ≠ .sl i 0 l) → H5[i]? = some b → H6[i]? = some b := fun i b hne x => hk6 i b (fun e => by
        rcases ha0 with ⟨_, rfl⟩ | ⟨i', _, e1, rfl, _⟩
        · exact hne _ e
        · cases e; exact hne _ e1) x
      have hb6 := hk6' _ _ hob2 hb5
      have kt56 : KT (NX (b2 :: X)) H5 (NX (H5.length :: b2 :: X)) H6 := ⟨by omega, fun i b a x => ⟨fun e => by
        rcases List.mem_cons.1 e with rfl | e
        · have := (List.getElem?_eq_some_iff.1 x).1; omega
        · exact a e, hk6' i b (fun l e => a (hold _ l e).1) x⟩⟩
      have R6 : Room (NX (H5.length :: b2 :: X)) H6 b2 := R5.kt kt56 (fun e => e (by simp)) (fun i hi e => by
        rcases List.mem_cons.1 e with rfl | e
        · omega
        · exact R5.new i (by omega) e)
      have rd6 : RdAt (NX (H5.length :: b2 :: X)) tR H6 b2 true (some r5) := rdAt_kt rd5 kt56 (by rw [hb6, hb5])
      have hA : LoopAt (NX (H5.length :: b2 :: X)) H6 b2 H5.length n 0 r5 := .inl ⟨[], r5, rfl, rd6, _, hj6, by rw [u8s_length]; simp; omega, u8s_one _, by simp [u8s]⟩
      have hgp := gtr32i 21 true (n : Nat) 0
      replace hgp : binA P .gtr 21 true (.i .i32 (n : Nat)) (.i .i32 0) = some (.b true) := by rw [hgp]; simp; omega
      have eN : (@HEq Int (n : Nat) Int (n : Nat)) := HEq.rfl
      generalize hmi : ((mm + 1 : Nat) : Int) = mi at hs21 hg0
      generalize hmj : ((mm : Nat) : Int) = mj at hs21 hN
      generalize ((kn : Nat) : Int) = ki at c1 hq0 hq1
      generalize ((ln : Nat) : Int) = li at c2 c3 hlnc
      dsimp only [hbLoops, Tryd.f14, Option.getD_some, loopsOf, List.cons_append, List.nil_append, cd0]
      ((repeat with_reducible refine WP.seqs ?_); refine WP.rg ?_)
      ((repeat with_reducible refine WP.seqs ?_); first | refine WP.seq (WP.condT rfl ?_) | refine WP.condT rfl ?_)
      refine WP.skip ?_; repeat (first | with_reducible refine Sq.n ?_ | with_reducible refine Sq.ret ?_ | with_reducible refine Sq.exit ?_ | with_reducible refine Bk.n ?_ | with_reducible refine Bk.ret ?_ | with_reducible refine Bk.exit ?_ | with_reducible refine Bk.ex' (by decide) ?_ | with_reducible refine Lp.ret ?_ | with_reducible refine Lp.exit ?_ | with_reducible refine Lx.exit ?_)
      ((repeat with_reducible refine WP.seqs ?_); first | refine WP.seq (WP.block ?_) | refine WP.block ?_)
      ((repeat with_reducible refine WP.seqs ?_); refine WP.rg ?_)
      ((repeat with_reducible refine WP.seqs ?_); refine WP.rg ?_)
      ((repeat with_reducible refine WP.seqs ?_); first | refine WP.seq (WP.block ?_) | refine WP.block ?_)
      ((repeat with_reducible refine WP.seqs ?_); refine WP.rg ?_)
      ((repeat with_reducible refine WP.seqs ?_); first | refine WP.seq (WP.condF rfl ?_) | refine WP.condF rfl ?_)
      ((repeat with_reducible refine WP.seqs ?_); refine WP.rg ?_)
      ((repeat with_reducible refine WP.seqs ?_); first | refine WP.seq (WP.condT rfl ?_) | refine WP.condT rfl ?_)
      ((repeat with_reducible refine WP.seqs ?_); refine WP.rg ?_)
      ((repeat with_reducible refine WP.seqs ?_); refine WP.rg ?_)
      ((repeat with_reducible refine WP.seqs ?_); refine WP.rg ?_)
      ((repeat with_reducible refine WP.seqs ?_); refine WP.rg ?_)
      ((repeat with_reducible refine WP.seqs ?_); refine WP.rg ?_)
      ((repeat with_reducible refine WP.seqs ?_); first | refine WP.seq (WP.condT rfl ?_) | refine WP.condT rfl ?_)
      refine WP.re ?_; repeat (first | with_reducible refine Sq.n ?_ | with_reducible refine Sq.ret ?_ | with_reducible refine Sq.exit ?_ | with_reducible refine Bk.n ?_ | with_reducible refine Bk.ret ?_ | with_reducible refine Bk.exit ?_ | with_reducible refine Bk.ex' (by decide) ?_ | with_reducible refine Lp.ret ?_ | with_reducible refine Lp.exit ?_ | with_reducible refine Lx.exit ?_)
      ((repeat with_reducible refine WP.seqs ?_); refine WP.rg ?_)
      ((repeat with_reducible refine WP.seqs ?_); first | refine WP.seq (WP.condF rfl ?_) | refine WP.condF rfl ?_)
      refine WP.skip ?_; repeat (first | with_reducible refine Sq.n ?_ | with_reducible refine Sq.ret ?_ | with_reducible refine Sq.exit ?_ | with_reducible refine Bk.n ?_ | with_reducible refine Bk.ret ?_ | with_reducible refine Bk.exit ?_ | with_reducible refine Bk.ex' (by decide) ?_ | with_reducible refine Lp.ret ?_ | with_reducible refine Lp.exit ?_ | with_reducible refine Lx.exit ?_)
      ((repeat with_reducible refine WP.seqs ?_); refine WP.rg ?_)
      ((repeat with_reducible refine WP.seqs ?_); first | refine WP.seq (WP.condF rfl ?_) | refine WP.condF rfl ?_)
      refine WP.skip ?_; repeat (first | with_reducible refine Sq.n ?_ | with_reducible refine Sq.ret ?_ | with_reducible refine Sq.exit ?_ | with_reducible refine Bk.n ?_ | with_reducible refine Bk.ret ?_ | with_reducible refine Bk.exit ?_ | with_reducible refine Bk.ex' (by decide) ?_ | with_reducible refine Lp.ret ?_ | with_reducible refine Lp.exit ?_ | with_reducible refine Lx.exit ?_)
      ((repeat with_reducible refine WP.seqs ?_); refine WP.rg ?_)
      ((repeat with_reducible refine WP.seqs ?_); refine WP.rg ?_)
      ((repeat with_reducible refine WP.seqs ?_); first | refine WP.seq (WP.condT rfl ?_) | refine WP.condT rfl ?_)
      refine WP.re ?_; repeat (first | with_reducible refine Sq.n ?_ | with_reducible refine Sq.ret ?_ | with_reducible refine Sq.exit ?_ | with_reducible refine Bk.n ?_ | with_reducible refine Bk.ret ?_ | with_reducible refine Bk.exit ?_ | with_reducible refine Bk.ex' (by decide) ?_ | with_reducible refine Lp.ret ?_ | with_reducible refine Lp.exit ?_ | with_reducible refine Lx.exit ?_)
      ((repeat with_reducible refine WP.seqs ?_); refine WP.rg ?_)
      ((repeat with_reducible refine WP.seqs ?_); first | refine WP.seq (WP.block ?_) | refine WP.block ?_)
      refine WP.mono (uuids1 (A := NX (H5.length :: b2 :: X)) (rb := b2) (j := H5.length) (n := n) (bs := r5) (by omega) (by omega) (fun e => e List.mem_cons_self) R6 hA ⟨rfl, rfl, rfl, rfl, rfl, rfl, rfl, rfl, rfl, rfl, rfl, rfl, rfl, rfl⟩) ?_
      rintro x fr' H7 ⟨rfl, ⟨hfl, hf0, hf6, hf7, hf8, hf9, hf10, hf16, hf17, hf25, hf26, hf27, hf28⟩, hA7, R7, le7, k7⟩
      obtain ⟨g, rfl⟩ := ex180 _ hfl; replace hf0 : g 0 = _ := Option.some.inj hf0; replace hf6 : g 6 = _ := Option.some.inj hf6; replace hf7 : g 7 = _ := Option.some.inj hf7; replace hf8 : g 8 = _ := Option.some.inj hf8; replace hf9 : g 9 = _ := Option.some.inj hf9; replace hf10 : g 10 = _ := Option.some.inj hf10; replace hf16 : g 16 = _ := Option.some.inj hf16; replace hf17 : g 17 = _ := Option.some.inj hf17; replace hf25 : g 25 = _ := Option.some.inj hf25; replace hf26 : g 26 = _ := Option.some.inj hf26; replace hf27 : g 27 = _ := Option.some.inj hf27; replace hf28 : g 28 = _ := Option.some.inj hf28; rw [hf0, hf6, hf7, hf8, hf9, hf10, hf16, hf17, hf25, hf26, hf27, hf28]; clear hfl hf0 hf6 hf7 hf8 hf9 hf10 hf16 hf17 hf25 hf26 hf27 hf28
      repeat (first | with_reducible refine Sq.n ?_ | with_reducible refine Sq.ret ?_ | with_reducible refine Sq.exit ?_ | with_reducible refine Bk.n ?_ | with_reducible refine Bk.ret ?_ | with_reducible refine Bk.exit ?_ | with_reducible refine Bk.ex' (by decide) ?_ | with_reducible refine Lp.ret ?_ | with_reducible refine Lp.exit ?_ | with_reducible refine Lx.exit ?_)
      have h7b : H7[sb]? = some (.cells 43 .vr (hd ++ [o, k, m])) := k7 _ _ (by omega) (by omega) (hk6' _ _ hosb h5b)
      have hst8 : storeA P H7 38 (.p sb 7) (.sl H5.length 0 n) = _ := stc h7b zUs (by simp [h6]) rfl rfl
      rw [hov] at hst8
      have hsb7 := (List.getElem?_eq_some_iff.1 h7b).1
      have hset : ∀ (i : Nat) (b : Blk), i ≠ sb → H7[i]? = some b → (H7.set sb (.cells 43 .vr (hd ++ [o, .sl H5.length 0 n, m])))[i]? = some b := fun i b hi x => by rw [List.getElem?_set_ne (Ne.symm hi)]; exact x
      have h8b : (H7.set sb (.cells 43 .vr (hd ++ [o, .sl H5.length 0 n, m])))[sb]? = some (.cells 43 .vr (hd ++ [o, .sl H5.length 0 n, m])) := by rw [List.getElem?_set_self hsb7]
      have h8l : (H7.set sb (.cells 43 .vr (hd ++ [o, .sl H5.length 0 n, m]))).length = H7.length := by simp
      generalize (H7.set sb (.cells 43 .vr (hd ++ [o, .sl H5.length 0 n, m]))) = H8 at *
      have kt78 : KT (NX (H5.length :: b2 :: X)) H7 (NX (H5.length :: b2 :: X)) H8 := ⟨by omega, fun i b a x => ⟨a, hset i b (fun e => a (by rw [e]; exact List.mem_cons_of_mem _ h5s.sx)) x⟩⟩
      have R8 : Room (NX (H5.length :: b2 :: X)) H8 b2 := R7.keep kt78.keep
      rcases hA7 with ⟨us, r7, hm7, rd7, hz7⟩ | ⟨hm7, rd7, hrow7⟩
      · obtain ⟨src7, bad7, hb7, _, _⟩ := RdAt.cell rd7
        have rd8 : RdAt (NX (H5.length :: b2 :: X)) tR H8 b2 true (some r7) := rdAt_kt rd7 kt78 (by rw [hset _ _ (by omega) hb7, hb7])
        have cdone := rddone.run _ _ _ _ _ R8 rd8
        simp only [Option.isSome_some, if_true] at cdone
        have hne := neqN
        rw [hdu, hm7] at hml hspan
        obtain ⟨r3, hr3⟩ := hspan (by simp)
        have hul := (many16_len n hm7).1
        have hfin : HbSt H0 rb sb hd (H5.length :: b2 :: X) H8 st3 { s with k := some us } o (.sl H5.length 0 n) m := h5s.setK (fun x hx => List.mem_cons_of_mem _ hx) (fun x hx => by
            rcases List.mem_cons.1 hx with rfl | hx
            · exact .inr ⟨Nat.le_refl _, by omega⟩
            · exact .inl hx) (by omega) (fun i b h1 h2 x => by
            by_cases hib : i = b2
            · subst hib
              rw [hb5] at x; cases x
              exact .inr ⟨List.mem_cons_self, by omega, _, rfl⟩
            · have hil := (List.getElem?_eq_some_iff.1 x).1
              exact .inl (hset i b h2 (k7 i b hib (by omega) (hk6' i b h1 x)))) h8b (.inr ⟨H5.length, by rw [hul], by simp, by omega, by omega, by omega, (hz7.row hul).mono fun b x => hset _ b (by omega) x⟩) (fun i l i' l' e1 e2 => by
            cases e2
            have := hkl _ _ e1
            omega) hold hx5
        ((repeat with_reducible refine WP.seqs ?_); refine WP.rg ?_)
        ((repeat with_reducible refine WP.seqs ?_); refine WP.rg ?_)
        ((repeat with_reducible refine WP.seqs ?_); refine WP.rg ?_)
        ((repeat with_reducible refine WP.seqs ?_); refine WP.rg ?_)
        ((repeat with_reducible refine WP.seqs ?_); first | refine WP.seq (WP.condF rfl ?_) | refine WP.condF rfl ?_)
        refine WP.skip ?_; repeat (first | with_reducible refine Sq.n ?_ | with_reducible refine Sq.ret ?_ | with_reducible refine Sq.exit ?_ | with_reducible refine Bk.n ?_ | with_reducible refine Bk.ret ?_ | with_reducible refine Bk.exit ?_ | with_reducible refine Bk.ex' (by decide) ?_ | with_reducible refine Lp.ret ?_ | with_reducible refine Lp.exit ?_ | with_reducible refine Lx.exit ?_)
        refine WP.re ?_; repeat (first | with_reducible refine Sq.n ?_ | with_reducible refine Sq.ret ?_ | with_reducible refine Sq.exit ?_ | with_reducible refine Bk.n ?_ | with_reducible refine Bk.ret ?_ | with_reducible refine Bk.exit ?_ | with_reducible refine Bk.ex' (by decide) ?_ | with_reducible refine Lp.ret ?_ | with_reducible refine Lp.exit ?_ | with_reducible refine Lx.exit ?_)
        refine Lp.n (hN _ _ _ _ _ _ _ _ ⟨rfl, rfl, rfl, rfl, rfl, rfl, rfl, rfl⟩ hfin ?_ hbd3)
        rw [hml]; rfl
      · obtain ⟨src7, bad7, hb7, _, _⟩ := RdAt.cell rd7
        have rd8 : RdAt (NX (H5.length :: b2 :: X)) tR H8 b2 true none := rdAt_kt rd7 kt78 (by rw [hset _ _ (by omega) hb7, hb7])
        have cdone := rddone.run _ _ _ _ _ R8 rd8
        simp only [Option.isSome_none, Bool.false_eq_true, if_false] at cdone
        have hne := neqE
        rw [hdu, hm7] at hml
        ((repeat with_reducible refine WP.seqs ?_); refine WP.rg ?_)
        ((repeat with_reducible refine WP.seqs ?_); refine WP.rg ?_)
        ((repeat with_reducible refine WP.seqs ?_); refine WP.rg ?_)
        ((repeat with_reducible refine WP.seqs ?_); refine WP.rg ?_)
        ((repeat with_reducible refine WP.seqs ?_); first | refine WP.seq (WP.condT rfl ?_) | refine WP.condT rfl ?_)
        ((repeat with_reducible refine WP.seqs ?_); refine WP.rg ?_)
        refine WP.ret ?_; repeat (first | with_reducible refine Sq.n ?_ | with_reducible refine Sq.ret ?_ | with_reducible refine Sq.exit ?_ | with_reducible refine Bk.n ?_ | with_reducible refine Bk.ret ?_ | with_reducible refine Bk.exit ?_ | with_reducible refine Bk.ex' (by decide) ?_ | with_reducible refine Lp.ret ?_ | with_reducible refine Lp.exit ?_ | with_reducible refine Lx.exit ?_)
        exact hE _ _ rfl rfl hml
    · have hdu : decUs hdB = some (l, []) := by unfold decUs; rw [hrl]; simp [show l.toNat = 0 by omega, many16]
      have hgp := gtr32i 21 true l 0
      replace hgp : binA P .gtr 21 true (.i .i32 l) (.i .i32 0) = some (.b false) := by rw [hgp]; simp; omega
      have hlp := lss32 21 false 0 l
      replace hlp : binA P .lss 21 false (.i .i32 0) (.i .i32 l) = some (.b false) := by rw [hlp]; simp; omega
      have ha1 : a0.cells = [a0] ∧ a0.one = true := by
        rcases ha0 with ⟨rfl | rfl, rfl⟩ | ⟨i, _, _, rfl, _⟩ <;> exact ⟨rfl, rfl⟩
      have hst8 : storeA P H5 38 (.p sb 7) a0 = _ := stc h5b zUs (by simp [h6]) ha1.1 ha1.2
      rw [hov] at hst8
      have hset : ∀ (i : Nat) (b : Blk), i ≠ sb → H5[i]? = some b → (H5.set sb (.cells 43 .vr (hd ++ [o, a0, m])))[i]? = some b := fun i b hi x => by rw [List.getElem?_set_ne (Ne.symm hi)]; exact x
      have h8b : (H5.set sb (.cells 43 .vr (hd ++ [o, a0, m])))[sb]? = some (.cells 43 .vr (hd ++ [o, a0, m])) := by rw [List.getElem?_set_self hsbl]
      have h8l : (H5.set sb (.cells 43 .vr (hd ++ [o, a0, m]))).length = H5.length := by simp
      generalize (H5.set sb (.cells 43 .vr (hd ++ [o, a0, m]))) = H8 at *
      have kt78 : KT (NX (b2 :: X)) H5 (NX (b2 :: X)) H8 := ⟨by omega, fun i b a x => ⟨a, hset i b (fun e => a (by rw [e]; exact h5s.sx)) x⟩⟩
      have R8 : Room (NX (b2 :: X)) H8 b2 := R5.keep kt78.keep
      have rd8 : RdAt (NX (b2 :: X)) tR H8 b2 true (some r5) := rdAt_kt rd5 kt78 (by rw [hset _ _ (by omega) hb5, hb5])
      have cdone := rddone.run _ _ _ _ _ R8 rd8
      simp only [Option.isSome_some, if_true] at cdone
      have hne := neqN
      rw [hdu] at hml hspan
      obtain ⟨r3, hr3⟩ := hspan (by simp)
      have hneg : l < 0 := by omega
      have hfin : HbSt H0 rb sb hd (b2 :: X) H8 st3 { s with k := if l < 0 ∧ s.k.isNone = true then none else some [] } o a0 m := h5s.setK (fun x hx => hx) (fun x hx => .inl hx) (by omega) (fun i b h1 h2 x => .inl (hset i b h2 x)) h8b (by
          rcases ha0 with ⟨h, rfl⟩ | ⟨i, _, e1, rfl, e2, q1, q2, q3, q4, q5⟩
          · rcases hkc with ⟨_, hiff⟩ | ⟨us, hs, i, e, _⟩
            · rcases h with rfl | rfl
              · have hs := hiff.1 rfl
                rw [hs, if_pos ⟨hneg, rfl⟩]; exact rfl
              · have hs : s.k ≠ none := fun e => by have := hiff.2 e; cases this
                have : s.k.isNone = false := by cases hq : s.k with
                  | none => exact absurd hq hs
                  | some _ => rfl
                rw [this, if_neg (by simp)]; exact .inl ⟨rfl, rfl⟩
            · rcases h with rfl | rfl <;> cases e
          · rw [e2, if_neg (by simp)]
            exact .inr ⟨i, rfl, q1, q2, q3, q4, q5.mono fun b x => hset _ b q4 x⟩) (fun i l i' l' e1 e2 => by
          rcases ha0 with ⟨_, rfl⟩ | ⟨i0, _, e3, rfl, _⟩
          · exact h5s.ap _ _ _ _ e1 e2
          · cases e2; exact h5s.ap _ _ _ _ e1 e3) hold hx5
      generalize hmi : ((mm + 1 : Nat) : Int) = mi at hs21 hg0
      generalize hmj : ((mm : Nat) : Int) = mj at hs21 hN
      generalize ((kn : Nat) : Int) = ki at c1 hq0 hq1
      generalize ((ln : Nat) : Int) = li at c2 c3 hlnc
      dsimp only [hbLoops, Tryd.f14, Option.getD_some, loopsOf, List.cons_append, List.nil_append, cd0]
      ((repeat with_reducible refine WP.seqs ?_); refine WP.rg ?_)
      ((repeat with_reducible refine WP.seqs ?_); first | refine WP.seq (WP.condT rfl ?_) | refine WP.condT rfl ?_)
      refine WP.skip ?_; repeat (first | with_reducible refine Sq.n ?_ | with_reducible refine Sq.ret ?_ | with_reducible refine Sq.exit ?_ | with_reducible refine Bk.n ?_ | with_reducible refine Bk.ret ?_ | with_reducible refine Bk.exit ?_ | with_reducible refine Bk.ex' (by decide) ?_ | with_reducible refine Lp.ret ?_ | with_reducible refine Lp.exit ?_ | with_reducible refine Lx.exit ?_)
      ((repeat with_reducible refine WP.seqs ?_); first | refine WP.seq (WP.block ?_) | refine WP.block ?_)
      ((repeat with_reducible refine WP.seqs ?_); refine WP.rg ?_)
      ((repeat with_reducible refine WP.seqs ?_); refine WP.rg ?_)
      ((repeat with_reducible refine WP.seqs ?_); first | refine WP.seq (WP.block ?_) | refine WP.block ?_)
      ((repeat with_reducible refine WP.seqs ?_); refine WP.rg ?_)
      ((repeat with_reducible refine WP.seqs ?_); first | refine WP.seq (WP.condF rfl ?_) | refine WP.condF rfl ?_)
      ((repeat with_reducible refine WP.seqs ?_); refine WP.rg ?_)
      ((repeat with_reducible refine WP.seqs ?_); first | refine WP.seq (WP.condT rfl ?_) | refine WP.condT rfl ?_)
      ((repeat with_reducible refine WP.seqs ?_); refine WP.rg ?_)
      ((repeat with_reducible refine WP.seqs ?_); refine WP.rg ?_)
      ((repeat with_reducible refine WP.seqs ?_); refine WP.rg ?_)
      ((repeat with_reducible refine WP.seqs ?_); refine WP.rg ?_)
      ((repeat with_reducible refine WP.seqs ?_); refine WP.rg ?_)
      ((repeat with_reducible refine WP.seqs ?_); first | refine WP.seq (WP.condT rfl ?_) | refine WP.condT rfl ?_)
      refine WP.re ?_; repeat (first | with_reducible refine Sq.n ?_ | with_reducible refine Sq.ret ?_ | with_reducible refine Sq.exit ?_ | with_reducible refine Bk.n ?_ | with_reducible refine Bk.ret ?_ | with_reducible refine Bk.exit ?_ | with_reducible refine Bk.ex' (by decide) ?_ | with_reducible refine Lp.ret ?_ | with_reducible refine Lp.exit ?_ | with_reducible refine Lx.exit ?_)
      ((repeat with_reducible refine WP.seqs ?_); refine WP.rg ?_)
      ((repeat with_reducible refine WP.seqs ?_); first | refine WP.seq (WP.condF rfl ?_) | refine WP.condF rfl ?_)
      refine WP.skip ?_; repeat (first | with_reducible refine Sq.n ?_ | with_reducible refine Sq.ret ?_ | with_reducible refine Sq.exit ?_ | with_reducible refine Bk.n ?_ | with_reducible refine Bk.ret ?_ | with_reducible refine Bk.exit ?_ | with_reducible refine Bk.ex' (by decide) ?_ | with_reducible refine Lp.ret ?_ | with_reducible refine Lp.exit ?_ | with_reducible refine Lx.exit ?_)
      ((repeat with_reducible refine WP.seqs ?_); refine WP.rg ?_)
      ((repeat with_reducible refine WP.seqs ?_); first | refine WP.seq (WP.condF rfl ?_) | refine WP.condF rfl ?_)
      refine WP.skip ?_; repeat (first | with_reducible refine Sq.n ?_ | with_reducible refine Sq.ret ?_ | with_reducible refine Sq.exit ?_ | with_reducible refine Bk.n ?_ | with_reducible refine Bk.ret ?_ | with_reducible refine Bk.exit ?_ | with_reducible refine Bk.ex' (by decide) ?_ | with_reducible refine Lp.ret ?_ | with_reducible refine Lp.exit ?_ | with_reducible refine Lx.exit ?_)
      ((repeat with_reducible refine WP.seqs ?_); refine WP.rg ?_)
      ((repeat with_reducible refine WP.seqs ?_); refine WP.rg ?_)
      ((repeat with_reducible refine WP.seqs ?_); first | refine WP.seq (WP.condF rfl ?_) | refine WP.condF rfl ?_)
      refine WP.skip ?_; repeat (first | with_reducible refine Sq.n ?_ | with_reducible refine Sq.ret ?_ | with_reducible refine Sq.exit ?_ | with_reducible refine Bk.n ?_ | with_reducible refine Bk.ret ?_ | with_reducible refine Bk.exit ?_ | with_reducible refine Bk.ex' (by decide) ?_ | with_reducible refine Lp.ret ?_ | with_reducible refine Lp.exit ?_ | with_reducible refine Lx.exit ?_)
      ((repeat with_reducible refine WP.seqs ?_); refine WP.rg ?_)
      ((repeat with_reducible refine WP.seqs ?_); first | refine WP.seq (WP.block ?_) | refine WP.block ?_)
      refine WP.loop0 ?_
      ((repeat with_reducible refine WP.seqs ?_); refine WP.rg ?_)
      ((repeat with_reducible refine WP.seqs ?_); first | refine WP.seq (WP.condF rfl ?_) | refine WP.condF rfl ?_)
      refine WP.exit ?_; repeat (first | with_reducible refine Sq.n ?_ | with_reducible refine Sq.ret ?_ | with_reducible refine Sq.exit ?_ | with_reducible refine Bk.n ?_ | with_reducible refine Bk.ret ?_ | with_reducible refine Bk.exit ?_ | with_reducible refine Bk.ex' (by decide) ?_ | with_reducible refine Lp.ret ?_ | with_reducible refine Lp.exit ?_ | with_reducible refine Lx.exit ?_)
      ((repeat with_reducible refine WP.seqs ?_); refine WP.rg ?_)
      ((repeat with_reducible refine WP.seqs ?_); refine WP.rg ?_)
      ((repeat with_reducible refine WP.seqs ?_); refine WP.rg ?_)
      ((repeat with_reducible refine WP.seqs ?_); refine WP.rg ?_)
      ((repeat with_reducible refine WP.seqs ?_); first | refine WP.seq (WP.condF rfl ?_) | refine WP.condF rfl ?_)
      refine WP.skip ?_; repeat (first | with_reducible refine Sq.n ?_ | with_reducible refine Sq.ret ?_ | with_reducible refine Sq.exit ?_ | with_reducible refine Bk.n ?_ | with_reducible refine Bk.ret ?_ | with_reducible refine Bk.exit ?_ | with_reducible refine Bk.ex' (by decide) ?_ | with_reducible refine Lp.ret ?_ | with_reducible refine Lp.exit ?_ | with_reducible refine Lx.exit ?_)
      refine WP.re ?_; repeat (first | with_reducible refine Sq.n ?_ | with_reducible refine Sq.ret ?_ | with_reducible refine Sq.exit ?_ | with_reducible refine Bk.n ?_ | with_reducible refine Bk.ret ?_ | with_reducible refine Bk.exit ?_ | with_reducible refine Bk.ex' (by decide) ?_ | with_reducible refine Lp.ret ?_ | with_reducible refine Lp.exit ?_ | with_reducible refine Lx.exit ?_)
      refine Lp.n (hN _ _ _ _ _ _ _ _ ⟨rfl, rfl, rfl, rfl, rfl, rfl, rfl, rfl⟩ hfin ?_ hbd3)
      rw [hml]; rfl
end Go.Proofs.YtiifcfngbbhgoagDoor.Rd

