/-
  BrokerHeartbeatRequest: A ROUND WITH AN UNKNOWN TAG; the loop over tags.
-/
import Derived.Test.YtiifcfngbbhgoagDoorQHbCase1
set_option linter.constructorNameAsVariable false
set_option linter.unusedVariables false
set_option linter.unusedSimpArgs false
namespace Go.Proofs.YtiifcfngbbhgoagDoor.Rd
open Go Go.Proofs.YtiifcfngbbhgoagDoor.Ax Go.Proofs.YtiifcfngbbhgoagDoor.Wire
set_option maxRecDepth 100000
set_option maxHeartbeats 4000000
theorem roundU {H0 : Heap} {rb sb : Nat} {hd : List AV} {X : List Nat} {H H1 : Heap} {st st1 : Option B} {s : Hs} {o k m : AV} {mm kn : Nat} {ver : Int} {fr : List AV} {Q : Ends} {I : List AV → Heap → Prop}
    (h6 : hd.length = 6) (hmm : mm + 1 < 4294967296) (hbd : ∀ r, st = some r → r.length ≤ 100000) (h1s : HbSt H0 rb sb hd X H1 st1 s o k m) (hk0 : kn ≠ 0) (hk1 : kn ≠ 1) (hk32 : kn < 4294967296)
    (c1 : CA P NS 29 [.p rb 0] H (.i .u32 (kn : Nat), H1)) (m1 : match st.bind rdVi with | none => st1 = none ∧ ((kn : Nat) : Int) = 0 | some (v, r) => st1 = some r ∧ ((kn : Nat) : Int) = v)
    (hfr : (fr.length = 180 ∧ fr[0]? = some (.p sb 0) ∧ fr[6]? = some (.n) ∧ fr[7]? = some (.p rb 0) ∧ fr[8]? = some (.i .i16 ver) ∧ fr[9]? = some (.b true) ∧ fr[10]? = some (.p sb 0) ∧ fr[16]? = some (.i .u32 ((mm + 1 : Nat) : Int))))
    (hN : ∀ fr' H' X' st' s' o' k' m', (fr'.length = 180 ∧ fr'[0]? = some (.p sb 0) ∧ fr'[6]? = some (.n) ∧ fr'[7]? = some (.p rb 0) ∧ fr'[8]? = some (.i .i16 ver) ∧ fr'[9]? = some (.b true) ∧ fr'[10]? = some (.p sb 0) ∧ fr'[16]? = some (.i .u32 (mm : Nat))) → HbSt H0 rb sb hd X' H' st' s' o' k' m' → (st.bind fun r => decG (mm + 1) s r) = (st'.bind fun r => decG mm s' r) → (∀ r, st' = some r → r.length ≤ 100000) → I fr' H') :
    WP NS (cd0 hbLoops) fr H (Lp Q I) := by
  obtain ⟨hfl, hf0, hf6, hf7, hf8, hf9, hf10, hf16⟩ := hfr
  obtain ⟨g, rfl⟩ := ex180 _ hfl; replace hf0 : g 0 = _ := Option.some.inj hf0; replace hf6 : g 6 = _ := Option.some.inj hf6; replace hf7 : g 7 = _ := Option.some.inj hf7; replace hf8 : g 8 = _ := Option.some.inj hf8; replace hf9 : g 9 = _ := Option.some.inj hf9; replace hf10 : g 10 = _ := Option.some.inj hf10; replace hf16 : g 16 = _ := Option.some.inj hf16; rw [hf0, hf6, hf7, hf8, hf9, hf10, hf16]; clear hfl hf0 hf6 hf7 hf8 hf9 hf10 hf16
  obtain ⟨ln, H2, hdB, av, H3, st3, c2, hln, c3, h3s, hbv, hl0, hl3, hbd3, hD0, hD1⟩ := tag3 h1s m1 hbd (mm := mm)
  obtain ⟨H4, m', X', c4, h4s⟩ := h3s.setM h6 hk32 hbv (by omega)
  have hlnc := conv32_64 ln hln
  have hq0 : binA P .eql 49 true (.i .u32 (kn : Nat)) (.i .u32 0) = some (.b false) := by rw [eqU32]; simp; omega
  have hq1 : binA P .eql 49 true (.i .u32 (kn : Nat)) (.i .u32 1) = some (.b false) := by rw [eqU32]; simp; omega
  have xf : fieldAddrA P 43 (.p sb 0) 8 = some (.p sb 8) := by kernel_rfl
  have hs21 := sub32 mm hmm true
  have hg0 := gtr32 (mm + 1) true
  rw [decide_eq_true (by omega)] at hg0
  have hml : (st.bind fun r => decG (mm + 1) s r) = (st3.bind fun r3 => decG mm { s with ts := put kn hdB s.ts } r3) := by
    cases h3 : st3 with
    | none => rw [hD0 h3]; rfl
    | some r3 =>
      rw [hD1 r3 h3]
      unfold stepU
      rw [if_neg hk0, if_neg hk1]
      rfl
  generalize hmi : ((mm + 1 : Nat) : Int) = mi at hs21 hg0
  generalize hmj : ((mm : Nat) : Int) = mj at hs21 hN
  generalize ((kn : Nat) : Int) = ki at c1 hq0 hq1 c4
  generalize ((ln : Nat) : Int) = li at c2 c3 hlnc
  obtain ⟨n2, c2⟩ := c2
  obtain ⟨n3, c3⟩ := c3
  obtain ⟨n4, c4⟩ := c4
  dsimp only [hbLoops, Tryd.f14, Option.getD_some, loopsOf, List.cons_append, List.nil_append, cd0]
  ((repeat with_reducible refine WP.seqs ?_); refine WP.rg ?_)
  ((repeat with_reducible refine WP.seqs ?_); first | refine WP.seq (WP.condT rfl ?_) | refine WP.condT rfl ?_)
  refine WP.skip ?_; repeat (first | with_reducible refine Sq.n ?_ | with_reducible refine Sq.ret ?_ | with_reducible refine Sq.exit ?_ | with_reducible refine Bk.n ?_ | with_reducible refine Bk.ret ?_ | with_reducible refine Bk.exit ?_ | with_reducible refine Bk.ex' (by decide) ?_ | with_reducible refine Lp.ret ?_ | with_reducible refine Lp.exit ?_ | with_reducible refine Lx.exit ?_)
  ((repeat with_reducible refine WP.seqs ?_); first | refine WP.seq (WP.block ?_) | refine WP.block ?_)
  ((repeat with_reducible refine WP.seqs ?_); refine WP.rg ?_)
  ((repeat with_reducible refine WP.seqs ?_); refine WP.rg ?_)
  ((repeat with_reducible refine WP.seqs ?_); first | refine WP.seq (WP.block ?_) | refine WP.block ?_)
  ((repeat with_reducible refine WP.seqs ?_); refine WP.rg ?_)
  ((repeat with_reducible refine WP.seqs ?_); first | refine WP.seq (WP.condF rfl ?_) | refine WP.condF rfl ?_)
  ((repeat with_reducible refine WP.seqs ?_); refine WP.rg ?_)
  ((repeat with_reducible refine WP.seqs ?_); first | refine WP.seq (WP.condF rfl ?_) | refine WP.condF rfl ?_)
  refine WP.rSe (fun _ => True) (n0 := max n2 (max n3 n4)) trivial ?_
  apply Exists.intro; apply Exists.intro; apply And.intro
  · intro n hn
    have c2 := c2 n (by omega)
    have c3 := c3 n (by omega)
    have c4 := c4 n (by omega)
    have rT : True := trivial
    (refine OpsP.pu rfl rfl (fun H2 hk => by exact ⟨_, opy⟩) ?_; dsimp only [AV.cells, putA, List.set_cons_zero, List.set_cons_succ])
    (refine OpsP.pu rfl rfl (fun H2 hk => by exact ⟨_, opy⟩) ?_; dsimp only [AV.cells, putA, List.set_cons_zero, List.set_cons_succ])
    (refine OpsP.pu rfl rfl (fun H2 hk => by exact ⟨_, opy⟩) ?_; dsimp only [AV.cells, putA, List.set_cons_zero, List.set_cons_succ])
    (refine OpsP.pu rfl rfl (fun H2 hk => by exact ⟨_, opy⟩) ?_; dsimp only [AV.cells, putA, List.set_cons_zero, List.set_cons_succ])
    (refine OpsP.cl rfl rfl ?_; dsimp only [AV.cells, putA, List.set_cons_zero, List.set_cons_succ])
    (refine OpsP.pu rfl rfl (fun H2 hk => by exact ⟨_, opy⟩) ?_; dsimp only [AV.cells, putA, List.set_cons_zero, List.set_cons_succ])
    (refine OpsP.cl rfl rfl ?_; dsimp only [AV.cells, putA, List.set_cons_zero, List.set_cons_succ])
    (refine OpsP.cl rfl rfl ?_; dsimp only [AV.cells, putA, List.set_cons_zero, List.set_cons_succ])
    exact OpsP.nil
  repeat (first | with_reducible refine Sq.n ?_ | with_reducible refine Sq.ret ?_ | with_reducible refine Sq.exit ?_ | with_reducible refine Bk.n ?_ | with_reducible refine Bk.ret ?_ | with_reducible refine Bk.exit ?_ | with_reducible refine Bk.ex' (by decide) ?_ | with_reducible refine Lp.ret ?_ | with_reducible refine Lp.exit ?_ | with_reducible refine Lx.exit ?_)
  refine WP.re ?_; repeat (first | with_reducible refine Sq.n ?_ | with_reducible refine Sq.ret ?_ | with_reducible refine Sq.exit ?_ | with_reducible refine Bk.n ?_ | with_reducible refine Bk.ret ?_ | with_reducible refine Bk.exit ?_ | with_reducible refine Bk.ex' (by decide) ?_ | with_reducible refine Lp.ret ?_ | with_reducible refine Lp.exit ?_ | with_reducible refine Lx.exit ?_)
  refine Lp.n (hN _ _ _ _ _ _ _ _ ⟨rfl, rfl, rfl, rfl, rfl, rfl, rfl, rfl⟩ h4s hml hbd3)
theorem tags_loop {H0 : Heap} {rb sb : Nat} {hd : List AV} (h6 : hd.length = 6) {ver : Int} (hver : 0 ≤ ver) {Q : Ends} {n : Nat} (hn : n < 4294967296) {X : List Nat} {H : Heap} {st : Option B} {s : Hs} {o k m : AV} {fr : List AV}
    (hbd : ∀ r, st = some r → r.length ≤ 100000) (hs : HbSt H0 rb sb hd X H st s o k m)
    (hfr : (fr.length = 180 ∧ fr[0]? = some (.p sb 0) ∧ fr[6]? = some (.n) ∧ fr[7]? = some (.p rb 0) ∧ fr[8]? = some (.i .i16 ver) ∧ fr[9]? = some (.b true) ∧ fr[10]? = some (.p sb 0) ∧ fr[16]? = some (.i .u32 (n : Nat))))
    (hE : ∀ fr' H', fr'.length = 180 → fr'[6]? = some .e → (st.bind fun r => decG n s r) = none → Q .ret fr' H')
    (hX : ∀ fr' H' X' st' s' o' k' m', (fr'.length = 180 ∧ fr'[0]? = some (.p sb 0) ∧ fr'[6]? = some (.n) ∧ fr'[7]? = some (.p rb 0) ∧ fr'[8]? = some (.i .i16 ver) ∧ fr'[9]? = some (.b true) ∧ fr'[10]? = some (.p sb 0)) → HbSt H0 rb sb hd X' H' st' s' o' k' m' → (st.bind fun r => decG n s r) = (st'.map fun r => (s', r)) → Q (.exit 0) fr' H') :
    WP NS (.loop (cd0 hbLoops)) fr H Q := by
  refine WP.loop (Inv := fun j fr' H' => ∃ X' st' s' o' k' m', j ≤ n ∧ (fr'.length = 180 ∧ fr'[0]? = some (.p sb 0) ∧ fr'[6]? = some (.n) ∧ fr'[7]? = some (.p rb 0) ∧ fr'[8]? = some (.i .i16 ver) ∧ fr'[9]? = some (.b true) ∧ fr'[10]? = some (.p sb 0) ∧ fr'[16]? = some (.i .u32 ((n - j : Nat) : Int))) ∧ HbSt H0 rb sb hd X' H' st' s' o' k' m' ∧ (st.bind fun r => decG n s r) = (st'.bind fun r => decG (n - j) s' r) ∧ ∀ r, st' = some r → r.length ≤ 100000) n ?_ n 0 fr H (by omega) ⟨X, st, s, o, k, m, by omega, hfr, hs, by simp, hbd⟩
  clear hs hbd hfr
  intro j fr' H' hj ⟨X', st', s', o', k', m', _, hfr, hs, hl, hbd⟩
  by_cases hjn : j = n
  · subst hjn
    have hg0 := gtr32 (j - j) true
    rw [Nat.sub_self, decide_eq_false (by omega)] at hg0
    rw [Nat.sub_self] at hfr hl
    obtain ⟨hfl, hf0, hf6, hf7, hf8, hf9, hf10, hf16⟩ := hfr
    obtain ⟨g, rfl⟩ := ex180 _ hfl; replace hf0 : g 0 = _ := Option.some.inj hf0; replace hf6 : g 6 = _ := Option.some.inj hf6; replace hf7 : g 7 = _ := Option.some.inj hf7; replace hf8 : g 8 = _ := Option.some.inj hf8; replace hf9 : g 9 = _ := Option.some.inj hf9; replace hf10 : g 10 = _ := Option.some.inj hf10; replace hf16 : g 16 = _ := Option.some.inj hf16; rw [hf0, hf6, hf7, hf8, hf9, hf10, hf16]; clear hfl hf0 hf6 hf7 hf8 hf9 hf10 hf16
    have hl2 : (st.bind fun r => decG j s r) = (st'.map fun r => (s', r)) := by
      rw [hl]; cases st' <;> rfl
    have hz : ((0 : Nat) : Int) = 0 := rfl
    generalize ((0 : Nat) : Int) = zz at hg0
    dsimp only [hbLoops, Tryd.f14, Option.getD_some, loopsOf, List.cons_append, List.nil_append, cd0]
    ((repeat with_reducible refine WP.seqs ?_); refine WP.rg ?_)
    ((repeat with_reducible refine WP.seqs ?_); first | refine WP.seq (WP.condF rfl ?_) | refine WP.condF rfl ?_)
    refine WP.exit ?_; repeat (first | with_reducible refine Sq.n ?_ | with_reducible refine Sq.ret ?_ | with_reducible refine Sq.exit ?_ | with_reducible refine Bk.n ?_ | with_reducible refine Bk.ret ?_ | with_reducible refine Bk.exit ?_ | with_reducible refine Bk.ex' (by decide) ?_ | with_reducible refine Lp.ret ?_ | with_reducible refine Lp.exit ?_ | with_reducible refine Lx.exit ?_)
    exact hX _ _ _ _ _ _ _ _ ⟨rfl, rfl, rfl, rfl, rfl, rfl, rfl⟩ hs hl2
  · obtain ⟨mm, hmm⟩ : ∃ mm, n - j = mm + 1 := ⟨n - j - 1, by omega⟩
    rw [hmm] at hfr hl
    obtain ⟨kq, H1, st1, c1, h1, le1, k1, m1⟩ := num_both rd_uvarint hs.room hs.rd
    obtain ⟨kn, rfl, hkn⟩ := natQ m1
    have h1s := hs.read ⟨le1, k1⟩ h1
    have hNN : ∀ (fr2 : List AV) (H2 : Heap) (X2 : List Nat) (st2 : Option B) (s2 : Hs) (o2 k2 m2 : AV), (fr2.length = 180 ∧ fr2[0]? = some (.p sb 0) ∧ fr2[6]? = some (.n) ∧ fr2[7]? = some (.p rb 0) ∧ fr2[8]? = some (.i .i16 ver) ∧ fr2[9]? = some (.b true) ∧ fr2[10]? = some (.p sb 0) ∧ fr2[16]? = some (.i .u32 (mm : Nat))) → HbSt H0 rb sb hd X2 H2 st2 s2 o2 k2 m2 → (st'.bind fun r => decG (mm + 1) s' r) = (st2.bind fun r => decG mm s2 r) → (∀ r, st2 = some r → r.length ≤ 100000) →
        j < n ∧ ∃ X' st' s' o' k' m', j + 1 ≤ n ∧ (fr2.length = 180 ∧ fr2[0]? = some (.p sb 0) ∧ fr2[6]? = some (.n) ∧ fr2[7]? = some (.p rb 0) ∧ fr2[8]? = some (.i .i16 ver) ∧ fr2[9]? = some (.b true) ∧ fr2[10]? = some (.p sb 0) ∧ fr2[16]? = some (.i .u32 ((n - (j + 1) : Nat) : Int))) ∧ HbSt H0 rb sb hd X' H2 st' s' o' k' m' ∧ (st.bind fun r => decG n s r) = (st'.bind fun r => decG (n - (j + 1)) s' r) ∧ ∀ r, st' = some r → r.length ≤ 100000 := by
      intro fr2 H2 X2 st2 s2 o2 k2 m2 a1 a2 a3 a4
      have e : n - (j + 1) = mm := by omega
      rw [e]
      exact ⟨by omega, X2, st2, s2, o2, k2, m2, by omega, a1, a2, by rw [hl, a3], a4⟩
    have hEE : ∀ (fr2 : List AV) (H2 : Heap), fr2.length = 180 → fr2[6]? = some .e → (st'.bind fun r => decG (mm + 1) s' r) = none → Q .ret fr2 H2 := fun fr2 H2 a1 a2 a3 => hE fr2 H2 a1 a2 (by rw [hl, a3])
    by_cases hk0 : kn = 0
    · exact round0 h6 (by omega) hbd h1s hk0 c1 m1 hfr hEE hNN
    · by_cases hk1 : kn = 1
      · exact round1 h6 (by omega) hbd h1s hk1 hver c1 m1 hfr hEE hNN
      · exact roundU h6 (by omega) hbd h1s hk0 hk1 hkn c1 m1 hfr hNN
end Go.Proofs.YtiifcfngbbhgoagDoor.Rd

namespace Go.Proofs.YtiifcfngbbhgoagDoor.Rd
open Go Go.Proofs.YtiifcfngbbhgoagDoor.Ax Go.Proofs.YtiifcfngbbhgoagDoor.Wire
set_option maxRecDepth 100000
set_option maxHeartbeats 4000000
theorem zHB : zeroA P 43 = some (.g [.i .i16 0, .i .i32 0, .i .i64 0, .i .i64 0, .b false, .b false, .s0, .s0, .m0]) := by kernel_rfl
theorem f0 (sb : Nat) : fieldAddrA P 43 (.p sb 0) 0 = some (.p sb 0) := by kernel_rfl
theorem f1 (sb : Nat) : fieldAddrA P 43 (.p sb 0) 1 = some (.p sb 1) := by kernel_rfl
theorem f2 (sb : Nat) : fieldAddrA P 43 (.p sb 0) 2 = some (.p sb 2) := by kernel_rfl
theorem f3 (sb : Nat) : fieldAddrA P 43 (.p sb 0) 3 = some (.p sb 3) := by kernel_rfl
theorem f4 (sb : Nat) : fieldAddrA P 43 (.p sb 0) 4 = some (.p sb 4) := by kernel_rfl
theorem f5 (sb : Nat) : fieldAddrA P 43 (.p sb 0) 5 = some (.p sb 5) := by kernel_rfl
theorem f6 (sb : Nat) : fieldAddrA P 43 (.p sb 0) 6 = some (.p sb 6) := by kernel_rfl
theorem f7 (sb : Nat) : fieldAddrA P 43 (.p sb 0) 7 = some (.p sb 7) := by kernel_rfl
theorem f8 (sb : Nat) : fieldAddrA P 43 (.p sb 0) 8 = some (.p sb 8) := by kernel_rfl
theorem sI16 : sizeA P 29 = some 1 := by kernel_rfl
theorem sI32 : sizeA P 21 = some 1 := by kernel_rfl
theorem sI64 : sizeA P 2 = some 1 := by kernel_rfl
theorem sBool : sizeA P 4 = some 1 := by kernel_rfl
theorem aI16 : aggA P 29 = some false := by kernel_rfl
theorem aI32 : aggA P 21 = some false := by kernel_rfl
theorem aI64 : aggA P 2 = some false := by kernel_rfl
def dHB (ver : Int) : List AV := [.i .i16 ver, .i .i32 0, .i .i64 (-1), .i .i64 0, .b false, .b false, .s0, .s0, .m0]
theorem set_self {H : Heap} {i : Nat} {b : Blk} (h : H[i]? = some b) : H.set i b = H := by
  apply List.ext_getElem?
  intro j
  by_cases e : i = j
  · subst e; rw [List.getElem?_set_self (List.getElem?_eq_some_iff.1 h).1, h]
  · rw [List.getElem?_set_ne e]
theorem default_x {H : Heap} {sb : Nat} {c0 c1 c2 c3 c4 c5 c6 c7 c8 : AV} (h : H[sb]? = some (.cells 43 .vr [c0, c1, c2, c3, c4, c5, c6, c7, c8])) :
    CA P NS 13 [.p sb 0] H (.t [], H.set sb (.cells 43 .vr [c0, c1, .i .i64 (-1), c3, c4, c5, c6, c7, c8])) := by
  have xf := f2 sb
  have hst : storeA P H 2 (.p sb 2) (.i .i64 (-1)) = some (H.set sb (.cells 43 .vr [c0, c1, .i .i64 (-1), c3, c4, c5, c6, c7, c8])) := stc h sI64 (by simp) rfl rfl
  have key : ∃ v H', CA P NS 13 [.p sb 0] H (v, H') ∧ (v = .t [] ∧ H' = H.set sb (.cells 43 .vr [c0, c1, .i .i64 (-1), c3, c4, c5, c6, c7, c8])) := by
    refine CA.wp (fn := Tryd.f13) (R := fun v H' => v = .t [] ∧ H' = H.set sb (.cells 43 .vr [c0, c1, .i .i64 (-1), c3, c4, c5, c6, c7, c8])) (by kernel_rfl) rfl ?_
    dsimp only [Tryd.f13]
    dsimp only [List.length_cons, List.length_nil, List.cons_append, List.nil_append, Nat.reduceSub, Nat.reduceAdd, List.replicate]
    refine WP.re ?_; repeat (first | with_reducible refine Sq.n ?_ | with_reducible refine Sq.ret ?_ | with_reducible refine Sq.exit ?_ | with_reducible refine Bk.n ?_ | with_reducible refine Bk.ret ?_ | with_reducible refine Bk.exit ?_ | with_reducible refine Bk.ex' (by decide) ?_ | with_reducible refine Lp.ret ?_ | with_reducible refine Lp.exit ?_ | with_reducible refine Lx.exit ?_)
    exact Fe.n rfl ⟨rfl, rfl⟩
  obtain ⟨v, H', c, rfl, rfl⟩ := key
  exact c
theorem setV_x {H : Heap} {sb : Nat} {v : Int} {c0 c1 c2 c3 c4 c5 c6 c7 c8 : AV} (h : H[sb]? = some (.cells 43 .vr [c0, c1, c2, c3, c4, c5, c6, c7, c8])) :
    CA P NS 10 [.p sb 0, .i .i16 v] H (.t [], H.set sb (.cells 43 .vr [.i .i16 v, c1, c2, c3, c4, c5, c6, c7, c8])) := by
  have xf := f0 sb
  have hst : storeA P H 29 (.p sb 0) (.i .i16 v) = some (H.set sb (.cells 43 .vr [.i .i16 v, c1, c2, c3, c4, c5, c6, c7, c8])) := stc h sI16 (by simp) rfl rfl
  have key : ∃ w H', CA P NS 10 [.p sb 0, .i .i16 v] H (w, H') ∧ (w = .t [] ∧ H' = H.set sb (.cells 43 .vr [.i .i16 v, c1, c2, c3, c4, c5, c6, c7, c8])) := by
    refine CA.wp (fn := Tryd.f10) (R := fun w H' => w = .t [] ∧ H' = H.set sb (.cells 43 .vr [.i .i16 v, c1, c2, c3, c4, c5, c6, c7, c8])) (by kernel_rfl) rfl ?_
    dsimp only [Tryd.f10]
    dsimp only [List.length_cons, List.length_nil, List.cons_append, List.nil_append, Nat.reduceSub, Nat.reduceAdd, List.replicate]
    refine WP.re ?_; repeat (first | with_reducible refine Sq.n ?_ | with_reducible refine Sq.ret ?_ | with_reducible refine Sq.exit ?_ | with_reducible refine Bk.n ?_ | with_reducible refine Bk.ret ?_ | with_reducible refine Bk.exit ?_ | with_reducible refine Bk.ex' (by decide) ?_ | with_reducible refine Lp.ret ?_ | with_reducible refine Lp.exit ?_ | with_reducible refine Lx.exit ?_)
    exact Fe.n rfl ⟨rfl, rfl⟩
  obtain ⟨w, H', c, rfl, rfl⟩ := key
  exact c
theorem new_x (H : Heap) : CA P NS 8 [] H (.p H.length 0, H ++ [.cells 43 .vr (dHB 0)]) := by
  have hal : AllocA H 43 (.p H.length 0) (H ++ [.cells 43 .vr [.i .i16 0, .i .i32 0, .i .i64 0, .i .i64 0, .b false, .b false, .s0, .s0, .m0]]) := ⟨_, zHB, rfl, rfl, rfl⟩
  have cd := default_x (H := H ++ [.cells 43 .vr [.i .i16 0, .i .i32 0, .i .i64 0, .i .i64 0, .b false, .b false, .s0, .s0, .m0]]) (sb := H.length) (List.getElem?_concat_length ..)
  have e : (H ++ [Blk.cells 43 .vr [.i .i16 0, .i .i32 0, .i .i64 0, .i .i64 0, .b false, .b false, .s0, .s0, .m0]]).set H.length (.cells 43 .vr [.i .i16 0, .i .i32 0, .i .i64 (-1), .i .i64 0, .b false, .b false, .s0, .s0, .m0]) = H ++ [.cells 43 .vr (dHB 0)] := by
    rw [List.set_append_right _ _ (Nat.le_refl _)]; simp [dHB]
  rw [e] at cd
  have key : ∃ w H', CA P NS 8 [] H (w, H') ∧ (w = .p H.length 0 ∧ H' = H ++ [.cells 43 .vr (dHB 0)]) := by
    refine CA.wp (H := H) (f := 8) (args := []) (fn := Tryd.f8) (R := fun w H' => w = .p H.length 0 ∧ H' = H ++ [.cells 43 .vr (dHB 0)]) (by kernel_rfl) rfl ?_ (NS_none rfl [] H)
    dsimp only [Tryd.f8]
    dsimp only [List.length_cons, List.length_nil, List.cons_append, List.nil_append, Nat.reduceSub, Nat.reduceAdd, List.replicate]
    ((repeat with_reducible refine WP.seqs ?_); refine WP.rg ?_)
    ((repeat with_reducible refine WP.seqs ?_); refine WP.rg ?_)
    ((repeat with_reducible refine WP.seqs ?_); refine WP.rg ?_)
    ((repeat with_reducible refine WP.seqs ?_); refine WP.rg ?_)
    refine WP.ret ?_; repeat (first | with_reducible refine Sq.n ?_ | with_reducible refine Sq.ret ?_ | with_reducible refine Sq.exit ?_ | with_reducible refine Bk.n ?_ | with_reducible refine Bk.ret ?_ | with_reducible refine Bk.exit ?_ | with_reducible refine Bk.ex' (by decide) ?_ | with_reducible refine Lp.ret ?_ | with_reducible refine Lp.exit ?_ | with_reducible refine Lx.exit ?_)
    exact Fe.r1 rfl ⟨rfl, rfl⟩
  obtain ⟨w, H', c, rfl, rfl⟩ := key
  exact c
theorem hbField {f : FuncId} {k : K} (hf : RdV f true k false) (hw : k.wide = 1) {X : List Nat} {H : Heap} {rb sb o : Nat} {nn : Bool} {st : Option B} {t : TypeId} {cs : List AV} (hz : sizeA P t = some 1) (hne : rb ≠ sb) (hsX : sb ∈ X) (hrX : rb ∈ X)
    (R : Room (NX X) H rb) (h : RdAt (NX X) tR H rb nn st) (hb : H[sb]? = some (.cells 43 .vr cs)) (ho : o < cs.length) :
    ∃ av x H1 H2 st1, CA P NS f [.p rb 0] H (av, H1) ∧ storeA P H1 t (.p sb o) av = some H2 ∧ av.cells = [x] ∧ H2[sb]? = some (.cells 43 .vr (over cs [x] o)) ∧ Room (NX X) H2 rb ∧ RdAt (NX X) tR H2 rb true st1 ∧ H.length ≤ H2.length ∧
      (∀ (i : Nat) (b : Blk), i ≠ rb → i ≠ sb → H[i]? = some b → H2[i]? = some b) ∧ (match st.bind (decK true k false) with | none => st1 = none | some (v, r) => st1 = some r ∧ RepK (NX X) H1 k false av v) := by
  obtain ⟨av, H1, st1, c, w, one, r, le, kp, m⟩ := leaf_both hf R h
  rw [hw] at w
  obtain ⟨x, hx⟩ : ∃ x, av.cells = [x] := List.length_eq_one_iff.1 w
  have hb1 := kp _ _ (Ne.symm hne) hb
  have hsl := (List.getElem?_eq_some_iff.1 hb1).1
  have R1 : Room (NX X) H1 rb := R.keep ⟨le, fun i b a e => kp i b (fun q => a (q ▸ hrX)) e⟩
  have kt : KT (NX X) H1 (NX X) (H1.set sb (.cells 43 .vr (over cs [x] o))) := ⟨by simp, fun i b a e => ⟨a, by rw [List.getElem?_set_ne (fun q : sb = i => a (q ▸ hsX))]; exact e⟩⟩
  refine ⟨av, x, H1, _, st1, c, ?_, hx, by rw [List.getElem?_set_self hsl], R1.keep kt.keep, rdAt_kt r kt (by rw [List.getElem?_set_ne (Ne.symm hne)]), by simpa using le, fun i b h1 h2 e => by rw [List.getElem?_set_ne (Ne.symm h2)]; exact kp i b h1 e, m⟩
  simp only [storeA, hb1, hz, hx]
  rw [if_pos ⟨rfl, by simp, by omega, by rw [← hx]; exact one⟩]
theorem hbLeaf {k : K} {f : F} {o : Nat} {A : Nat → Prop} {H : Heap} {av : AV} {st st' : Option B} {D : Option (V × B)} {g : V → V} (h : (st = none ∧ D = none) ∨ ∃ r, st = some r ∧ D = (dec true (.leaf o k false f) r).map fun x => (g x.1, x.2))
    (m : match st.bind (decK true k false) with | none => st' = none | some (v, r) => st' = some r ∧ RepK A H k false av v) :
    (st' = none ∧ D = none) ∨ ∃ v r, st' = some r ∧ RepK A H k false av v ∧ D = (dec true f r).map fun x => (g (.c v x.1), x.2) := by
  rcases h with ⟨rfl, rfl⟩ | ⟨r, rfl, rfl⟩
  · exact .inl ⟨m, rfl⟩
  · simp only [Option.bind_some] at m
    simp only [dec]
    cases hd : decK true k false r with
    | none => rw [hd] at m; exact .inl ⟨m, rfl⟩
    | some x =>
      obtain ⟨v, r'⟩ := x
      rw [hd] at m
      refine .inr ⟨v, r', m.1, m.2, ?_⟩
      simp only [Option.bind_some, Option.map_map]
      rfl
theorem geq16 (t : TypeId) (c : Bool) (a b : Int) : binA P .geq t c (.i .i16 a) (.i .i16 b) = some (.b (decide (a ≥ b))) := by
  simp [binA, binOp, Op.intCmp, ofSem, ofV1]
  rfl
def FinHb (H0 : Heap) (rb sb : Nat) (ver : Int) (H : Heap) (v : V) (s : Hs) : Prop :=
  ∃ X x1 x2 x3 x4 x5 v1 v2 v3 v4 v5 o k m st, v = .c v1 (.c v2 (.c v3 (.c v4 (.c v5 .u)))) ∧ RepK (NX X) H .i32 false x1 v1 ∧ RepK (NX X) H .i64 false x2 v2 ∧ RepK (NX X) H .i64 false x3 v3 ∧ RepK (NX X) H .bool false x4 v4 ∧ RepK (NX X) H .bool false x5 v5 ∧
    HbSt H0 rb sb [.i .i16 ver, x1, x2, x3, x4, x5] X H st s o k m
theorem rep1 {A A' : Nat → Prop} {H H' : Heap} {k : K} {av x : AV} {v : V} (hk : k = .i32 ∨ k = .i64 ∨ k = .bool) (hx : av.cells = [x]) (h : RepK A H k false av v) : RepK A' H' k false x v := by
  rcases hk with rfl | rfl | rfl <;> cases v <;> simp only [RepK] at h ⊢ <;> first | (subst h; simp [AV.cells] at hx; exact hx.symm) | exact h
theorem readFrom_x {H : Heap} {sb : Nat} {ver : Int} (hver : 0 ≤ ver) {src : AV} {bs : B} (hb : H[sb]? = some (.cells 43 .vr (dHB ver))) (hs : BytesAt (fun i => i ≠ sb) H src bs) (hl : bs.length ≤ 100000)
    (hbe : 0 ≠ sb ∧ ∃ ty, H[0]? = some (.cells ty .ro [])) (her : 1 ≠ sb ∧ ∃ ty, H[1]? = some (.cells ty .ro [.e])) :
    ∃ r H', CA P NS 14 [.p sb 0, src, .b false] H (r, H') ∧ ((r = .e ∧ decW bs = none) ∨ ∃ v s, r = .n ∧ decW bs = some (v, s) ∧ FinHb H H.length sb ver H' v s) := by
  have hsl := (List.getElem?_eq_some_iff.1 hb).1
  have cd := default_x (sb := sb) hb
  have e : H.set sb (.cells 43 .vr [.i .i16 ver, .i .i32 0, .i .i64 (-1), .i .i64 0, .b false, .b false, .s0, .s0, .m0]) = H := set_self hb
  rw [e] at cd
  have hzR : zeroA P 56 = some (.g [.s0, .b false]) := by kernel_rfl
  have hsR : sizeA P 56 = some 2 := by kernel_rfl
  have hav := BytesAt.one' hs
  have hal : AllocA H 56 (.p H.length 0) (H ++ [.cells 56 .vr [.s0, .b false]]) := ⟨_, hzR, rfl, rfl, rfl⟩
  have hst4 : storeA P (H ++ [.cells 56 .vr [.s0, .b false]]) 56 (.p H.length 0) (.g [src, .b false]) = some (H ++ [.cells 56 .vr [src, .b false]]) := by
    have h : (H ++ [Blk.cells 56 .vr [.s0, .b false]])[H.length]? = some (.cells 56 .vr [.s0, .b false]) := List.getElem?_concat_length ..
    simp only [storeA, h, hsR]
    have : (AV.b false).one = true := rfl
    rw [if_pos ⟨rfl, rfl, by simp, by simp [AV.cells, hav.2, this]⟩, List.set_append_right _ _ (Nat.le_refl _)]
    simp [over, AV.cells]
  have hbu := build_rd hs
  have k1 : Kp H (H ++ [Blk.cells 56 .vr [src, .b false]]) := Kp.app _ _
  have v1 : (H ++ [Blk.cells 56 .vr [src, .b false]])[H.length]? = some (.cells 56 .vr [src, .b false]) := List.getElem?_concat_length ..
  have l1 : (H ++ [Blk.cells 56 .vr [src, .b false]]).length = H.length + 1 := by simp
  generalize (H ++ [Blk.cells 56 .vr [src, .b false]]) = H1 at *
  have hne : H.length ≠ sb := by omega
  have hgb := (List.getElem?_eq_some_iff.1 hbe.2.choose_spec).1
  have hge := (List.getElem?_eq_some_iff.1 her.2.choose_spec).1
  have R1 : Room (NX [H.length, sb]) H1 H.length := {
    no := fun e => e (by simp)
    new := fun i hi e => by simp at e; omega
    be := ⟨fun e => by simp at e; rcases e with e | e; omega; exact hbe.1 e, hbe.2.elim fun ty x => ⟨ty, k1.at_ x⟩⟩
    err := ⟨fun e => by simp at e; rcases e with e | e; omega; exact her.1 e, her.2.elim fun ty x => ⟨ty, k1.at_ x⟩⟩ }
  have rd1 : RdAt (NX [H.length, sb]) tR H1 H.length false (some bs) := ⟨src, v1, BytesAt.kt hs ⟨by omega, fun i b a x => ⟨fun e => by have := (List.getElem?_eq_some_iff.1 x).1; simp at e; rcases e with e | e; omega; exact a e, k1.at_ x⟩⟩, fun h => by cases h⟩
  have b1 := k1.at_ hb
  obtain ⟨a1, x1, Ha1, H2, st1, c1, s1, e1, b2, R2, rd2, le2, kp2, m1⟩ := hbField (rdv_i32 true false) rfl (o := 1) sI32 hne (by simp) (by simp) R1 rd1 b1 (by simp [dHB])
  obtain ⟨a2, x2, Ha2, H3, st2, c2, s2, e2, b3, R3, rd3, le3, kp3, m2⟩ := hbField (rdv_i64 true false) rfl (o := 2) sI64 hne (by simp) (by simp) R2 rd2 b2 (by simp [dHB, over])
  obtain ⟨a3, x3, Ha3, H4, st3, c3, s3, e3, b4, R4, rd4, le4, kp4, m3⟩ := hbField (rdv_i64 true false) rfl (o := 3) sI64 hne (by simp) (by simp) R3 rd3 b3 (by simp [dHB, over])
  obtain ⟨a4, x4, Ha4, H5, st4, c4, s4, e4, b5, R5, rd5, le5, kp5, m4⟩ := hbField (rdv_bool true false) rfl (o := 4) sBool hne (by simp) (by simp) R4 rd4 b4 (by simp [dHB, over])
  obtain ⟨a5, x5, Ha5, H6, st5, c5, s5, e5, b6, R6, rd6, le6, kp6, m5⟩ := hbField (rdv_bool true false) rfl (o := 5) sBool hne (by simp) (by simp) R5 rd5 b5 (by simp [dHB, over])
  have hcs : over (over (over (over (over (dHB ver) [x1] 1) [x2] 2) [x3] 3) [x4] 4) [x5] 5 = [.i .i16 ver, x1, x2, x3, x4, x5] ++ [.s0, .s0, .m0] := rfl
  rw [hcs] at b6
  have kpA : ∀ (i : Nat) (b : Blk), i ≠ H.length → i ≠ sb → H1[i]? = some b → H6[i]? = some b := fun i b h1 h2 x => kp6 i b h1 h2 (kp5 i b h1 h2 (kp4 i b h1 h2 (kp3 i b h1 h2 (kp2 i b h1 h2 x))))
  have D0 : (some bs = none ∧ dec true fP bs = none) ∨ ∃ r, some bs = some r ∧ dec true fP bs = (dec true (.leaf 1 .i32 false (.leaf 2 .i64 false (.leaf 3 .i64 false (.leaf 4 .bool false (.leaf 5 .bool false .nil))))) r).map fun x => (id x.1, x.2) := .inr ⟨bs, rfl, by show dec true fP bs = (dec true fP bs).map _; cases dec true fP bs <;> rfl⟩
  have hF : (st5 = none ∧ dec true fP bs = none) ∨ ∃ v1 v2 v3 v4 v5 r, st5 = some r ∧ RepK (NX [H.length, sb]) Ha1 .i32 false a1 v1 ∧ RepK (NX [H.length, sb]) Ha2 .i64 false a2 v2 ∧ RepK (NX [H.length, sb]) Ha3 .i64 false a3 v3 ∧ RepK (NX [H.length, sb]) Ha4 .bool false a4 v4 ∧ RepK (NX [H.length, sb]) Ha5 .bool false a5 v5 ∧
      dec true fP bs = some (.c v1 (.c v2 (.c v3 (.c v4 (.c v5 .u)))), r) := by
    rcases hbLeaf (g := id) D0 m1 with ⟨rfl, d⟩ | ⟨v1, r1, h1, q1, d1⟩
    · have z2 : st2 = none := m2
      subst z2
      have z3 : st3 = none := m3
      subst z3
      have z4 : st4 = none := m4
      subst z4
      exact .inl ⟨m5, d⟩
    rcases hbLeaf (g := fun x => .c v1 x) (.inr ⟨r1, h1, d1⟩) m2 with ⟨rfl, d⟩ | ⟨v2, r2, h2, q2, d2⟩
    · have z3 : st3 = none := m3
      subst z3
      have z4 : st4 = none := m4
      subst z4
      exact .inl ⟨m5, d⟩
    rcases hbLeaf (g := fun x => .c v1 (.c v2 x)) (.inr ⟨r2, h2, d2⟩) m3 with ⟨rfl, d⟩ | ⟨v3, r3, h3, q3, d3⟩
    · have z4 : st4 = none := m4
      subst z4
      exact .inl ⟨m5, d⟩
    rcases hbLeaf (g := fun x => .c v1 (.c v2 (.c v3 x))) (.inr ⟨r3, h3, d3⟩) m4 with ⟨rfl, d⟩ | ⟨v4, r4, h4, q4, d4⟩
    · exact .inl ⟨m5, d⟩
    rcases hbLeaf (g := fun x => .c v1 (.c v2 (.c v3 (.c v4 x)))) (.inr ⟨r4, h4, d4⟩) m5 with ⟨h, d⟩ | ⟨v5, r5, h5, q5, d5⟩
    · exact .inl ⟨h, d⟩
    exact .inr ⟨v1, v2, v3, v4, v5, r5, h5, q1, q2, q3, q4, q5, by rw [d5]; rfl⟩
  obtain ⟨nq, H7, st7, c7, rd7, le7, kp7, m7⟩ := num_both rd_uvarint R6 rd6
  obtain ⟨n, rfl, hn⟩ := natQ m7
  have R7 : Room (NX [H.length, sb]) H7 H.length := R6.keep ⟨le7, fun i b a x => kp7 i b (fun q => a (by rw [q]; simp)) x⟩
  have b7 := kp7 _ _ (Ne.symm hne) b6
  have h7s : HbSt H H.length sb [.i .i16 ver, x1, x2, x3, x4, x5] [H.length, sb] H7 st7 ⟨[], none, []⟩ .s0 .s0 .m0 := {
    room := R7, rd := rd7, rx := by simp, sx := by simp, ne := hne, xn := fun x hx => by simp at hx; rcases hx with h | h; exact .inl h; exact .inr (.inl h)
    blk := b7, ou := .inl ⟨rfl, rfl⟩, ku := rfl, mu := ⟨trivial, [], ⟨[], .nil, rfl, fun j k v kk bs h => by cases h⟩, .inl ⟨rfl, rfl⟩⟩, ap := fun i l i' l' e => by cases e
    len := by omega
    keep := fun i hi h1 h2 => by
      have hx : H[i]? = some H[i] := by simp [hi]
      rw [kp7 i _ h1 (kpA i _ h1 h2 (k1.at_ hx)), hx] }
  have hW : (dec true fP bs = none ∧ st7 = none ∧ decW bs = none) ∨ ∃ v r5, dec true fP bs = some (v, r5) ∧ st5 = some r5 ∧ decW bs = (st7.bind fun r => decG n ⟨[], none, []⟩ r).map fun x => (v, x.1) := by
    rcases hF with ⟨h, d⟩ | ⟨v1, v2, v3, v4, v5, r5, h5, _, _, _, _, _, d⟩
    · subst h
      exact .inl ⟨d, m7.1, by unfold decW; rw [d]; rfl⟩
    · refine .inr ⟨_, r5, d, h5, ?_⟩
      unfold decW
      rw [d]
      simp only [Option.bind_some, decH]
      rcases rdVi_some m7 with ⟨rfl, e⟩ | ⟨b0, r, e, rfl, e'⟩
      · rw [h5] at e
        simp only [Option.bind_some] at e
        rw [e]; rfl
      · rw [h5] at e; cases e
        rw [e']
        simp only [Option.bind_some]
        cases decG n ⟨[], none, []⟩ r <;> rfl
  have hbd7 : ∀ r, st7 = some r → r.length ≤ 100000 := fun r hr => by
    rcases hW with ⟨_, h, _⟩ | ⟨v, r5, d, h5, _⟩
    · rw [hr] at h; cases h
    · have := dec_fP d
      rcases rdVi_some m7 with ⟨h, _⟩ | ⟨b0, r', e, h, e'⟩
      · rw [hr] at h; cases h
      · rw [h5] at e; cases e
        rw [hr] at h; cases h
        have := hb_rdV e'
        omega
  have hnone : (st7.bind fun r => decG n ⟨[], none, []⟩ r) = none → decW bs = none := fun h => by
    rcases hW with ⟨_, _, h'⟩ | ⟨v, r5, _, _, e⟩
    · exact h'
    · rw [e, h]; rfl
  have xf0 := f0 sb
  have xf1 := f1 sb
  have xf2 := f2 sb
  have xf3 := f3 sb
  have xf4 := f4 sb
  have xf5 := f5 sb
  have hldv : loadA P H1 29 (.p sb 0) = some (.i .i16 ver) := ldc b1 aI16 rfl
  have hgv := geq16 29 true ver 0
  replace hgv : binA P .geq 29 true (.i .i16 ver) (.i .i16 0) = some (.b true) := by rw [hgv]; simp; omega
  have hnn : ((n : Nat) : Int) = ((n : Nat) : Int) := rfl
  refine CA.wp (fn := Tryd.f14) (R := fun r H' => (r = .e ∧ decW bs = none) ∨ ∃ v s, r = .n ∧ decW bs = some (v, s) ∧ FinHb H H.length sb ver H' v s) (by kernel_rfl) rfl ?_
  dsimp only [Tryd.f14]
  dsimp only [List.length_cons, List.length_nil, List.cons_append, List.nil_append, Nat.reduceSub, Nat.reduceAdd, List.replicate]
  ((repeat with_reducible refine WP.seqs ?_); refine WP.rg ?_)
  ((repeat with_reducible refine WP.seqs ?_); refine WP.rg ?_)
  ((repeat with_reducible refine WP.seqs ?_); refine WP.rg ?_)
  ((repeat with_reducible refine WP.seqs ?_); refine WP.rg ?_)
  ((repeat with_reducible refine WP.seqs ?_); refine WP.rg ?_)
  ((repeat with_reducible refine WP.seqs ?_); refine WP.rg ?_)
  ((repeat with_reducible refine WP.seqs ?_); refine WP.rg ?_)
  ((repeat with_reducible refine WP.seqs ?_); refine WP.rg ?_)
  ((repeat with_reducible refine WP.seqs ?_); refine WP.rg ?_)
  refine WP.re ?_; repeat (first | with_reducible refine Sq.n ?_ | with_reducible refine Sq.ret ?_ | with_reducible refine Sq.exit ?_ | with_reducible refine Bk.n ?_ | with_reducible refine Bk.ret ?_ | with_reducible refine Bk.exit ?_ | with_reducible refine Bk.ex' (by decide) ?_ | with_reducible refine Lp.ret ?_ | with_reducible refine Lp.exit ?_ | with_reducible refine Lx.exit ?_)
  ((repeat with_reducible refine WP.seqs ?_); refine WP.rg ?_)
  refine WP.re ?_; repeat (first | with_reducible refine Sq.n ?_ | with_reducible refine Sq.ret ?_ | with_reducible refine Sq.exit ?_ | with_reducible refine Bk.n ?_ | with_reducible refine Bk.ret ?_ | with_reducible refine Bk.exit ?_ | with_reducible refine Bk.ex' (by decide) ?_ | with_reducible refine Lp.ret ?_ | with_reducible refine Lp.exit ?_ | with_reducible refine Lx.exit ?_)
  ((repeat with_reducible refine WP.seqs ?_); refine WP.rg ?_)
  refine WP.re ?_; repeat (first | with_reducible refine Sq.n ?_ | with_reducible refine Sq.ret ?_ | with_reducible refine Sq.exit ?_ | with_reducible refine Bk.n ?_ | with_reducible refine Bk.ret ?_ | with_reducible refine Bk.exit ?_ | with_reducible refine Bk.ex' (by decide) ?_ | with_reducible refine Lp.ret ?_ | with_reducible refine Lp.exit ?_ | with_reducible refine Lx.exit ?_)
  ((repeat with_reducible refine WP.seqs ?_); refine WP.rg ?_)
  refine WP.re ?_; repeat (first | with_reducible refine Sq.n ?_ | with_reducible refine Sq.ret ?_ | with_reducible refine Sq.exit ?_ | with_reducible refine Bk.n ?_ | with_reducible refine Bk.ret ?_ | with_reducible refine Bk.exit ?_ | with_reducible refine Bk.ex' (by decide) ?_ | with_reducible refine Lp.ret ?_ | with_reducible refine Lp.exit ?_ | with_reducible refine Lx.exit ?_)
  ((repeat with_reducible refine WP.seqs ?_); refine WP.rg ?_)
  refine WP.re ?_; repeat (first | with_reducible refine Sq.n ?_ | with_reducible refine Sq.ret ?_ | with_reducible refine Sq.exit ?_ | with_reducible refine Bk.n ?_ | with_reducible refine Bk.ret ?_ | with_reducible refine Bk.exit ?_ | with_reducible refine Bk.ex' (by decide) ?_ | with_reducible refine Lp.ret ?_ | with_reducible refine Lp.exit ?_ | with_reducible refine Lx.exit ?_)
  ((repeat with_reducible refine WP.seqs ?_); refine WP.rg ?_)
  ((repeat with_reducible refine WP.seqs ?_); first | refine WP.seq (WP.condT rfl ?_) | refine WP.condT rfl ?_)
  ((repeat with_reducible refine WP.seqs ?_); refine WP.rg ?_)
  ((repeat with_reducible refine WP.seqs ?_); first | refine WP.seq (WP.block ?_) | refine WP.block ?_)
  change WP NS (.loop (cd0 hbLoops)) _ _ _
  refine tags_loop rfl hver hn hbd7 h7s ⟨rfl, rfl, rfl, rfl, rfl, rfl, rfl, rfl⟩ ?_ ?_
  · intro fr' H' hl' h6' hno
    repeat (first | with_reducible refine Sq.n ?_ | with_reducible refine Sq.ret ?_ | with_reducible refine Sq.exit ?_ | with_reducible refine Bk.n ?_ | with_reducible refine Bk.ret ?_ | with_reducible refine Bk.exit ?_ | with_reducible refine Bk.ex' (by decide) ?_ | with_reducible refine Lp.ret ?_ | with_reducible refine Lp.exit ?_ | with_reducible refine Lx.exit ?_)
    exact Fe.ret (vs := [.e]) (by simp [resultsA, h6']) (.inl ⟨rfl, hnone hno⟩)
  · intro fr' H' X' st' s' o' k' m' hfr hs' hlk
    obtain ⟨hfl, hf0, hf6, hf7, hf8, hf9, hf10⟩ := hfr
    obtain ⟨g, rfl⟩ := ex180 _ hfl; replace hf0 : g 0 = _ := Option.some.inj hf0; replace hf6 : g 6 = _ := Option.some.inj hf6; replace hf7 : g 7 = _ := Option.some.inj hf7; replace hf8 : g 8 = _ := Option.some.inj hf8; replace hf9 : g 9 = _ := Option.some.inj hf9; replace hf10 : g 10 = _ := Option.some.inj hf10; rw [hf0, hf6, hf7, hf8, hf9, hf10]; clear hfl hf0 hf6 hf7 hf8 hf9 hf10
    repeat (first | with_reducible refine Sq.n ?_ | with_reducible refine Sq.ret ?_ | with_reducible refine Sq.exit ?_ | with_reducible refine Bk.n ?_ | with_reducible refine Bk.ret ?_ | with_reducible refine Bk.exit ?_ | with_reducible refine Bk.ex' (by decide) ?_ | with_reducible refine Lp.ret ?_ | with_reducible refine Lp.exit ?_ | with_reducible refine Lx.exit ?_)
    have cdone := rddone.run _ _ _ _ _ hs'.room hs'.rd
    cases hst' : st' with
    | none =>
      rw [hst'] at cdone hlk
      simp only [Option.isSome_none, Bool.false_eq_true, if_false] at cdone
      ((repeat with_reducible refine WP.seqs ?_); refine WP.rg ?_)
      refine WP.ret ?_; repeat (first | with_reducible refine Sq.n ?_ | with_reducible refine Sq.ret ?_ | with_reducible refine Sq.exit ?_ | with_reducible refine Bk.n ?_ | with_reducible refine Bk.ret ?_ | with_reducible refine Bk.exit ?_ | with_reducible refine Bk.ex' (by decide) ?_ | with_reducible refine Lp.ret ?_ | with_reducible refine Lp.exit ?_ | with_reducible refine Lx.exit ?_)
      exact Fe.r1 rfl (.inl ⟨rfl, hnone hlk⟩)
    | some r' =>
      rw [hst'] at cdone hlk
      simp only [Option.isSome_some, if_true] at cdone
      ((repeat with_reducible refine WP.seqs ?_); refine WP.rg ?_)
      refine WP.ret ?_; repeat (first | with_reducible refine Sq.n ?_ | with_reducible refine Sq.ret ?_ | with_reducible refine Sq.exit ?_ | with_reducible refine Bk.n ?_ | with_reducible refine Bk.ret ?_ | with_reducible refine Bk.exit ?_ | with_reducible refine Bk.ex' (by decide) ?_ | with_reducible refine Lp.ret ?_ | with_reducible refine Lp.exit ?_ | with_reducible refine Lx.exit ?_)
      refine Fe.r1 rfl (.inr ?_)
      rcases hW with ⟨_, h7, _⟩ | ⟨v, r5, d, h5, e⟩
      · rw [h7] at hlk; cases hlk
      · rcases hF with ⟨_, d'⟩ | ⟨v1, v2, v3, v4, v5, r5', _, q1, q2, q3, q4, q5, d'⟩
        · rw [d'] at d; cases d
        · rw [d'] at d; cases d
          rw [hlk] at e
          exact ⟨_, s', rfl, e, X', x1, x2, x3, x4, x5, v1, v2, v3, v4, v5, o', k', m', st', rfl, rep1 (.inl rfl) e1 q1, rep1 (.inr (.inl rfl)) e2 q2, rep1 (.inr (.inl rfl)) e3 q3, rep1 (.inr (.inr rfl)) e4 q4, rep1 (.inr (.inr rfl)) e5 q5, hs'⟩
end Go.Proofs.YtiifcfngbbhgoagDoor.Rd

