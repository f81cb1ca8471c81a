/-
  TEXTS that may be nil, as kbin reads them.
-/
import Derived.Test.YtdanlkiojkimaaaDoorQRdUvB
set_option linter.constructorNameAsVariable false
set_option linter.unusedVariables false
set_option linter.unusedSimpArgs false
namespace Go.Proofs.YtdanlkiojkimaaaDoor.Rd
open Go Go.Proofs.YtdanlkiojkimaaaDoor.Ax Go.Proofs.YtdanlkiojkimaaaDoor.Wire
set_option maxRecDepth 100000
set_option maxHeartbeats 1000000
theorem zStr : zeroA P 9 = some (.s ⟨#[]⟩) := by kernel_rfl
theorem sizeStr : sizeA P 9 = some 1 := by kernel_rfl
theorem stStr (H : Heap) (x : ByteArray) : storeA P (H ++ [Blk.cells 9 .vr [.s ⟨#[]⟩]]) 9 (.p H.length 0) (.s x) = some (H ++ [Blk.cells 9 .vr [.s x]]) := by
  simp [storeA, sizeStr, Kn.own, AV.cells, AV.one, over]
theorem nstring_none {H H1 : Heap} {rb : Nat} {l : Int} (c1 : CA P NS 106 [.p rb 0] H (.i .i16 l, H1)) (ht : binA P .lss 40 true (.i .i16 l) (.i .i16 0) = some (.b true)) :
    CA P NS 117 [.p rb 0] H (.p0, H1) := by
  refine CA.go (fn := Tryd.f117) (vs := [_]) (by kernel_rfl) rfl (.inr rfl) ?_
  apply Exists.intro
  apply And.intro
  · dsimp only [Tryd.f117]
    dsimp only [List.length_cons, List.length_nil, List.cons_append, List.nil_append, Nat.reduceSub, Nat.reduceAdd, List.replicate]
    refine RU.seq RU.rg ?_
    refine RU.seq RU.rg ?_
    (apply RU.seqx; rotate_left; focus (simp)); refine RU.seq RU.rg ?_; apply RU.condT rfl
    refine RU.seq RU.rg ?_
    exact RU.ret
  · rfl
theorem nstring_some {H H1 H2 : Heap} {rb : Nat} {l : Int} {av : AV} {x : ByteArray} (c1 : CA P NS 106 [.p rb 0] H (.i .i16 l, H1)) (hcv : convA P 40 3 (.i .i16 l) = some (.i .i64 l)) (ht : binA P .lss 40 true (.i .i16 l) (.i .i16 0) = some (.b false)) (c2 : CA P NS 123 [.p rb 0, .i .i64 l] H1 (av, H2)) (h0 : convA P 22 9 av = none) (hs : strA P H2 22 9 av = some (.s x)) :
    CA P NS 117 [.p rb 0] H (.p H2.length 0, H2 ++ [Blk.cells 9 .vr [.s x]]) := by
  have z0 := zStr
  have s0 := stStr H2 x
  refine CA.go (fn := Tryd.f117) (vs := [_]) (by kernel_rfl) rfl (.inr rfl) ?_
  apply Exists.intro
  apply And.intro
  · dsimp only [Tryd.f117]
    dsimp only [List.length_cons, List.length_nil, List.cons_append, List.nil_append, Nat.reduceSub, Nat.reduceAdd, List.replicate]
    refine RU.seq RU.rg ?_
    refine RU.seq RU.rg ?_
    refine RU.seq (RU.seq RU.rg (RU.condF rfl RU.skip)) ?_
    refine RU.seq RU.rg ?_
    refine RU.seq RU.rg ?_
    exact RU.ret
  · rfl
theorem rdv_nstring : RdV 117 false .str true where
  good A H rb nn bs v r R h hd := by
    simp only [decK, rdC, Bool.false_eq_true, if_false, Bool.true_and, decide_eq_true_eq] at hd
    cases hi : rdI 2 bs with
    | none => rw [hi] at hd; cases hd
    | some p =>
      obtain ⟨l, r1⟩ := p
      rw [hi] at hd
      simp only [Option.bind_some] at hd
      obtain ⟨H1, c1, R1, k1⟩ := rd_int16.good A H rb nn bs l r1 R h hi
      have hcv := cvr_i16_i64 l (rdI_in (.inr (.inl rfl)) hi)
      by_cases hz : l < 0
      · rw [if_pos hz] at hd
        simp only [Option.some.injEq, Prod.mk.injEq] at hd
        obtain ⟨rfl, rfl⟩ := hd
        exact ⟨_, H1, nstring_none c1 (by rw [lss]; simp; omega), rfl, rfl, rfl, R1, k1⟩
      · rw [if_neg hz] at hd
        simp only [Option.map_eq_some_iff] at hd
        obtain ⟨⟨x, r2⟩, hs, hh⟩ := hd
        simp at hh
        obtain ⟨rfl, rfl⟩ := hh
        obtain ⟨av, H2, c2, b2, _, R2, k2⟩ := rd_span_good (R.keep k1) R1 hs
        have k12 := k1.trans k2
        refine ⟨_, _, nstring_some c1 hcv (by rw [lss]; simp; omega) c2 (cvB_str _ (BytesAt.sl_of b2)) (by rw [strA_eq, b2.str]; rfl), ?_, rfl, rfl, rdAt_app R2 _, k12.trans (.app _ _ _)⟩
        simp only [RepK, if_true]
        exact ⟨H2.length, 9, R.new _ k12.1, rfl, by simp⟩
  bad A H rb nn st R h hd := by
    cases hi : st.bind (rdI 2) with
    | none =>
      obtain ⟨H1, c1, R1, k1⟩ := rd_int16.bad A H rb nn st R h hi
      obtain ⟨H2, c2, R2, k2⟩ := rd_span_bad (l := 0) (R.keep k1) R1 rfl
      exact ⟨_, _, nstring_some c1 (cvr_i16_i64 0 inI20) (by rw [lss]; simp) c2 (cvB_str _ (.inl rfl)) (by rw [strA_eq]; rfl), rfl, rfl, rdAt_app R2 _, (k1.trans k2).trans (.app _ _ _)⟩
    | some p =>
      obtain ⟨l, r1⟩ := p
      cases st with
      | none => cases hi
      | some bs =>
        simp only [Option.bind_some] at hi hd
        obtain ⟨H1, c1, R1, k1⟩ := rd_int16.good A H rb nn bs l r1 R h hi
        have hcv := cvr_i16_i64 l (rdI_in (.inr (.inl rfl)) hi)
        simp only [decK, rdC, Bool.false_eq_true, if_false, Bool.true_and, decide_eq_true_eq] at hd
        rw [hi] at hd
        simp only [Option.bind_some] at hd
        by_cases hz : l < 0
        · rw [if_pos hz] at hd
          cases hd
        · rw [if_neg hz] at hd
          have hs : (some r1 : Option B).bind (rdS l) = none := by simpa using hd
          obtain ⟨H2, c2, R2, k2⟩ := rd_span_bad (R.keep k1) R1 hs
          exact ⟨_, _, nstring_some c1 hcv (by rw [lss]; simp; omega) c2 (cvB_str _ (.inl rfl)) (by rw [strA_eq]; rfl), rfl, rfl, rdAt_app R2 _, (k1.trans k2).trans (.app _ _ _)⟩
end Go.Proofs.YtdanlkiojkimaaaDoor.Rd

