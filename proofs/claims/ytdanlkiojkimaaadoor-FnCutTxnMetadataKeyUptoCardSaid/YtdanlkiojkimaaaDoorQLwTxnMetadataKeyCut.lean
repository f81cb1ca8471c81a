/-
  THE LAW FnCutTxnMetadataKey: its run in the abstract machine ends with true.
-/
import Derived.Test.YtdanlkiojkimaaaDoorQLwTxnMetadataKey
import Derived.Test.YtdanlkiojkimaaaDoorQLwSpTxnMetadataKey
import Derived.Test.YtdanlkiojkimaaaDoorQLwKept
import Derived.Test.YtdanlkiojkimaaaDoorQLwSame
set_option linter.constructorNameAsVariable false
set_option linter.unusedVariables false
set_option linter.unusedSimpArgs false
namespace Go.Proofs.YtdanlkiojkimaaaDoor.Rd.mTxnMetadataKey
open Go Go.Proofs.YtdanlkiojkimaaaDoor.Ax Go.Proofs.YtdanlkiojkimaaaDoor.Wire Go.Proofs.YtdanlkiojkimaaaDoor.Rd
set_option maxRecDepth 100000
set_option maxHeartbeats 2000000
theorem verS0 : ∃ (lo hi : Int) (f : F), VerIn lo hi false f ∧ lo ≤ ((0 : Nat) : Int) ∧ ((0 : Nat) : Int) ≤ hi ∧ f.strip = (keptF 0 false fd_TxnMetadataKey).strip ∧ (keptF 0 false fd_TxnMetadataKey).good = true := ⟨_, _, _, ver_0, by omega, by omega, by kernel_rfl, by kernel_rfl⟩
theorem versS : ∀ k, k < 1 → ∃ (lo hi : Int) (f : F), VerIn lo hi (flexAt (-1) k) f ∧ lo ≤ ((k : Nat) : Int) ∧ ((k : Nat) : Int) ≤ hi ∧ f.strip = (keptF k (flexAt (-1) k) fd_TxnMetadataKey).strip ∧ (keptF k (flexAt (-1) k) fd_TxnMetadataKey).good = true
  | 0, _ => by
    have e : flexAt (-1) 0 = false := by decide +kernel
    rw [e]
    exact verS0
  | n + 1, h => by omega
theorem cut_x {H : Heap} {rb0 : Nat} {c : List AV} {t : Tr} {n8 : Int} (hn8 : 0 ≤ n8 ∧ n8 < 256) {at_ : Int} (hat : 0 ≤ at_ ∧ at_ < 65536) (G : Globs H rb0) (ht : TrAt H c t) (htf : t.Fine) (hbk : t.bulk ≤ 1048576) : ∃ H', CA P NS 3 [.i .u8 n8, .g c, .i .u16 at_] H (.b true, H') := by
  have key : ∃ v H', CA P NS 3 [.i .u8 n8, .g c, .i .u16 at_] H (v, H') ∧ v = .b true := by
    obtain ⟨s, l, u, hcc, _, _, _, _, _, hone⟩ := ht.parts
    obtain ⟨b1, H1, hbx, k1, v1, _⟩ := box_new (H := H) (e := 26) hone
    obtain ⟨fv, H3, hcf, ⟨fb, rfl⟩, k2⟩ := fits_x (ht.kp k1)
    obtain ⟨k, nn, hk, hcn, hrm⟩ := mod_run (n8 := n8) 1 (by omega) hn8
    obtain ⟨lo, hi, f, hver, hlo, hhi, hstr, hgd⟩ := versS k hk
    obtain ⟨wv, H4, hsp, ⟨i, rfl, hfd⟩, k4⟩ := sp_TxnMetadataKey H3
    have k14 := (k1.trans k2).trans k4
    have hle := partS_le k (flexAt (-1) k) fd_TxnMetadataKey htf
    have hcost := sp_cost
    have hlen : (keptB k (flexAt (-1) k) fd_TxnMetadataKey t).length ≤ 549755813888 := by
      rw [keptB_len]
      have : (fd_TxnMetadataKey.cost + 15) * t.bulk ≤ 100015 * 1048576 := Nat.mul_le_mul (by omega) hbk
      omega
    have hpos : 2 ≤ (keptB k (flexAt (-1) k) fd_TxnMetadataKey t).length := by rw [keptB_len]; omega
    obtain ⟨out, H5, hwr, ho, k5⟩ := kept_x (ver := k) hfd sp_plain sp_len (ht.kp k14) htf (by omega) hlen
    have hvk := verOf_kept (flex := flexAt (-1) k) (fd := fd_TxnMetadataKey) (t := t) (show k < 32768 by omega)
    obtain ⟨hdec, henc⟩ := kept_again htf (by omega) hstr hgd
    generalize hkb : (keptB k (flexAt (-1) k) fd_TxnMetadataKey t) = kb at hlen hpos ho hdec henc hvk
    have v3 := k2.at_ v1
    have v4 := k4.at_ v3
    have v5 := k5.at_ v4
    have k35 := k4.trans k5
    have k05 := k14.trans k5
    have G5 := G.keep k05.1 (fun i b hi hb => k05.at_ hb)
    obtain ⟨_, _, hagain⟩ := hver
    obtain ⟨_, hgood⟩ := hagain G5 (BytesAt.dat ho.below) (by omega) (by omega) (by omega)
    obtain ⟨out2, H6, hag, ho2, l6, q6⟩ := hgood _ _ hdec
    rw [henc] at ho2
    have hb5 : BytesAt (fun i => i < H6.length) H6 out kb := BytesAt.kt ho.below ⟨l6, fun i b hi hx => ⟨by omega, q6 i b hi hx⟩⟩
    have k56 : Kp H5 H6 := ⟨l6, fun i hi => by
      have h1 : H5[i]? = some H5[i] := by simp [hi]
      rw [h1]; exact q6 i _ hi h1⟩
    have hrm : binA P .rem 3 true (.i .i64 ((nn : Nat) : Int)) (.i .i64 1) = some (.i .i64 ((k : Nat) : Int)) := hrm
    refine CA.wp (fn := Tryd.f3) (R := fun v _ => v = .b true) (by kernel_rfl) rfl ?_
    subst hcc
    cases fb with
    | false =>
      dsimp only [Tryd.f3]
      dsimp only [List.length_cons, List.length_nil, List.cons_append, List.nil_append, Nat.reduceSub, Nat.reduceAdd, List.replicate]
      ((repeat with_reducible refine WP.seqs ?_); refine WP.rg ?_)
      ((repeat with_reducible refine WP.seqs ?_); refine WP.rg ?_)
      ((repeat with_reducible refine WP.seqs ?_); first | refine WP.seq (WP.condT rfl ?_) | refine WP.condT rfl ?_)
      ((repeat with_reducible refine WP.seqs ?_); refine WP.rg ?_)
      refine WP.ret ?_; repeat (first | with_reducible refine Sq.n ?_ | with_reducible refine Sq.ret ?_ | with_reducible refine Sq.exit ?_ | with_reducible refine Bk.n ?_ | with_reducible refine Bk.ret ?_ | with_reducible refine Bk.exit ?_ | with_reducible refine Bk.ex' (by decide) ?_ | with_reducible refine Lp.ret ?_ | with_reducible refine Lp.exit ?_ | with_reducible refine Lx.exit ?_)
      exact Fe.r1 rfl rfl
    | true =>
      have hln := (ho.below).len bty
      have hln6 := hb5.len bty
      obtain ⟨na, rfl⟩ : ∃ na : Nat, at_ = na := ⟨at_.toNat, by omega⟩
      have hcva := cv_u16_int na (by omega)
      have hrem := remk na kb.length (by omega)
      have hlt := Nat.mod_lt na (show 0 < kb.length by omega)
      obtain ⟨sl, hsl, hdat⟩ := cut_dat (ho.wk k56) hlt
      have hcutB : keptB k (flexAt (-1) k) fd_TxnMetadataKey t = kb.take (na % kb.length) ++ kb.drop (na % kb.length) := by rw [hkb, List.take_append_drop]
      have hnone : dec (flexAt (-1) k) f (kb.take (na % kb.length)) = none := kept_cut htf (by omega) hstr hgd hcutB (fun h => by have := congrArg List.length h; simp at this; omega)
      have k06 := k05.trans k56
      have G6 := G.keep k06.1 (fun i b hi hb => k06.at_ hb)
      have hvc : lo ≤ verOf (kb.take (na % kb.length)) ∧ verOf (kb.take (na % kb.length)) ≤ hi := by rcases verOf_take kb (na % kb.length) with h | h <;> rw [h] <;> omega
      obtain ⟨hbad, _⟩ := hagain G6 hdat (by rw [List.length_take]; omega) hvc.1 hvc.2
      obtain ⟨H7, hag2⟩ := hbad hnone
      have v6 := k56.at_ v5
      generalize ((na % kb.length : Nat) : Int) = ri at hrem hsl
      generalize ((kb.length : Nat) : Int) = li at hln hln6 hrem
      generalize ((na : Nat) : Int) = ai at hcva hrem ⊢
      generalize ((nn : Nat) : Int) = ni at hcn hrm
      generalize ((k : Nat) : Int) = ki at hrm hwr
      obtain ⟨n1, hsp⟩ := hsp
      obtain ⟨n3, hwr⟩ := hwr
      have r3 := Kp.refl H3
      dsimp only [Tryd.f3]
      dsimp only [List.length_cons, List.length_nil, List.cons_append, List.nil_append, Nat.reduceSub, Nat.reduceAdd, List.replicate]
      ((repeat with_reducible refine WP.seqs ?_); refine WP.rg ?_)
      ((repeat with_reducible refine WP.seqs ?_); refine WP.rg ?_)
      ((repeat with_reducible refine WP.seqs ?_); first | refine WP.seq (WP.condF rfl ?_) | refine WP.condF rfl ?_)
      refine WP.skip ?_; repeat (first | with_reducible refine Sq.n ?_ | with_reducible refine Sq.ret ?_ | with_reducible refine Sq.exit ?_ | with_reducible refine Bk.n ?_ | with_reducible refine Bk.ret ?_ | with_reducible refine Bk.exit ?_ | with_reducible refine Bk.ex' (by decide) ?_ | with_reducible refine Lp.ret ?_ | with_reducible refine Lp.exit ?_ | with_reducible refine Lx.exit ?_)
      refine WP.rS (Kp H3) (n0 := max n1 n3) r3 ?_
      apply Exists.intro; apply Exists.intro; apply And.intro
      · intro n hn
        have hsp := hsp n (by omega)
        have hwr := hwr n (by omega)
        (refine OpsP.cl rfl rfl ?_; dsimp only [AV.cells, putA, List.set_cons_zero, List.set_cons_succ])
        (refine OpsP.pu rfl rfl (fun H2 hk => by (try have v1 := Kp.at_ hk v1); (try have v2 := Kp.at_ hk v2); (try have v3 := Kp.at_ hk v3); (try have hld := hld _ hk); exact ⟨_, opy⟩) ?_; dsimp only [AV.cells, putA, List.set_cons_zero, List.set_cons_succ])
        (refine OpsP.pu rfl rfl (fun H2 hk => by (try have v1 := Kp.at_ hk v1); (try have v2 := Kp.at_ hk v2); (try have v3 := Kp.at_ hk v3); (try have hld := hld _ hk); exact ⟨_, opy⟩) ?_; dsimp only [AV.cells, putA, List.set_cons_zero, List.set_cons_succ])
        (refine OpsP.pu rfl rfl (fun H2 hk => by (try have v1 := Kp.at_ hk v1); (try have v2 := Kp.at_ hk v2); (try have v3 := Kp.at_ hk v3); (try have hld := hld _ hk); exact ⟨_, opy⟩) ?_; dsimp only [AV.cells, putA, List.set_cons_zero, List.set_cons_succ])
        (refine OpsP.pu rfl rfl (fun H2 hk => by (try have v1 := Kp.at_ hk v1); (try have v2 := Kp.at_ hk v2); (try have v3 := Kp.at_ hk v3); (try have hld := hld _ hk); exact ⟨_, opy⟩) ?_; dsimp only [AV.cells, putA, List.set_cons_zero, List.set_cons_succ])
        (refine OpsP.cl rfl rfl ?_; dsimp only [AV.cells, putA, List.set_cons_zero, List.set_cons_succ])
        (refine OpsP.pu rfl rfl (fun H2 hk => by (try have v1 := Kp.at_ hk v1); (try have v2 := Kp.at_ hk v2); (try have v3 := Kp.at_ hk v3); (try have hld := hld _ hk); exact ⟨_, opy⟩) ?_; dsimp only [AV.cells, putA, List.set_cons_zero, List.set_cons_succ])
        exact OpsP.nil
      ((repeat with_reducible refine WP.seqs ?_); refine WP.rg ?_)
      ((repeat with_reducible refine WP.seqs ?_); refine WP.rg ?_)
      ((repeat with_reducible refine WP.seqs ?_); refine WP.rg ?_)
      refine WP.ret ?_; repeat (first | with_reducible refine Sq.n ?_ | with_reducible refine Sq.ret ?_ | with_reducible refine Sq.exit ?_ | with_reducible refine Bk.n ?_ | with_reducible refine Bk.ret ?_ | with_reducible refine Bk.exit ?_ | with_reducible refine Bk.ex' (by decide) ?_ | with_reducible refine Lp.ret ?_ | with_reducible refine Lp.exit ?_ | with_reducible refine Lx.exit ?_)
      exact Fe.r1 rfl rfl
  obtain ⟨v, H', h, rfl⟩ := key
  exact ⟨H', h⟩
end Go.Proofs.YtdanlkiojkimaaaDoor.Rd.mTxnMetadataKey

