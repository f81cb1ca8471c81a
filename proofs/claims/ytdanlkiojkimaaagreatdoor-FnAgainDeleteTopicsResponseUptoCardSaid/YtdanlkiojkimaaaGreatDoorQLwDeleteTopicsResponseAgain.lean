/-
  THE LAW FnAgainDeleteTopicsResponse: its run in the abstract machine ends with true.
-/
import Derived.Test.YtdanlkiojkimaaaGreatDoorQLwDeleteTopicsResponse
import Derived.Test.YtdanlkiojkimaaaGreatDoorQLwSpDeleteTopicsResponse
import Derived.Test.YtdanlkiojkimaaaGreatDoorQLwSame
import Derived.Test.YtdanlkiojkimaaaGreatDoorQTrKit
set_option linter.constructorNameAsVariable false
set_option linter.unusedVariables false
set_option linter.unusedSimpArgs false
namespace Go.Proofs.YtdanlkiojkimaaaGreatDoor.Rd.mDeleteTopicsResponse
open Go Go.Proofs.YtdanlkiojkimaaaGreatDoor.Ax Go.Proofs.YtdanlkiojkimaaaGreatDoor.Wire Go.Proofs.YtdanlkiojkimaaaGreatDoor.Rd
set_option maxRecDepth 100000
set_option maxHeartbeats 2000000
theorem maxv_x (H : Heap) (q : AV) : CA P NS 40 [q] H (.i .i16 6, H) := by
  refine CA.go (fn := Tryz.f40) (vs := [_]) (by kernel_rfl) rfl (by first | exact .inr rfl | exact .inl rfl) ?_
  apply Exists.intro
  apply And.intro
  · dsimp only [Tryz.f40]
    dsimp only [List.length_cons, List.length_nil, List.cons_append, List.nil_append, Nat.reduceSub, Nat.reduceAdd, List.replicate]
    refine RU.seq RU.rg ?_
    refine RU.seq RU.rg ?_
    first | exact RU.ret | exact RU.skip
  · rfl
theorem max_x (H : Heap) : CA P NS 15 [] H (.i .i64 6, H ++ [.cells 108 .vr dX]) := by
  have c1 := new_x H
  generalize H ++ [Blk.cells 108 Kn.vr dX] = H1 at c1
  generalize AV.p H.length 0 = q at c1
  have c2 := maxv_x H1 q
  have hc : convA P 43 3 (.i .i16 6) = some (.i .i64 6) := by kernel_rfl
  refine CA.go (fn := Tryz.f15) (vs := [_]) (by kernel_rfl) rfl (by first | exact .inr rfl | exact .inl rfl) ?_
  apply Exists.intro
  apply And.intro
  · dsimp only [Tryz.f15]
    dsimp only [List.length_cons, List.length_nil, List.cons_append, List.nil_append, Nat.reduceSub, Nat.reduceAdd, List.replicate]
    refine RU.seq RU.rg ?_
    refine RU.seq RU.rg ?_
    first | exact RU.ret | exact RU.skip
  · rfl
theorem verS0 : ∃ f, VerAt 0 false f ∧ f.strip = (fmtP 0 false fd_DeleteTopicsResponse).strip ∧ (fmtP 0 false fd_DeleteTopicsResponse).good = true := ⟨nodes pl0, ver_0, by kernel_rfl, by kernel_rfl⟩
theorem verS1 : ∃ f, VerAt 1 false f ∧ f.strip = (fmtP 1 false fd_DeleteTopicsResponse).strip ∧ (fmtP 1 false fd_DeleteTopicsResponse).good = true := ⟨nodes pl1, ver_1, by kernel_rfl, by kernel_rfl⟩
theorem verS2 : ∃ f, VerAt 2 false f ∧ f.strip = (fmtP 2 false fd_DeleteTopicsResponse).strip ∧ (fmtP 2 false fd_DeleteTopicsResponse).good = true := ⟨nodes pl2, ver_2, by kernel_rfl, by kernel_rfl⟩
theorem verS3 : ∃ f, VerAt 3 false f ∧ f.strip = (fmtP 3 false fd_DeleteTopicsResponse).strip ∧ (fmtP 3 false fd_DeleteTopicsResponse).good = true := ⟨nodes pl3, ver_3, by kernel_rfl, by kernel_rfl⟩
theorem verS4 : ∃ f, VerAt 4 true f ∧ f.strip = (fmtP 4 true fd_DeleteTopicsResponse).strip ∧ (fmtP 4 true fd_DeleteTopicsResponse).good = true := ⟨nodes pl4, ver_4, by kernel_rfl, by kernel_rfl⟩
theorem verS5 : ∃ f, VerAt 5 true f ∧ f.strip = (fmtP 5 true fd_DeleteTopicsResponse).strip ∧ (fmtP 5 true fd_DeleteTopicsResponse).good = true := ⟨nodes pl5, ver_5, by kernel_rfl, by kernel_rfl⟩
theorem verS6 : ∃ f, VerAt 6 true f ∧ f.strip = (fmtP 6 true fd_DeleteTopicsResponse).strip ∧ (fmtP 6 true fd_DeleteTopicsResponse).good = true := ⟨nodes pl6, ver_6, by kernel_rfl, by kernel_rfl⟩
theorem versS : ∀ k, k ≤ 6 → ∃ f, VerAt k (flexAt 4 k) f ∧ f.strip = (fmtP k (flexAt 4 k) fd_DeleteTopicsResponse).strip ∧ (fmtP k (flexAt 4 k) fd_DeleteTopicsResponse).good = true
  | 0, _ => by
    have e : flexAt 4 0 = false := by decide +kernel
    rw [e]
    exact verS0
  | 1, _ => by
    have e : flexAt 4 1 = false := by decide +kernel
    rw [e]
    exact verS1
  | 2, _ => by
    have e : flexAt 4 2 = false := by decide +kernel
    rw [e]
    exact verS2
  | 3, _ => by
    have e : flexAt 4 3 = false := by decide +kernel
    rw [e]
    exact verS3
  | 4, _ => by
    have e : flexAt 4 4 = true := by decide +kernel
    rw [e]
    exact verS4
  | 5, _ => by
    have e : flexAt 4 5 = true := by decide +kernel
    rw [e]
    exact verS5
  | 6, _ => by
    have e : flexAt 4 6 = true := by decide +kernel
    rw [e]
    exact verS6
  | n + 7, h => by omega
theorem agn_x {H : Heap} {rb0 : Nat} {c : List AV} {t : Tr} {n8 : Int} (hn8 : 0 ≤ n8 ∧ n8 < 256) (G : Globs H rb0) (ht : TrAt H c t) (htf : t.Fine) (hbk : t.bulk ≤ 1048576) : ∃ H', CA P NS 4 [.i .u8 n8, .g c] H (.b true, H') := by
  have key : ∃ v H', CA P NS 4 [.i .u8 n8, .g c] H (v, H') ∧ v = .b true := by
    obtain ⟨s, l, u, hcc, _, _, _, _, _, hone⟩ := ht.parts
    obtain ⟨b1, H1, hbx, k1, v1, _⟩ := box_new (H := H) (e := 26) hone
    obtain ⟨fv, H2, hcf, ⟨fb, rfl⟩, k2⟩ := fits_x (ht.kp k1)
    have hmx := max_x H2
    have k3 : Kp H2 (H2 ++ [.cells 108 .vr dX]) := Kp.app _ _
    generalize H2 ++ [Blk.cells 108 Kn.vr dX] = H3 at hmx k3
    have h0 : binA P .lss 3 true (.i .i64 6) (.i .i64 0) = some (.b false) := by kernel_rfl
    obtain ⟨k, hk, hv⟩ := ver_run (most := 6) (by omega) hn8
    obtain ⟨f, hver, hstr, hgd⟩ := versS k hk
    obtain ⟨wv, H4, hsp, ⟨i, rfl, hfd⟩, k4⟩ := sp_DeleteTopicsResponse H3
    have k14 := ((k1.trans k2).trans k3).trans k4
    have hle := partS_le k (flexAt 4 k) fd_DeleteTopicsResponse htf
    have hcost := sp_cost
    have hlen : (partS k (flexAt 4 k) fd_DeleteTopicsResponse t).length ≤ 549755813888 := by
      have : (fd_DeleteTopicsResponse.cost + 15) * t.bulk ≤ 100015 * 1048576 := Nat.mul_le_mul (by omega) hbk
      omega
    obtain ⟨out, H5, hwr, ho, k5⟩ := write_x (ver := k) hfd sp_plain sp_len (ht.kp k14) htf hlen
    have v2 := k2.at_ v1
    have v3 := k3.at_ v2
    have k34 := k4
    have k35 := k4.trans k5
    have hv4 : CA P NS 13 [.i .u8 n8, .i .i64 6] H4 (.i .i64 (k : Nat), H4) := hv H4
    have hv5 : CA P NS 13 [.i .u8 n8, .i .i64 6] H5 (.i .i64 (k : Nat), H5) := hv H5
    obtain ⟨hdec, henc⟩ := again_part htf hstr hgd
    have k05 := k14.trans k5
    have G5 := G.keep k05.1 (fun i b hi hb => k05.at_ hb)
    obtain ⟨_, hagain⟩ := hver
    obtain ⟨_, hgood⟩ := hagain G5 (BytesAt.dat ho.below) (by omega)
    obtain ⟨out2, H6, hag, ho2, l6, q6⟩ := hgood _ _ hdec
    rw [henc] at ho2
    have hb5 : BytesAt (fun i => i < H6.length) H6 out (partS k (flexAt 4 k) fd_DeleteTopicsResponse t) := BytesAt.kt ho.below ⟨l6, fun i b hi hx => ⟨by omega, q6 i b hi hx⟩⟩
    have k56 : Kp H5 H6 := ⟨l6, fun i hi => by
      have h1 : H5[i]? = some H5[i] := by simp [hi]
      rw [h1]; exact q6 i _ hi h1⟩
    refine CA.wp (fn := Tryz.f4) (R := fun v _ => v = .b true) (by kernel_rfl) rfl ?_
    subst hcc
    cases fb with
    | false =>
      dsimp only [Tryz.f4]
      dsimp only [List.length_cons, List.length_nil, List.cons_append, List.nil_append, Nat.reduceSub, Nat.reduceAdd, List.replicate]
      ((repeat with_reducible refine WP.seqs ?_); refine WP.rg ?_)
      ((repeat with_reducible refine WP.seqs ?_); refine WP.rg ?_)
      ((repeat with_reducible refine WP.seqs ?_); first | refine WP.seq (WP.condT rfl ?_) | refine WP.condT rfl ?_)
      ((repeat with_reducible refine WP.seqs ?_); refine WP.rg ?_)
      refine WP.ret ?_; repeat (first | with_reducible refine Sq.n ?_ | with_reducible refine Sq.ret ?_ | with_reducible refine Sq.exit ?_ | with_reducible refine Bk.n ?_ | with_reducible refine Bk.ret ?_ | with_reducible refine Bk.exit ?_ | with_reducible refine Bk.ex' (by decide) ?_ | with_reducible refine Lp.ret ?_ | with_reducible refine Lp.exit ?_ | with_reducible refine Lx.exit ?_)
      exact Fe.r1 rfl rfl
    | true =>
      have hsm := same_x ho2.below hb5 (by omega)
      generalize ((k : Nat) : Int) = ki at hv4 hv5 hwr hag
      obtain ⟨n1, hsp⟩ := hsp
      obtain ⟨n2, hv4⟩ := hv4
      obtain ⟨n3, hwr⟩ := hwr
      have r3 := Kp.refl H3
      dsimp only [Tryz.f4]
      dsimp only [List.length_cons, List.length_nil, List.cons_append, List.nil_append, Nat.reduceSub, Nat.reduceAdd, List.replicate]
      ((repeat with_reducible refine WP.seqs ?_); refine WP.rg ?_)
      ((repeat with_reducible refine WP.seqs ?_); refine WP.rg ?_)
      ((repeat with_reducible refine WP.seqs ?_); first | refine WP.seq (WP.condF rfl ?_) | refine WP.condF rfl ?_)
      refine WP.skip ?_; repeat (first | with_reducible refine Sq.n ?_ | with_reducible refine Sq.ret ?_ | with_reducible refine Sq.exit ?_ | with_reducible refine Bk.n ?_ | with_reducible refine Bk.ret ?_ | with_reducible refine Bk.exit ?_ | with_reducible refine Bk.ex' (by decide) ?_ | with_reducible refine Lp.ret ?_ | with_reducible refine Lp.exit ?_ | with_reducible refine Lx.exit ?_)
      ((repeat with_reducible refine WP.seqs ?_); refine WP.rg ?_)
      ((repeat with_reducible refine WP.seqs ?_); refine WP.rg ?_)
      ((repeat with_reducible refine WP.seqs ?_); first | refine WP.seq (WP.condF rfl ?_) | refine WP.condF rfl ?_)
      refine WP.skip ?_; repeat (first | with_reducible refine Sq.n ?_ | with_reducible refine Sq.ret ?_ | with_reducible refine Sq.exit ?_ | with_reducible refine Bk.n ?_ | with_reducible refine Bk.ret ?_ | with_reducible refine Bk.exit ?_ | with_reducible refine Bk.ex' (by decide) ?_ | with_reducible refine Lp.ret ?_ | with_reducible refine Lp.exit ?_ | with_reducible refine Lx.exit ?_)
      refine WP.rS (Kp H3) (n0 := max n1 (max n2 n3)) r3 ?_
      apply Exists.intro; apply Exists.intro; apply And.intro
      · intro n hn
        have hsp := hsp n (by omega)
        have hv4 := hv4 n (by omega)
        have hwr := hwr n (by omega)
        (refine OpsP.cl rfl rfl ?_; dsimp only [AV.cells, putA, List.set_cons_zero, List.set_cons_succ])
        (refine OpsP.pu rfl rfl (fun H2 hk => by (try have v1 := Kp.at_ hk v1); (try have v2 := Kp.at_ hk v2); (try have v3 := Kp.at_ hk v3); (try have hld := hld _ hk); exact ⟨_, opy⟩) ?_; dsimp only [AV.cells, putA, List.set_cons_zero, List.set_cons_succ])
        (refine OpsP.pu rfl rfl (fun H2 hk => by (try have v1 := Kp.at_ hk v1); (try have v2 := Kp.at_ hk v2); (try have v3 := Kp.at_ hk v3); (try have hld := hld _ hk); exact ⟨_, opy⟩) ?_; dsimp only [AV.cells, putA, List.set_cons_zero, List.set_cons_succ])
        (refine OpsP.cl rfl rfl ?_; dsimp only [AV.cells, putA, List.set_cons_zero, List.set_cons_succ])
        (refine OpsP.pu rfl rfl (fun H2 hk => by (try have v1 := Kp.at_ hk v1); (try have v2 := Kp.at_ hk v2); (try have v3 := Kp.at_ hk v3); (try have hld := hld _ hk); exact ⟨_, opy⟩) ?_; dsimp only [AV.cells, putA, List.set_cons_zero, List.set_cons_succ])
        (refine OpsP.cl rfl rfl ?_; dsimp only [AV.cells, putA, List.set_cons_zero, List.set_cons_succ])
        (refine OpsP.pu rfl rfl (fun H2 hk => by (try have v1 := Kp.at_ hk v1); (try have v2 := Kp.at_ hk v2); (try have v3 := Kp.at_ hk v3); (try have hld := hld _ hk); exact ⟨_, opy⟩) ?_; dsimp only [AV.cells, putA, List.set_cons_zero, List.set_cons_succ])
        exact OpsP.nil
      ((repeat with_reducible refine WP.seqs ?_); refine WP.rg ?_)
      ((repeat with_reducible refine WP.seqs ?_); refine WP.rg ?_)
      refine WP.ret ?_; repeat (first | with_reducible refine Sq.n ?_ | with_reducible refine Sq.ret ?_ | with_reducible refine Sq.exit ?_ | with_reducible refine Bk.n ?_ | with_reducible refine Bk.ret ?_ | with_reducible refine Bk.exit ?_ | with_reducible refine Bk.ex' (by decide) ?_ | with_reducible refine Lp.ret ?_ | with_reducible refine Lp.exit ?_ | with_reducible refine Lx.exit ?_)
      exact Fe.r1 rfl rfl
  obtain ⟨v, H', h, rfl⟩ := key
  exact ⟨H', h⟩
end Go.Proofs.YtdanlkiojkimaaaGreatDoor.Rd.mDeleteTopicsResponse

