/-
  THE LAW FnCutMetadataRequest: its run in the abstract machine ends with true.
-/
import Derived.Test.YtiifcfngbbhgoaaGreatDoorQLwMetadataRequest
import Derived.Test.YtiifcfngbbhgoaaGreatDoorQLwSpMetadataRequest
import Derived.Test.YtiifcfngbbhgoaaGreatDoorQLwSame
import Derived.Test.YtiifcfngbbhgoaaGreatDoorQTrKit
set_option linter.constructorNameAsVariable false
set_option linter.unusedVariables false
set_option linter.unusedSimpArgs false
namespace Go.Proofs.YtiifcfngbbhgoaaGreatDoor.Rd.mMetadataRequest
open Go Go.Proofs.YtiifcfngbbhgoaaGreatDoor.Ax Go.Proofs.YtiifcfngbbhgoaaGreatDoor.Wire Go.Proofs.YtiifcfngbbhgoaaGreatDoor.Rd
set_option maxRecDepth 100000
set_option maxHeartbeats 2000000
theorem maxv_x (H : Heap) (q : AV) : CA P NS 12 [q] H (.i .i16 13, H) := by
  refine CA.go (fn := Tryz.f12) (vs := [_]) (by kernel_rfl) rfl (by first | exact .inr rfl | exact .inl rfl) ?_
  apply Exists.intro
  apply And.intro
  · dsimp only [Tryz.f12]
    dsimp only [List.length_cons, List.length_nil, List.cons_append, List.nil_append, Nat.reduceSub, Nat.reduceAdd, List.replicate]
    refine RU.seq RU.rg ?_
    refine RU.seq RU.rg ?_
    first | exact RU.ret | exact RU.skip
  · rfl
theorem max_x (H : Heap) : CA P NS 5 [] H (.i .i64 13, H ++ [.cells 62 .vr dX]) := by
  have c1 := new_x H
  generalize H ++ [Blk.cells 62 Kn.vr dX] = H1 at c1
  generalize AV.p H.length 0 = q at c1
  have c2 := maxv_x H1 q
  have hc : convA P 40 3 (.i .i16 13) = some (.i .i64 13) := by kernel_rfl
  refine CA.go (fn := Tryz.f5) (vs := [_]) (by kernel_rfl) rfl (by first | exact .inr rfl | exact .inl rfl) ?_
  apply Exists.intro
  apply And.intro
  · dsimp only [Tryz.f5]
    dsimp only [List.length_cons, List.length_nil, List.cons_append, List.nil_append, Nat.reduceSub, Nat.reduceAdd, List.replicate]
    refine RU.seq RU.rg ?_
    refine RU.seq RU.rg ?_
    first | exact RU.ret | exact RU.skip
  · rfl
theorem versS : ∀ k, k ≤ 13 → ∃ f, VerAt k (flexAt 9 k) f ∧ f.strip = (fmtP k (flexAt 9 k) fd_MetadataRequest).strip ∧ (fmtP k (flexAt 9 k) fd_MetadataRequest).good = true
  | 0, _ => by
    have e : flexAt 9 0 = false := by decide +kernel
    rw [e]
    exact ⟨nodes pl0, ver_0, by kernel_rfl, by kernel_rfl⟩
  | 1, _ => by
    have e : flexAt 9 1 = false := by decide +kernel
    rw [e]
    exact ⟨nodes pl1, ver_1, by kernel_rfl, by kernel_rfl⟩
  | 2, _ => by
    have e : flexAt 9 2 = false := by decide +kernel
    rw [e]
    exact ⟨nodes pl2, ver_2, by kernel_rfl, by kernel_rfl⟩
  | 3, _ => by
    have e : flexAt 9 3 = false := by decide +kernel
    rw [e]
    exact ⟨nodes pl3, ver_3, by kernel_rfl, by kernel_rfl⟩
  | 4, _ => by
    have e : flexAt 9 4 = false := by decide +kernel
    rw [e]
    exact ⟨nodes pl4, ver_4, by kernel_rfl, by kernel_rfl⟩
  | 5, _ => by
    have e : flexAt 9 5 = false := by decide +kernel
    rw [e]
    exact ⟨nodes pl5, ver_5, by kernel_rfl, by kernel_rfl⟩
  | 6, _ => by
    have e : flexAt 9 6 = false := by decide +kernel
    rw [e]
    exact ⟨nodes pl6, ver_6, by kernel_rfl, by kernel_rfl⟩
  | 7, _ => by
    have e : flexAt 9 7 = false := by decide +kernel
    rw [e]
    exact ⟨nodes pl7, ver_7, by kernel_rfl, by kernel_rfl⟩
  | 8, _ => by
    have e : flexAt 9 8 = false := by decide +kernel
    rw [e]
    exact ⟨nodes pl8, ver_8, by kernel_rfl, by kernel_rfl⟩
  | 9, _ => by
    have e : flexAt 9 9 = true := by decide +kernel
    rw [e]
    exact ⟨nodes pl9, ver_9, by kernel_rfl, by kernel_rfl⟩
  | 10, _ => by
    have e : flexAt 9 10 = true := by decide +kernel
    rw [e]
    exact ⟨nodes pl10, ver_10, by kernel_rfl, by kernel_rfl⟩
  | 11, _ => by
    have e : flexAt 9 11 = true := by decide +kernel
    rw [e]
    exact ⟨nodes pl11, ver_11, by kernel_rfl, by kernel_rfl⟩
  | 12, _ => by
    have e : flexAt 9 12 = true := by decide +kernel
    rw [e]
    exact ⟨nodes pl12, ver_12, by kernel_rfl, by kernel_rfl⟩
  | 13, _ => by
    have e : flexAt 9 13 = true := by decide +kernel
    rw [e]
    exact ⟨nodes pl13, ver_13, by kernel_rfl, by kernel_rfl⟩
  | n + 14, h => by omega
theorem cut_x {H : Heap} {rb0 : Nat} {c : List AV} {t : Tr} {n8 : Int} (hn8 : 0 ≤ n8 ∧ n8 < 256) {at_ : Int} (hat : 0 ≤ at_ ∧ at_ < 65536) (G : Globs H rb0) (ht : TrAt H c t) (htf : t.Fine) (hbk : t.bulk ≤ 1048576) : ∃ H', CA P NS 3 [.i .u8 n8, .g c, .i .u16 at_] H (.b true, H') := by
  have key : ∃ v H', CA P NS 3 [.i .u8 n8, .g c, .i .u16 at_] H (v, H') ∧ v = .b true := by
    obtain ⟨s, l, u, hcc, _, _, _, _, _, hone⟩ := ht.parts
    obtain ⟨b1, H1, hbx, k1, v1, _⟩ := box_new (H := H) (e := 26) hone
    obtain ⟨fv, H2, hcf, ⟨fb, rfl⟩, k2⟩ := fits_x (ht.kp k1)
    have hmx := max_x H2
    have k3 : Kp H2 (H2 ++ [.cells 62 .vr dX]) := Kp.app _ _
    generalize H2 ++ [Blk.cells 62 Kn.vr dX] = H3 at hmx k3
    have h0 : binA P .lss 3 true (.i .i64 13) (.i .i64 0) = some (.b false) := by kernel_rfl
    obtain ⟨k, hk, hv⟩ := ver_run (most := 13) (by omega) hn8
    obtain ⟨f, hver, hstr, hgd⟩ := versS k hk
    obtain ⟨wv, H4, hsp, ⟨i, rfl, hfd⟩, k4⟩ := sp_MetadataRequest H3
    have k14 := ((k1.trans k2).trans k3).trans k4
    have hle := partS_le k (flexAt 9 k) fd_MetadataRequest htf
    have hcost := sp_cost
    have hlen : (partS k (flexAt 9 k) fd_MetadataRequest t).length ≤ 549755813888 := by
      have : (fd_MetadataRequest.cost + 15) * t.bulk ≤ 100015 * 1048576 := Nat.mul_le_mul (by omega) hbk
      omega
    obtain ⟨out, H5, hwr, ho, k5⟩ := write_x (ver := k) hfd sp_plain sp_len (ht.kp k14) htf hlen
    have v2 := k2.at_ v1
    have v3 := k3.at_ v2
    have k34 := k4
    have k35 := k4.trans k5
    have hv4 : CA P NS 8 [.i .u8 n8, .i .i64 13] H4 (.i .i64 (k : Nat), H4) := hv H4
    have hv5 : CA P NS 8 [.i .u8 n8, .i .i64 13] H5 (.i .i64 (k : Nat), H5) := hv H5
    obtain ⟨hdec, henc⟩ := again_part htf hstr hgd
    have k05 := k14.trans k5
    have G5 := G.keep k05.1 (fun i b hi hb => k05.at_ hb)
    obtain ⟨_, hagain⟩ := hver
    obtain ⟨_, hgood⟩ := hagain G5 (BytesAt.dat ho.below) (by omega)
    obtain ⟨out2, H6, hag, ho2, l6, q6⟩ := hgood _ _ hdec
    rw [henc] at ho2
    have hb5 : BytesAt (fun i => i < H6.length) H6 out (partS k (flexAt 9 k) fd_MetadataRequest t) := BytesAt.kt ho.below ⟨l6, fun i b hi hx => ⟨by omega, q6 i b hi hx⟩⟩
    have k56 : Kp H5 H6 := ⟨l6, fun i hi => by
      have h1 : H5[i]? = some H5[i] := by simp [hi]
      rw [h1]; exact q6 i _ hi h1⟩
    refine CA.wp (fn := Tryz.f3) (R := fun v _ => v = .b true) (by kernel_rfl) rfl ?_
    subst hcc
    cases fb with
    | false =>
      dsimp only [Tryz.f3]
      dsimp only [List.length_cons, List.length_nil, List.cons_append, List.nil_append, Nat.reduceSub, Nat.reduceAdd, List.replicate]
      ((repeat with_reducible refine WP.seqs ?_); refine WP.rg ?_)
      ((repeat with_reducible refine WP.seqs ?_); refine WP.rg ?_)
      ((repeat with_reducible refine WP.seqs ?_); first | refine WP.seq (WP.condT rfl ?_) | refine WP.condT rfl ?_)
      ((repeat with_reducible refine WP.seqs ?_); refine WP.rg ?_)
      refine WP.ret ?_; repeat (first | with_reducible refine Sq.n ?_ | with_reducible refine Sq.ret ?_ | with_reducible refine Sq.exit ?_ | with_reducible refine Bk.n ?_ | with_reducible refine Bk.ret ?_ | with_reducible refine Bk.exit ?_ | with_reducible refine Bk.ex' (by decide) ?_ | with_reducible refine Lp.ret ?_ | with_reducible refine Lp.exit ?_ | with_reducible refine Lx.exit ?_)
      exact Fe.r1 rfl rfl
    | true =>
      have hln := (ho.below).len bty
      have q0 := eqlI 3 true ((partS k (flexAt 9 k) fd_MetadataRequest t).length : Nat) 0
      by_cases he : (partS k (flexAt 9 k) fd_MetadataRequest t).length = 0
      · replace q0 : binA P .eql 3 true (.i .i64 ((partS k (flexAt 9 k) fd_MetadataRequest t).length : Nat)) (.i .i64 0) = some (.b true) := by rw [q0, decide_eq_true (by omega)]
        have hln6 := hb5.len bty
        generalize (((partS k (flexAt 9 k) fd_MetadataRequest t).length : Nat) : Int) = ni at hln q0 hln6
        generalize ((k : Nat) : Int) = ki at hv4 hv5 hwr hag
        obtain ⟨n1, hsp⟩ := hsp
        obtain ⟨n2, hv4⟩ := hv4
        obtain ⟨n3, hwr⟩ := hwr
        have r3 := Kp.refl H3
        dsimp only [Tryz.f3]
        dsimp only [List.length_cons, List.length_nil, List.cons_append, List.nil_append, Nat.reduceSub, Nat.reduceAdd, List.replicate]
        ((repeat with_reducible refine WP.seqs ?_); refine WP.rg ?_)
        ((repeat with_reducible refine WP.seqs ?_); refine WP.rg ?_)
        ((repeat with_reducible refine WP.seqs ?_); first | refine WP.seq (WP.condF rfl ?_) | refine WP.condF rfl ?_)
        refine WP.skip ?_; repeat (first | with_reducible refine Sq.n ?_ | with_reducible refine Sq.ret ?_ | with_reducible refine Sq.exit ?_ | with_reducible refine Bk.n ?_ | with_reducible refine Bk.ret ?_ | with_reducible refine Bk.exit ?_ | with_reducible refine Bk.ex' (by decide) ?_ | with_reducible refine Lp.ret ?_ | with_reducible refine Lp.exit ?_ | with_reducible refine Lx.exit ?_)
        ((repeat with_reducible refine WP.seqs ?_); refine WP.rg ?_)
        ((repeat with_reducible refine WP.seqs ?_); refine WP.rg ?_)
        ((repeat with_reducible refine WP.seqs ?_); first | refine WP.seq (WP.condF rfl ?_) | refine WP.condF rfl ?_)
        refine WP.skip ?_; repeat (first | with_reducible refine Sq.n ?_ | with_reducible refine Sq.ret ?_ | with_reducible refine Sq.exit ?_ | with_reducible refine Bk.n ?_ | with_reducible refine Bk.ret ?_ | with_reducible refine Bk.exit ?_ | with_reducible refine Bk.ex' (by decide) ?_ | with_reducible refine Lp.ret ?_ | with_reducible refine Lp.exit ?_ | with_reducible refine Lx.exit ?_)
        refine WP.rS (Kp H3) (n0 := max n1 (max n2 n3)) r3 ?_
        apply Exists.intro; apply Exists.intro; apply And.intro
        · intro n hn
          have hsp := hsp n (by omega)
          have hv4 := hv4 n (by omega)
          have hwr := hwr n (by omega)
          (refine OpsP.cl rfl rfl ?_; dsimp only [AV.cells, putA, List.set_cons_zero, List.set_cons_succ])
          (refine OpsP.pu rfl rfl (fun H2 hk => by (try have v1 := Kp.at_ hk v1); (try have v2 := Kp.at_ hk v2); (try have v3 := Kp.at_ hk v3); (try have hld := hld _ hk); exact ⟨_, opy⟩) ?_; dsimp only [AV.cells, putA, List.set_cons_zero, List.set_cons_succ])
          (refine OpsP.pu rfl rfl (fun H2 hk => by (try have v1 := Kp.at_ hk v1); (try have v2 := Kp.at_ hk v2); (try have v3 := Kp.at_ hk v3); (try have hld := hld _ hk); exact ⟨_, opy⟩) ?_; dsimp only [AV.cells, putA, List.set_cons_zero, List.set_cons_succ])
          (refine OpsP.cl rfl rfl ?_; dsimp only [AV.cells, putA, List.set_cons_zero, List.set_cons_succ])
          (refine OpsP.pu rfl rfl (fun H2 hk => by (try have v1 := Kp.at_ hk v1); (try have v2 := Kp.at_ hk v2); (try have v3 := Kp.at_ hk v3); (try have hld := hld _ hk); exact ⟨_, opy⟩) ?_; dsimp only [AV.cells, putA, List.set_cons_zero, List.set_cons_succ])
          (refine OpsP.cl rfl rfl ?_; dsimp only [AV.cells, putA, List.set_cons_zero, List.set_cons_succ])
          (refine OpsP.pu rfl rfl (fun H2 hk => by (try have v1 := Kp.at_ hk v1); (try have v2 := Kp.at_ hk v2); (try have v3 := Kp.at_ hk v3); (try have hld := hld _ hk); exact ⟨_, opy⟩) ?_; dsimp only [AV.cells, putA, List.set_cons_zero, List.set_cons_succ])
          exact OpsP.nil
        ((repeat with_reducible refine WP.seqs ?_); refine WP.rg ?_)
        ((repeat with_reducible refine WP.seqs ?_); refine WP.rg ?_)
        ((repeat with_reducible refine WP.seqs ?_); first | refine WP.seq (WP.condT rfl ?_) | refine WP.condT rfl ?_)
        ((repeat with_reducible refine WP.seqs ?_); refine WP.rg ?_)
        refine WP.ret ?_; repeat (first | with_reducible refine Sq.n ?_ | with_reducible refine Sq.ret ?_ | with_reducible refine Sq.exit ?_ | with_reducible refine Bk.n ?_ | with_reducible refine Bk.ret ?_ | with_reducible refine Bk.exit ?_ | with_reducible refine Bk.ex' (by decide) ?_ | with_reducible refine Lp.ret ?_ | with_reducible refine Lp.exit ?_ | with_reducible refine Lx.exit ?_)
        exact Fe.r1 rfl rfl
      replace q0 : binA P .eql 3 true (.i .i64 ((partS k (flexAt 9 k) fd_MetadataRequest t).length : Nat)) (.i .i64 0) = some (.b false) := by rw [q0, decide_eq_false (by omega)]
      obtain ⟨na, rfl⟩ : ∃ na : Nat, at_ = na := ⟨at_.toNat, by omega⟩
      have hcva := cv_u16_int na (by omega)
      have hrem := remk na (partS k (flexAt 9 k) fd_MetadataRequest t).length (by omega)
      have hlt := Nat.mod_lt na (show 0 < (partS k (flexAt 9 k) fd_MetadataRequest t).length by omega)
      obtain ⟨sl, hsl, hdat⟩ := cut_dat (ho.wk k56) hlt
      have hnone : dec (flexAt 9 k) f ((partS k (flexAt 9 k) fd_MetadataRequest t).take (na % (partS k (flexAt 9 k) fd_MetadataRequest t).length)) = none := cut_part htf hstr hgd (q := (partS k (flexAt 9 k) fd_MetadataRequest t).drop (na % (partS k (flexAt 9 k) fd_MetadataRequest t).length)) (List.take_append_drop _ _).symm (fun h => by have := congrArg List.length h; simp at this; omega)
      have k06 := k05.trans k56
      have G6 := G.keep k06.1 (fun i b hi hb => k06.at_ hb)
      obtain ⟨hbad, _⟩ := hagain G6 hdat (by rw [List.length_take]; omega)
      obtain ⟨H7, hag2⟩ := hbad hnone
      have hv6 : CA P NS 8 [.i .u8 n8, .i .i64 13] H6 (.i .i64 (k : Nat), H6) := hv H6
      have hln6 := hb5.len bty
      have v6 := k56.at_ (k5.at_ (k4.at_ v3))
      generalize ((na % (partS k (flexAt 9 k) fd_MetadataRequest t).length : Nat) : Int) = ri at hrem hsl
      generalize (((partS k (flexAt 9 k) fd_MetadataRequest t).length : Nat) : Int) = ni at hln q0 hln6 hrem
      generalize ((na : Nat) : Int) = ai at hcva hrem ⊢
      generalize ((k : Nat) : Int) = ki at hv4 hv5 hv6 hwr hag hag2
      obtain ⟨n1, hsp⟩ := hsp
      obtain ⟨n2, hv4⟩ := hv4
      obtain ⟨n3, hwr⟩ := hwr
      obtain ⟨n4, hv6⟩ := hv6
      obtain ⟨n5, hag2⟩ := hag2
      have r3 := Kp.refl H3
      dsimp only [Tryz.f3]
      dsimp only [List.length_cons, List.length_nil, List.cons_append, List.nil_append, Nat.reduceSub, Nat.reduceAdd, List.replicate]
      ((repeat with_reducible refine WP.seqs ?_); refine WP.rg ?_)
      ((repeat with_reducible refine WP.seqs ?_); refine WP.rg ?_)
      ((repeat with_reducible refine WP.seqs ?_); first | refine WP.seq (WP.condF rfl ?_) | refine WP.condF rfl ?_)
      refine WP.skip ?_; repeat (first | with_reducible refine Sq.n ?_ | with_reducible refine Sq.ret ?_ | with_reducible refine Sq.exit ?_ | with_reducible refine Bk.n ?_ | with_reducible refine Bk.ret ?_ | with_reducible refine Bk.exit ?_ | with_reducible refine Bk.ex' (by decide) ?_ | with_reducible refine Lp.ret ?_ | with_reducible refine Lp.exit ?_ | with_reducible refine Lx.exit ?_)
      ((repeat with_reducible refine WP.seqs ?_); refine WP.rg ?_)
      ((repeat with_reducible refine WP.seqs ?_); refine WP.rg ?_)
      ((repeat with_reducible refine WP.seqs ?_); first | refine WP.seq (WP.condF rfl ?_) | refine WP.condF rfl ?_)
      refine WP.skip ?_; repeat (first | with_reducible refine Sq.n ?_ | with_reducible refine Sq.ret ?_ | with_reducible refine Sq.exit ?_ | with_reducible refine Bk.n ?_ | with_reducible refine Bk.ret ?_ | with_reducible refine Bk.exit ?_ | with_reducible refine Bk.ex' (by decide) ?_ | with_reducible refine Lp.ret ?_ | with_reducible refine Lp.exit ?_ | with_reducible refine Lx.exit ?_)
      refine WP.rS (Kp H3) (n0 := max n1 (max n2 n3)) r3 ?_
      apply Exists.intro; apply Exists.intro; apply And.intro
      · intro n hn
        have hsp := hsp n (by omega)
        have hv4 := hv4 n (by omega)
        have hwr := hwr n (by omega)
        (refine OpsP.cl rfl rfl ?_; dsimp only [AV.cells, putA, List.set_cons_zero, List.set_cons_succ])
        (refine OpsP.pu rfl rfl (fun H2 hk => by (try have v1 := Kp.at_ hk v1); (try have v2 := Kp.at_ hk v2); (try have v3 := Kp.at_ hk v3); (try have hld := hld _ hk); exact ⟨_, opy⟩) ?_; dsimp only [AV.cells, putA, List.set_cons_zero, List.set_cons_succ])
        (refine OpsP.pu rfl rfl (fun H2 hk => by (try have v1 := Kp.at_ hk v1); (try have v2 := Kp.at_ hk v2); (try have v3 := Kp.at_ hk v3); (try have hld := hld _ hk); exact ⟨_, opy⟩) ?_; dsimp only [AV.cells, putA, List.set_cons_zero, List.set_cons_succ])
        (refine OpsP.cl rfl rfl ?_; dsimp only [AV.cells, putA, List.set_cons_zero, List.set_cons_succ])
        (refine OpsP.pu rfl rfl (fun H2 hk => by (try have v1 := Kp.at_ hk v1); (try have v2 := Kp.at_ hk v2); (try have v3 := Kp.at_ hk v3); (try have hld := hld _ hk); exact ⟨_, opy⟩) ?_; dsimp only [AV.cells, putA, List.set_cons_zero, List.set_cons_succ])
        (refine OpsP.cl rfl rfl ?_; dsimp only [AV.cells, putA, List.set_cons_zero, List.set_cons_succ])
        (refine OpsP.pu rfl rfl (fun H2 hk => by (try have v1 := Kp.at_ hk v1); (try have v2 := Kp.at_ hk v2); (try have v3 := Kp.at_ hk v3); (try have hld := hld _ hk); exact ⟨_, opy⟩) ?_; dsimp only [AV.cells, putA, List.set_cons_zero, List.set_cons_succ])
        exact OpsP.nil
      ((repeat with_reducible refine WP.seqs ?_); refine WP.rg ?_)
      ((repeat with_reducible refine WP.seqs ?_); refine WP.rg ?_)
      ((repeat with_reducible refine WP.seqs ?_); first | refine WP.seq (WP.condF rfl ?_) | refine WP.condF rfl ?_)
      refine WP.skip ?_; repeat (first | with_reducible refine Sq.n ?_ | with_reducible refine Sq.ret ?_ | with_reducible refine Sq.exit ?_ | with_reducible refine Bk.n ?_ | with_reducible refine Bk.ret ?_ | with_reducible refine Bk.exit ?_ | with_reducible refine Bk.ex' (by decide) ?_ | with_reducible refine Lp.ret ?_ | with_reducible refine Lp.exit ?_ | with_reducible refine Lx.exit ?_)
      refine WP.rS (fun _ => True) (n0 := max n4 n5) trivial ?_
      apply Exists.intro; apply Exists.intro; apply And.intro
      · intro n hn
        have hv6 := hv6 n (by omega)
        have hag2 := hag2 n (by omega)
        have rT : True := trivial
        (refine OpsP.pu rfl rfl (fun H2 hk => by exact ⟨_, opy⟩) ?_; dsimp only [AV.cells, putA, List.set_cons_zero, List.set_cons_succ])
        (refine OpsP.pu rfl rfl (fun H2 hk => by exact ⟨_, opy⟩) ?_; dsimp only [AV.cells, putA, List.set_cons_zero, List.set_cons_succ])
        (refine OpsP.cl rfl rfl ?_; dsimp only [AV.cells, putA, List.set_cons_zero, List.set_cons_succ])
        (refine OpsP.pu rfl rfl (fun H2 hk => by exact ⟨_, opy⟩) ?_; dsimp only [AV.cells, putA, List.set_cons_zero, List.set_cons_succ])
        (refine OpsP.pu rfl rfl (fun H2 hk => by exact ⟨_, opy⟩) ?_; dsimp only [AV.cells, putA, List.set_cons_zero, List.set_cons_succ])
        (refine OpsP.pu rfl rfl (fun H2 hk => by exact ⟨_, opy⟩) ?_; dsimp only [AV.cells, putA, List.set_cons_zero, List.set_cons_succ])
        (refine OpsP.pu rfl rfl (fun H2 hk => by exact ⟨_, opy⟩) ?_; dsimp only [AV.cells, putA, List.set_cons_zero, List.set_cons_succ])
        (refine OpsP.pu rfl rfl (fun H2 hk => by exact ⟨_, opy⟩) ?_; dsimp only [AV.cells, putA, List.set_cons_zero, List.set_cons_succ])
        (refine OpsP.pu rfl rfl (fun H2 hk => by exact ⟨_, opy⟩) ?_; dsimp only [AV.cells, putA, List.set_cons_zero, List.set_cons_succ])
        (refine OpsP.pu rfl rfl (fun H2 hk => by exact ⟨_, opy⟩) ?_; dsimp only [AV.cells, putA, List.set_cons_zero, List.set_cons_succ])
        (refine OpsP.cl rfl rfl ?_; dsimp only [AV.cells, putA, List.set_cons_zero, List.set_cons_succ])
        (refine OpsP.pu rfl rfl (fun H2 hk => by exact ⟨_, opy⟩) ?_; dsimp only [AV.cells, putA, List.set_cons_zero, List.set_cons_succ])
        (refine OpsP.pu rfl rfl (fun H2 hk => by exact ⟨_, opy⟩) ?_; dsimp only [AV.cells, putA, List.set_cons_zero, List.set_cons_succ])
        (refine OpsP.pu rfl rfl (fun H2 hk => by exact ⟨_, opy⟩) ?_; dsimp only [AV.cells, putA, List.set_cons_zero, List.set_cons_succ])
        (refine OpsP.pu rfl rfl (fun H2 hk => by exact ⟨_, opy⟩) ?_; dsimp only [AV.cells, putA, List.set_cons_zero, List.set_cons_succ])
        (refine OpsP.pu rfl rfl (fun H2 hk => by exact ⟨_, opy⟩) ?_; dsimp only [AV.cells, putA, List.set_cons_zero, List.set_cons_succ])
        exact OpsP.nil
      ((repeat with_reducible refine WP.seqs ?_); refine WP.rg ?_)
      refine WP.ret ?_; repeat (first | with_reducible refine Sq.n ?_ | with_reducible refine Sq.ret ?_ | with_reducible refine Sq.exit ?_ | with_reducible refine Bk.n ?_ | with_reducible refine Bk.ret ?_ | with_reducible refine Bk.exit ?_ | with_reducible refine Bk.ex' (by decide) ?_ | with_reducible refine Lp.ret ?_ | with_reducible refine Lp.exit ?_ | with_reducible refine Lx.exit ?_)
      exact Fe.r1 rfl rfl
  obtain ⟨v, H', h, rfl⟩ := key
  exact ⟨H', h⟩
end Go.Proofs.YtiifcfngbbhgoaaGreatDoor.Rd.mMetadataRequest

