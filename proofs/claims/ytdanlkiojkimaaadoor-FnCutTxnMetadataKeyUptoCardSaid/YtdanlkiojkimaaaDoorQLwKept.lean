/-
  WHAT THE REFERENCE KEEPS: the version in two octets, and behind it what is written of the tree.
-/
import Derived.Test.YtdanlkiojkimaaaDoorQTrWrite
import Derived.Test.YtdanlkiojkimaaaDoorQWireS
import Derived.Test.YtdanlkiojkimaaaDoorQRdStr
import Derived.Test.YtdanlkiojkimaaaDoorQTrKit
set_option linter.constructorNameAsVariable false
set_option linter.unusedVariables false
set_option linter.unusedSimpArgs false
namespace Go.Proofs.YtdanlkiojkimaaaDoor.Rd
open Go Go.Proofs.YtdanlkiojkimaaaDoor.Ax Go.Proofs.YtdanlkiojkimaaaDoor.Wire Go.Proofs.YtdanlkiojkimaaaDoor.Rd
set_option maxRecDepth 100000
set_option maxHeartbeats 1000000
theorem verOf_enc {flex : Bool} {g : F} {bs r : B} {x : V} (h : dec flex (.leaf 0 .i16 false g) bs = some (x, r)) : verOf (enc flex (.leaf 0 .i16 false g) x) = verOf bs := by
  obtain ⟨y, rfl⟩ := verOf_dec h
  have hin := verOf_in bs
  generalize verOf bs = k at hin ⊢
  show verOf (be 2 k ++ enc flex g y) = k
  unfold verOf
  rw [rdI_be (sgn_be2 (show inI 2 k by simp only [inI]; omega))]
theorem verOf_take (bs : B) (n : Nat) : verOf (bs.take n) = 0 ∨ verOf (bs.take n) = verOf bs := by
  cases h : rdI 2 (bs.take n) with
  | none => left; unfold verOf; rw [h]
  | some p =>
    obtain ⟨k, r⟩ := p
    right
    have h2 := rdI_ext h (bs.drop n)
    rw [List.take_append_drop] at h2
    unfold verOf
    rw [h, h2]
theorem keptB_len (ver : Nat) (flex : Bool) (fd : Fdl) (t : Tr) : (keptB ver flex fd t).length = 2 + (partS ver flex fd t).length := by
  unfold keptB
  rw [List.length_append, be_length]
theorem mod_run {n8 : Int} (most : Nat) (h0 : 0 < most) (hn : 0 ≤ n8 ∧ n8 < 256) : ∃ k n : Nat, k < most ∧ convA P 5 3 (.i .u8 n8) = some (.i .i64 (n : Nat)) ∧ binA P .rem 3 true (.i .i64 (n : Nat)) (.i .i64 (most : Nat)) = some (.i .i64 (k : Nat)) := by
  obtain ⟨n, rfl⟩ : ∃ n : Nat, n8 = n := ⟨n8.toNat, by omega⟩
  refine ⟨n % most, n, Nat.mod_lt _ h0, cv_u8_int _ (by omega), ?_⟩
  have h := remk n most h0
  exact h
theorem kept_x {H : Heap} {av : AV} {fd : Fdl} {fx : Int} {ver : Nat} {c : List AV} {t : Tr} (hf : FdAt H av fd) (hpl : fd.plain = true) (hln : fd.len ≤ 1000) (ht : TrAt H c t) (htf : t.Fine) (hv : ver < 32768) (hb : (keptB ver (flexAt fx ver) fd t).length ≤ 549755813888) :
    ∃ out H', CA P NS 10 [.g [av, .i .i64 fx], .i .i64 (ver : Nat), .g c] H (out, H') ∧ OutAt H.length H' out (keptB ver (flexAt fx ver) fd t) ∧ Kp H H' := by
  rw [keptB_len] at hb
  obtain ⟨s, l, u, hcc, _, _, _, _, _, hone⟩ := ht.parts
  have hav : av.one = true := by
    rcases hf with ⟨_, rfl | rfl⟩ | ⟨i, ty, kn, c2, rfl, _⟩ <;> rfl
  obtain ⟨b1, Ha, hbx1, ka, v1, _⟩ := box_new (H := H) (e := 32) (cs := [av, .i .i64 fx]) (by have : (AV.i .i64 fx).one = true := rfl; simp [hav, this])
  obtain ⟨b2, Hb, hbx2, kb, v2, _⟩ := box_new (H := Ha) (e := 26) hone
  replace v1 := kb.at_ v1
  have hld : ∀ H2, Kp Hb H2 → loadA P H2 32 (.p b1 0) = some (.g [av, .i .i64 fx]) := fun H2 hk => ldw (hk.at_ v1) (by kernel_rfl) (show sizeA P 32 = some 2 by kernel_rfl) rfl
  have kab := ka.trans kb
  obtain ⟨o1, H1, hfx, ho1, k1⟩ := fix_x (n := ((ver : Nat) : Int)) (size := 2) (by omega) Hb
  obtain ⟨o2, H2, hwr, ho2, k2⟩ := write_x (ver := ver) (fx := fx) (hf.kp (kab.trans k1)) hpl hln (ht.kp (kab.trans k1)) htf (by omega)
  have hL : Hb.length ≤ H2.length := Nat.le_trans k1.1 k2.1
  obtain ⟨o3, H3, hap, ho3, k3⟩ := ap_bytes (str := false) hL (ho1.wk k2) (OutAt.bytes ho2).first (by rw [be_length]; omega)
  have k02 := k1.trans k2
  have kk : Kp Hb H3 := k02.wt k3
  have hns := BytesAt.noS (OutAt.bytes ho2)
  have hres : OutAt H.length H3 o3 (keptB ver (flexAt fx ver) fd t) := OutAt.mono ho3 kab.1
  have hkk := kab.trans kk
  clear ho1 ho2 ho3 hb
  generalize keptB ver (flexAt fx ver) fd t = kbs at hres ⊢
  refine CA.wp (fn := Tryd.f10) (R := fun out H' => OutAt H.length H' out kbs ∧ Kp H H') (by kernel_rfl) rfl ?_
  have hfx : CA P NS 35 [.i .i64 ((ver : Nat) : Int), .i .i64 2] Hb (o1, H1) := hfx
  generalize ((ver : Nat) : Int) = vi at hfx hwr ⊢
  obtain ⟨n1, hfx⟩ := hfx
  obtain ⟨n2, hwr⟩ := hwr
  have r0 := Kp.refl Hb
  subst hcc
  dsimp only [Tryd.f10]
  dsimp only [List.length_cons, List.length_nil, List.cons_append, List.nil_append, Nat.reduceSub, Nat.reduceAdd, List.replicate]
  ((repeat with_reducible refine WP.seqs ?_); refine WP.rg ?_)
  refine WP.rS (Kp Hb) (n0 := max n1 n2) r0 ?_
  apply Exists.intro; apply Exists.intro; apply And.intro
  · intro n hn
    have hfx := hfx n (by omega)
    have hwr := hwr n (by omega)
    (refine OpsP.pu rfl rfl (fun H2 hk => by (try have v1 := Kp.at_ hk v1); (try have v2 := Kp.at_ hk v2); (try have v3 := Kp.at_ hk v3); (try have hld := hld _ hk); exact ⟨_, opy⟩) ?_; dsimp only [AV.cells, putA, List.set_cons_zero, List.set_cons_succ])
    (refine OpsP.cl rfl rfl ?_; dsimp only [AV.cells, putA, List.set_cons_zero, List.set_cons_succ])
    (refine OpsP.pu rfl rfl (fun H2 hk => by (try have v1 := Kp.at_ hk v1); (try have v2 := Kp.at_ hk v2); (try have v3 := Kp.at_ hk v3); (try have hld := hld _ hk); exact ⟨_, opy⟩) ?_; dsimp only [AV.cells, putA, List.set_cons_zero, List.set_cons_succ])
    (refine OpsP.pu rfl rfl (fun H2 hk => by (try have v1 := Kp.at_ hk v1); (try have v2 := Kp.at_ hk v2); (try have v3 := Kp.at_ hk v3); (try have hld := hld _ hk); exact ⟨_, opy⟩) ?_; dsimp only [AV.cells, putA, List.set_cons_zero, List.set_cons_succ])
    (refine OpsP.pu rfl rfl (fun H2 hk => by (try have v1 := Kp.at_ hk v1); (try have v2 := Kp.at_ hk v2); (try have v3 := Kp.at_ hk v3); (try have hld := hld _ hk); exact ⟨_, opy⟩) ?_; dsimp only [AV.cells, putA, List.set_cons_zero, List.set_cons_succ])
    (refine OpsP.cl rfl rfl ?_; dsimp only [AV.cells, putA, List.set_cons_zero, List.set_cons_succ])
    (refine OpsP.op rfl rfl rfl ?_; dsimp only [AV.cells, putA, List.set_cons_zero, List.set_cons_succ])
    (refine OpsP.pu rfl rfl (fun H2 hk => by (try have v1 := Kp.at_ hk v1); (try have v2 := Kp.at_ hk v2); (try have v3 := Kp.at_ hk v3); (try have hld := hld _ hk); exact ⟨_, opy⟩) ?_; dsimp only [AV.cells, putA, List.set_cons_zero, List.set_cons_succ])
    exact OpsP.nil
  refine WP.ret ?_; repeat (first | with_reducible refine Sq.n ?_ | with_reducible refine Sq.ret ?_ | with_reducible refine Sq.exit ?_ | with_reducible refine Bk.n ?_ | with_reducible refine Bk.ret ?_ | with_reducible refine Bk.exit ?_ | with_reducible refine Bk.ex' (by decide) ?_ | with_reducible refine Lp.ret ?_ | with_reducible refine Lp.exit ?_ | with_reducible refine Lx.exit ?_)
  exact Fe.r1 rfl ⟨hres, hkk⟩
end Go.Proofs.YtdanlkiojkimaaaDoor.Rd

