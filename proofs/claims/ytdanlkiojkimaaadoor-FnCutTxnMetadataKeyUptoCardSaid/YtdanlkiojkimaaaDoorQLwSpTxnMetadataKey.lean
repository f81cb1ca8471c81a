/-
  THE MESSAGE TxnMetadataKey as the reference has it: its fields, in memory.
-/
import Derived.Test.YtdanlkiojkimaaaDoorQTrWrite
set_option linter.constructorNameAsVariable false
set_option linter.unusedVariables false
set_option linter.unusedSimpArgs false
namespace Go.Proofs.YtdanlkiojkimaaaDoor.Rd.mTxnMetadataKey
open Go Go.Proofs.YtdanlkiojkimaaaDoor.Ax Go.Proofs.YtdanlkiojkimaaaDoor.Wire Go.Proofs.YtdanlkiojkimaaaDoor.Rd
set_option maxRecDepth 100000
set_option maxHeartbeats 1000000
def fd_TxnMetadataKey : Fdl := (.fld 8 0 (-1) (-1) (-1) 0 0 .nil .nil)
theorem sp_TxnMetadataKey (H : Heap) : ∃ v H', CA P NS 11 [] H (v, H') ∧ (∃ i, v = .g [.sl i 0 1, .i .i64 (-1)] ∧ FdAt H' (.sl i 0 1) fd_TxnMetadataKey) ∧ Kp H H' := by
  obtain ⟨b, H0, hal, k0, v0⟩ := alloc_var (H := H) (e := 32) (z := [.s0, .i .i64 0]) (by kernel_rfl) rfl
  have q0 : buildA P 68 [(0, .i .i64 8), (2, .i .i64 (-1)), (3, .i .i64 (-1)), (4, .i .i64 (-1))] = some (.g [.i .i64 8, .i .i64 0, .i .i64 (-1), .i .i64 (-1), .i .i64 (-1), .i .i64 0, .i .i64 0, .s0]) := by kernel_rfl
  have qs : buildSliceA P H0 30 1 [(0, .g [.i .i64 8, .i .i64 0, .i .i64 (-1), .i .i64 (-1), .i .i64 (-1), .i .i64 0, .i .i64 0, .s0])] = some (.sl H0.length 0 1, H0 ++ [.cells 68 .row [.i .i64 8, .i .i64 0, .i .i64 (-1), .i .i64 (-1), .i .i64 (-1), .i .i64 0, .i .i64 0, .s0]]) := by kernel_rfl
  have hat : (H0 ++ [Blk.cells 68 .row [.i .i64 8, .i .i64 0, .i .i64 (-1), .i .i64 (-1), .i .i64 (-1), .i .i64 0, .i .i64 0, .s0]])[H0.length]? = some (.cells 68 .row [.i .i64 8, .i .i64 0, .i .i64 (-1), .i .i64 (-1), .i .i64 (-1), .i .i64 0, .i .i64 0, .s0]) := by simp
  have ks : Kp H0 (H0 ++ [.cells 68 .row [.i .i64 8, .i .i64 0, .i .i64 (-1), .i .i64 (-1), .i .i64 (-1), .i .i64 0, .i .i64 0, .s0]]) := Kp.app _ _
  have hfd : FdC (H0 ++ [.cells 68 .row [.i .i64 8, .i .i64 0, .i .i64 (-1), .i .i64 (-1), .i .i64 (-1), .i .i64 0, .i .i64 0, .s0]]) fd_TxnMetadataKey [.i .i64 8, .i .i64 0, .i .i64 (-1), .i .i64 (-1), .i .i64 (-1), .i .i64 0, .i .i64 0, .s0] := ⟨_, _, rfl, .inl ⟨rfl, .inl rfl⟩, rfl⟩
  have hfa : FdAt (H0 ++ [.cells 68 .row [.i .i64 8, .i .i64 0, .i .i64 (-1), .i .i64 (-1), .i .i64 (-1), .i .i64 0, .i .i64 0, .s0]]) (.sl H0.length 0 1) fd_TxnMetadataKey := .inr ⟨_, _, _, _, rfl, hat, hfd, (fun h => by cases h)⟩
  have k9 : Kp H (H0 ++ [.cells 68 .row [.i .i64 8, .i .i64 0, .i .i64 (-1), .i .i64 (-1), .i .i64 (-1), .i .i64 0, .i .i64 0, .s0]]) := (k0.trans ks)
  have v9 := Kp.at_ ks v0.1
  have qm : ∀ i, buildA P 32 [(1, .i .i64 (-1)), (0, .sl i 0 1)] = some (.g [.sl i 0 1, .i .i64 (-1)]) := fun i => by kernel_rfl
  generalize hii : H0.length = ii at qs hfa
  generalize H0 ++ [Blk.cells 68 .row [.i .i64 8, .i .i64 0, .i .i64 (-1), .i .i64 (-1), .i .i64 (-1), .i .i64 0, .i .i64 0, .s0]] = HR at qs hfa k9 v9
  have qm := qm ii
  obtain ⟨H9, hst, hv9, ho9, hl9⟩ := store_var (cs := [.sl ii 0 1, .i .i64 (-1)]) v9 (sz := 2) (by kernel_rfl) rfl rfl rfl
  have k10 : Kp H H9 := kp_store k9 v0.2 ho9 hl9
  have hfa9 : FdAt H9 (.sl ii 0 1) fd_TxnMetadataKey := fdat_store hfa v9 ho9 rfl
  refine CA.wp (fn := Tryd.f11) (R := fun v H' => (∃ i, v = .g [.sl i 0 1, .i .i64 (-1)] ∧ FdAt H' (.sl i 0 1) fd_TxnMetadataKey) ∧ Kp H H') (by kernel_rfl) rfl ?_
  dsimp only [Tryd.f11]
  dsimp only [List.length_cons, List.length_nil, List.cons_append, List.nil_append, Nat.reduceSub, Nat.reduceAdd, List.replicate]
  ((repeat with_reducible refine WP.seqs ?_); refine WP.rg ?_)
  ((repeat with_reducible refine WP.seqs ?_); refine WP.rg ?_)
  refine WP.ret ?_; repeat (first | with_reducible refine Sq.n ?_ | with_reducible refine Sq.ret ?_ | with_reducible refine Sq.exit ?_ | with_reducible refine Bk.n ?_ | with_reducible refine Bk.ret ?_ | with_reducible refine Bk.exit ?_ | with_reducible refine Bk.ex' (by decide) ?_ | with_reducible refine Lp.ret ?_ | with_reducible refine Lp.exit ?_ | with_reducible refine Lx.exit ?_)
  have hres : loadA P H9 32 (.p b 0) = some (.g [.sl ii 0 1, .i .i64 (-1)]) := ldw hv9 (by kernel_rfl) (sz2M) rfl
  exact Fe.r1 (v := .g [.sl ii 0 1, .i .i64 (-1)]) (by simp [resultsA, hres]) ⟨⟨ii, rfl, hfa9⟩, k10⟩
theorem sp_plain : fd_TxnMetadataKey.plain = true := by decide +kernel
theorem sp_len : fd_TxnMetadataKey.len ≤ 1000 := by decide +kernel
theorem sp_cost : fd_TxnMetadataKey.cost ≤ 100000 := by decide +kernel
end Go.Proofs.YtdanlkiojkimaaaDoor.Rd.mTxnMetadataKey

