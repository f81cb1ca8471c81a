/-
  THE MESSAGE MetadataRequest as the reference has it: its fields, in memory.
-/
import Derived.Test.YtiifcfngbbhgoaaGreatDoorQTrWrite
set_option linter.constructorNameAsVariable false
set_option linter.unusedVariables false
set_option linter.unusedSimpArgs false
namespace Go.Proofs.YtiifcfngbbhgoaaGreatDoor.Rd.mMetadataRequest
open Go Go.Proofs.YtiifcfngbbhgoaaGreatDoor.Ax Go.Proofs.YtiifcfngbbhgoaaGreatDoor.Wire Go.Proofs.YtiifcfngbbhgoaaGreatDoor.Rd
set_option maxRecDepth 100000
set_option maxHeartbeats 1000000
def fd_sMetadataRequestTopic : Fdl := (.fld 7 10 (-1) (-1) (-1) 0 0 .nil (.fld 8 0 (-1) 10 (-1) 0 0 .nil .nil))
theorem sp_sMetadataRequestTopic (H : Heap) : ∃ v H', CA P NS 14 [] H (v, H') ∧ (∃ i, v = .sl i 0 2 ∧ FdAt H' (.sl i 0 2) fd_sMetadataRequestTopic) ∧ Kp H H' := by
  have q0 : buildA P 47 [(0, .i .i64 7), (1, .i .i64 10), (2, .i .i64 (-1)), (3, .i .i64 (-1)), (4, .i .i64 (-1))] = some (.g [.i .i64 7, .i .i64 10, .i .i64 (-1), .i .i64 (-1), .i .i64 (-1), .i .i64 0, .i .i64 0, .s0]) := by kernel_rfl
  have q1 : buildA P 47 [(0, .i .i64 8), (2, .i .i64 (-1)), (3, .i .i64 10), (4, .i .i64 (-1))] = some (.g [.i .i64 8, .i .i64 0, .i .i64 (-1), .i .i64 10, .i .i64 (-1), .i .i64 0, .i .i64 0, .s0]) := by kernel_rfl
  have qs : buildSliceA P H 31 2 [(0, .g [.i .i64 7, .i .i64 10, .i .i64 (-1), .i .i64 (-1), .i .i64 (-1), .i .i64 0, .i .i64 0, .s0]), (1, .g [.i .i64 8, .i .i64 0, .i .i64 (-1), .i .i64 10, .i .i64 (-1), .i .i64 0, .i .i64 0, .s0])] = some (.sl H.length 0 2, H ++ [.cells 47 .row [.i .i64 7, .i .i64 10, .i .i64 (-1), .i .i64 (-1), .i .i64 (-1), .i .i64 0, .i .i64 0, .s0, .i .i64 8, .i .i64 0, .i .i64 (-1), .i .i64 10, .i .i64 (-1), .i .i64 0, .i .i64 0, .s0]]) := by kernel_rfl
  have hat : (H ++ [Blk.cells 47 .row [.i .i64 7, .i .i64 10, .i .i64 (-1), .i .i64 (-1), .i .i64 (-1), .i .i64 0, .i .i64 0, .s0, .i .i64 8, .i .i64 0, .i .i64 (-1), .i .i64 10, .i .i64 (-1), .i .i64 0, .i .i64 0, .s0]])[H.length]? = some (.cells 47 .row [.i .i64 7, .i .i64 10, .i .i64 (-1), .i .i64 (-1), .i .i64 (-1), .i .i64 0, .i .i64 0, .s0, .i .i64 8, .i .i64 0, .i .i64 (-1), .i .i64 10, .i .i64 (-1), .i .i64 0, .i .i64 0, .s0]) := by simp
  have ks : Kp H (H ++ [.cells 47 .row [.i .i64 7, .i .i64 10, .i .i64 (-1), .i .i64 (-1), .i .i64 (-1), .i .i64 0, .i .i64 0, .s0, .i .i64 8, .i .i64 0, .i .i64 (-1), .i .i64 10, .i .i64 (-1), .i .i64 0, .i .i64 0, .s0]]) := Kp.app _ _
  have hfd : FdC (H ++ [.cells 47 .row [.i .i64 7, .i .i64 10, .i .i64 (-1), .i .i64 (-1), .i .i64 (-1), .i .i64 0, .i .i64 0, .s0, .i .i64 8, .i .i64 0, .i .i64 (-1), .i .i64 10, .i .i64 (-1), .i .i64 0, .i .i64 0, .s0]]) fd_sMetadataRequestTopic [.i .i64 7, .i .i64 10, .i .i64 (-1), .i .i64 (-1), .i .i64 (-1), .i .i64 0, .i .i64 0, .s0, .i .i64 8, .i .i64 0, .i .i64 (-1), .i .i64 10, .i .i64 (-1), .i .i64 0, .i .i64 0, .s0] := ⟨_, _, rfl, .inl ⟨rfl, .inl rfl⟩, ⟨_, _, rfl, .inl ⟨rfl, .inl rfl⟩, rfl⟩⟩
  have hfa : FdAt (H ++ [.cells 47 .row [.i .i64 7, .i .i64 10, .i .i64 (-1), .i .i64 (-1), .i .i64 (-1), .i .i64 0, .i .i64 0, .s0, .i .i64 8, .i .i64 0, .i .i64 (-1), .i .i64 10, .i .i64 (-1), .i .i64 0, .i .i64 0, .s0]]) (.sl H.length 0 2) fd_sMetadataRequestTopic := .inr ⟨_, _, _, _, rfl, hat, hfd, (fun h => by cases h)⟩
  have k9 : Kp H (H ++ [.cells 47 .row [.i .i64 7, .i .i64 10, .i .i64 (-1), .i .i64 (-1), .i .i64 (-1), .i .i64 0, .i .i64 0, .s0, .i .i64 8, .i .i64 0, .i .i64 (-1), .i .i64 10, .i .i64 (-1), .i .i64 0, .i .i64 0, .s0]]) := ks
  generalize H.length = ii at qs hfa
  generalize H ++ [Blk.cells 47 .row [.i .i64 7, .i .i64 10, .i .i64 (-1), .i .i64 (-1), .i .i64 (-1), .i .i64 0, .i .i64 0, .s0, .i .i64 8, .i .i64 0, .i .i64 (-1), .i .i64 10, .i .i64 (-1), .i .i64 0, .i .i64 0, .s0]] = HR at qs hfa k9
  refine CA.wp (fn := Tryz.f14) (R := fun v H' => (∃ i, v = .sl i 0 2 ∧ FdAt H' (.sl i 0 2) fd_sMetadataRequestTopic) ∧ Kp H H') (by kernel_rfl) rfl ?_
  dsimp only [Tryz.f14]
  dsimp only [List.length_cons, List.length_nil, List.cons_append, List.nil_append, Nat.reduceSub, Nat.reduceAdd, List.replicate]
  ((repeat with_reducible refine WP.seqs ?_); refine WP.rg ?_)
  ((repeat with_reducible refine WP.seqs ?_); refine WP.rg ?_)
  refine WP.ret ?_; repeat (first | with_reducible refine Sq.n ?_ | with_reducible refine Sq.ret ?_ | with_reducible refine Sq.exit ?_ | with_reducible refine Bk.n ?_ | with_reducible refine Bk.ret ?_ | with_reducible refine Bk.exit ?_ | with_reducible refine Bk.ex' (by decide) ?_ | with_reducible refine Lp.ret ?_ | with_reducible refine Lp.exit ?_ | with_reducible refine Lx.exit ?_)
  exact Fe.r1 rfl ⟨⟨ii, rfl, hfa⟩, k9⟩
def fd_MetadataRequest : Fdl := (.fld 11 0 (-1) 1 (-1) 0 10 fd_sMetadataRequestTopic (.fld 0 4 (-1) (-1) (-1) 0 0 .nil (.fld 0 8 10 (-1) (-1) 0 0 .nil (.fld 0 8 (-1) (-1) (-1) 0 0 .nil .nil))))
theorem sp_MetadataRequest (H : Heap) : ∃ v H', CA P NS 7 [] H (v, H') ∧ (∃ i, v = .g [.sl i 0 4, .i .i64 9] ∧ FdAt H' (.sl i 0 4) fd_MetadataRequest) ∧ Kp H H' := by
  obtain ⟨b, H0, hal, k0, v0⟩ := alloc_var (H := H) (e := 33) (z := [.s0, .i .i64 0]) (by kernel_rfl) rfl
  obtain ⟨w1, H1, c1, ⟨i1, rfl, f1⟩, k1⟩ := sp_sMetadataRequestTopic H0
  have q0 : buildA P 47 [(0, .i .i64 11), (2, .i .i64 (-1)), (3, .i .i64 1), (4, .i .i64 (-1)), (6, .i .i64 10), (7, .sl i1 0 2)] = some (.g [.i .i64 11, .i .i64 0, .i .i64 (-1), .i .i64 1, .i .i64 (-1), .i .i64 0, .i .i64 10, .sl i1 0 2]) := by kernel_rfl
  have q1 : buildA P 47 [(0, .i .i64 0), (1, .i .i64 4), (2, .i .i64 (-1)), (3, .i .i64 (-1)), (4, .i .i64 (-1))] = some (.g [.i .i64 0, .i .i64 4, .i .i64 (-1), .i .i64 (-1), .i .i64 (-1), .i .i64 0, .i .i64 0, .s0]) := by kernel_rfl
  have q2 : buildA P 47 [(0, .i .i64 0), (1, .i .i64 8), (2, .i .i64 10), (3, .i .i64 (-1)), (4, .i .i64 (-1))] = some (.g [.i .i64 0, .i .i64 8, .i .i64 10, .i .i64 (-1), .i .i64 (-1), .i .i64 0, .i .i64 0, .s0]) := by kernel_rfl
  have q3 : buildA P 47 [(0, .i .i64 0), (1, .i .i64 8), (2, .i .i64 (-1)), (3, .i .i64 (-1)), (4, .i .i64 (-1))] = some (.g [.i .i64 0, .i .i64 8, .i .i64 (-1), .i .i64 (-1), .i .i64 (-1), .i .i64 0, .i .i64 0, .s0]) := by kernel_rfl
  have qs : buildSliceA P H1 31 4 [(0, .g [.i .i64 11, .i .i64 0, .i .i64 (-1), .i .i64 1, .i .i64 (-1), .i .i64 0, .i .i64 10, .sl i1 0 2]), (1, .g [.i .i64 0, .i .i64 4, .i .i64 (-1), .i .i64 (-1), .i .i64 (-1), .i .i64 0, .i .i64 0, .s0]), (2, .g [.i .i64 0, .i .i64 8, .i .i64 10, .i .i64 (-1), .i .i64 (-1), .i .i64 0, .i .i64 0, .s0]), (3, .g [.i .i64 0, .i .i64 8, .i .i64 (-1), .i .i64 (-1), .i .i64 (-1), .i .i64 0, .i .i64 0, .s0])] = some (.sl H1.length 0 4, H1 ++ [.cells 47 .row [.i .i64 11, .i .i64 0, .i .i64 (-1), .i .i64 1, .i .i64 (-1), .i .i64 0, .i .i64 10, .sl i1 0 2, .i .i64 0, .i .i64 4, .i .i64 (-1), .i .i64 (-1), .i .i64 (-1), .i .i64 0, .i .i64 0, .s0, .i .i64 0, .i .i64 8, .i .i64 10, .i .i64 (-1), .i .i64 (-1), .i .i64 0, .i .i64 0, .s0, .i .i64 0, .i .i64 8, .i .i64 (-1), .i .i64 (-1), .i .i64 (-1), .i .i64 0, .i .i64 0, .s0]]) := by kernel_rfl
  have hat : (H1 ++ [Blk.cells 47 .row [.i .i64 11, .i .i64 0, .i .i64 (-1), .i .i64 1, .i .i64 (-1), .i .i64 0, .i .i64 10, .sl i1 0 2, .i .i64 0, .i .i64 4, .i .i64 (-1), .i .i64 (-1), .i .i64 (-1), .i .i64 0, .i .i64 0, .s0, .i .i64 0, .i .i64 8, .i .i64 10, .i .i64 (-1), .i .i64 (-1), .i .i64 0, .i .i64 0, .s0, .i .i64 0, .i .i64 8, .i .i64 (-1), .i .i64 (-1), .i .i64 (-1), .i .i64 0, .i .i64 0, .s0]])[H1.length]? = some (.cells 47 .row [.i .i64 11, .i .i64 0, .i .i64 (-1), .i .i64 1, .i .i64 (-1), .i .i64 0, .i .i64 10, .sl i1 0 2, .i .i64 0, .i .i64 4, .i .i64 (-1), .i .i64 (-1), .i .i64 (-1), .i .i64 0, .i .i64 0, .s0, .i .i64 0, .i .i64 8, .i .i64 10, .i .i64 (-1), .i .i64 (-1), .i .i64 0, .i .i64 0, .s0, .i .i64 0, .i .i64 8, .i .i64 (-1), .i .i64 (-1), .i .i64 (-1), .i .i64 0, .i .i64 0, .s0]) := by simp
  have ks : Kp H1 (H1 ++ [.cells 47 .row [.i .i64 11, .i .i64 0, .i .i64 (-1), .i .i64 1, .i .i64 (-1), .i .i64 0, .i .i64 10, .sl i1 0 2, .i .i64 0, .i .i64 4, .i .i64 (-1), .i .i64 (-1), .i .i64 (-1), .i .i64 0, .i .i64 0, .s0, .i .i64 0, .i .i64 8, .i .i64 10, .i .i64 (-1), .i .i64 (-1), .i .i64 0, .i .i64 0, .s0, .i .i64 0, .i .i64 8, .i .i64 (-1), .i .i64 (-1), .i .i64 (-1), .i .i64 0, .i .i64 0, .s0]]) := Kp.app _ _
  have hfd : FdC (H1 ++ [.cells 47 .row [.i .i64 11, .i .i64 0, .i .i64 (-1), .i .i64 1, .i .i64 (-1), .i .i64 0, .i .i64 10, .sl i1 0 2, .i .i64 0, .i .i64 4, .i .i64 (-1), .i .i64 (-1), .i .i64 (-1), .i .i64 0, .i .i64 0, .s0, .i .i64 0, .i .i64 8, .i .i64 10, .i .i64 (-1), .i .i64 (-1), .i .i64 0, .i .i64 0, .s0, .i .i64 0, .i .i64 8, .i .i64 (-1), .i .i64 (-1), .i .i64 (-1), .i .i64 0, .i .i64 0, .s0]]) fd_MetadataRequest [.i .i64 11, .i .i64 0, .i .i64 (-1), .i .i64 1, .i .i64 (-1), .i .i64 0, .i .i64 10, .sl i1 0 2, .i .i64 0, .i .i64 4, .i .i64 (-1), .i .i64 (-1), .i .i64 (-1), .i .i64 0, .i .i64 0, .s0, .i .i64 0, .i .i64 8, .i .i64 10, .i .i64 (-1), .i .i64 (-1), .i .i64 0, .i .i64 0, .s0, .i .i64 0, .i .i64 8, .i .i64 (-1), .i .i64 (-1), .i .i64 (-1), .i .i64 0, .i .i64 0, .s0] := ⟨_, _, rfl, fdat_kp ks f1, ⟨_, _, rfl, .inl ⟨rfl, .inl rfl⟩, ⟨_, _, rfl, .inl ⟨rfl, .inl rfl⟩, ⟨_, _, rfl, .inl ⟨rfl, .inl rfl⟩, rfl⟩⟩⟩⟩
  have hfa : FdAt (H1 ++ [.cells 47 .row [.i .i64 11, .i .i64 0, .i .i64 (-1), .i .i64 1, .i .i64 (-1), .i .i64 0, .i .i64 10, .sl i1 0 2, .i .i64 0, .i .i64 4, .i .i64 (-1), .i .i64 (-1), .i .i64 (-1), .i .i64 0, .i .i64 0, .s0, .i .i64 0, .i .i64 8, .i .i64 10, .i .i64 (-1), .i .i64 (-1), .i .i64 0, .i .i64 0, .s0, .i .i64 0, .i .i64 8, .i .i64 (-1), .i .i64 (-1), .i .i64 (-1), .i .i64 0, .i .i64 0, .s0]]) (.sl H1.length 0 4) fd_MetadataRequest := .inr ⟨_, _, _, _, rfl, hat, hfd, (fun h => by cases h)⟩
  have k9 : Kp H (H1 ++ [.cells 47 .row [.i .i64 11, .i .i64 0, .i .i64 (-1), .i .i64 1, .i .i64 (-1), .i .i64 0, .i .i64 10, .sl i1 0 2, .i .i64 0, .i .i64 4, .i .i64 (-1), .i .i64 (-1), .i .i64 (-1), .i .i64 0, .i .i64 0, .s0, .i .i64 0, .i .i64 8, .i .i64 10, .i .i64 (-1), .i .i64 (-1), .i .i64 0, .i .i64 0, .s0, .i .i64 0, .i .i64 8, .i .i64 (-1), .i .i64 (-1), .i .i64 (-1), .i .i64 0, .i .i64 0, .s0]]) := ((k0.trans k1).trans ks)
  have v9 := Kp.at_ (k1.trans ks) v0.1
  have qm : ∀ i, buildA P 33 [(1, .i .i64 9), (0, .sl i 0 4)] = some (.g [.sl i 0 4, .i .i64 9]) := fun i => by kernel_rfl
  generalize hii : H1.length = ii at qs hfa
  generalize H1 ++ [Blk.cells 47 .row [.i .i64 11, .i .i64 0, .i .i64 (-1), .i .i64 1, .i .i64 (-1), .i .i64 0, .i .i64 10, .sl i1 0 2, .i .i64 0, .i .i64 4, .i .i64 (-1), .i .i64 (-1), .i .i64 (-1), .i .i64 0, .i .i64 0, .s0, .i .i64 0, .i .i64 8, .i .i64 10, .i .i64 (-1), .i .i64 (-1), .i .i64 0, .i .i64 0, .s0, .i .i64 0, .i .i64 8, .i .i64 (-1), .i .i64 (-1), .i .i64 (-1), .i .i64 0, .i .i64 0, .s0]] = HR at qs hfa k9 v9
  have qm := qm ii
  obtain ⟨H9, hst, hv9, ho9, hl9⟩ := store_var (cs := [.sl ii 0 4, .i .i64 9]) v9 (sz := 2) (by kernel_rfl) rfl rfl rfl
  have k10 : Kp H H9 := kp_store k9 v0.2 ho9 hl9
  have hfa9 : FdAt H9 (.sl ii 0 4) fd_MetadataRequest := fdat_store hfa v9 ho9 rfl
  refine CA.wp (fn := Tryz.f7) (R := fun v H' => (∃ i, v = .g [.sl i 0 4, .i .i64 9] ∧ FdAt H' (.sl i 0 4) fd_MetadataRequest) ∧ Kp H H') (by kernel_rfl) rfl ?_
  dsimp only [Tryz.f7]
  dsimp only [List.length_cons, List.length_nil, List.cons_append, List.nil_append, Nat.reduceSub, Nat.reduceAdd, List.replicate]
  ((repeat with_reducible refine WP.seqs ?_); refine WP.rg ?_)
  ((repeat with_reducible refine WP.seqs ?_); refine WP.rg ?_)
  refine WP.ret ?_; repeat (first | with_reducible refine Sq.n ?_ | with_reducible refine Sq.ret ?_ | with_reducible refine Sq.exit ?_ | with_reducible refine Bk.n ?_ | with_reducible refine Bk.ret ?_ | with_reducible refine Bk.exit ?_ | with_reducible refine Bk.ex' (by decide) ?_ | with_reducible refine Lp.ret ?_ | with_reducible refine Lp.exit ?_ | with_reducible refine Lx.exit ?_)
  have hres : loadA P H9 33 (.p b 0) = some (.g [.sl ii 0 4, .i .i64 9]) := ldw hv9 (by kernel_rfl) (sz2M) rfl
  exact Fe.r1 (v := .g [.sl ii 0 4, .i .i64 9]) (by simp [resultsA, hres]) ⟨⟨ii, rfl, hfa9⟩, k10⟩
theorem sp_plain : fd_MetadataRequest.plain = true := by decide +kernel
theorem sp_len : fd_MetadataRequest.len ≤ 1000 := by decide +kernel
theorem sp_cost : fd_MetadataRequest.cost ≤ 100000 := by decide +kernel
end Go.Proofs.YtiifcfngbbhgoaaGreatDoor.Rd.mMetadataRequest

