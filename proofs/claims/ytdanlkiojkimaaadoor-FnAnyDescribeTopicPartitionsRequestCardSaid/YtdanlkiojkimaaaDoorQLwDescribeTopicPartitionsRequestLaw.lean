/-
  THE LAW FnAnyDescribeTopicPartitionsRequest: its run in the abstract machine ends with true.
-/
import Derived.Test.YtdanlkiojkimaaaDoorQLwDescribeTopicPartitionsRequest
import Derived.Test.YtdanlkiojkimaaaDoorQLwSame
set_option linter.constructorNameAsVariable false
set_option linter.unusedVariables false
set_option linter.unusedSimpArgs false
namespace Go.Proofs.YtdanlkiojkimaaaDoor.Rd.mDescribeTopicPartitionsRequest
open Go Go.Proofs.YtdanlkiojkimaaaDoor.Ax Go.Proofs.YtdanlkiojkimaaaDoor.Wire Go.Proofs.YtdanlkiojkimaaaDoor.Rd
set_option maxRecDepth 100000
set_option maxHeartbeats 1000000
theorem maxv_x (H : Heap) (q : AV) : CA P NS 60 [q] H (.i .i16 0, H) := by
  refine CA.go (fn := Tryd.f60) (vs := [_]) (by kernel_rfl) rfl (by first | exact .inr rfl | exact .inl rfl) ?_
  apply Exists.intro
  apply And.intro
  · dsimp only [Tryd.f60]
    dsimp only [List.length_cons, List.length_nil, List.cons_append, List.nil_append, Nat.reduceSub, Nat.reduceAdd, List.replicate]
    refine RU.seq RU.rg ?_
    refine RU.seq RU.rg ?_
    first | exact RU.ret | exact RU.skip
  · rfl
theorem max_x (H : Heap) : CA P NS 31 [] H (.i .i64 0, H ++ [.cells 166 .vr dX]) := by
  have c1 := new_x H
  generalize H ++ [Blk.cells 166 Kn.vr dX] = H1 at c1
  generalize AV.p H.length 0 = q at c1
  have c2 := maxv_x H1 q
  have hc : convA P 40 3 (.i .i16 0) = some (.i .i64 0) := by kernel_rfl
  refine CA.go (fn := Tryd.f31) (vs := [_]) (by kernel_rfl) rfl (by first | exact .inr rfl | exact .inl rfl) ?_
  apply Exists.intro
  apply And.intro
  · dsimp only [Tryd.f31]
    dsimp only [List.length_cons, List.length_nil, List.cons_append, List.nil_append, Nat.reduceSub, Nat.reduceAdd, List.replicate]
    refine RU.seq RU.rg ?_
    refine RU.seq RU.rg ?_
    first | exact RU.ret | exact RU.skip
  · rfl
theorem law_long1 {H : Heap} {data : AV} {n8 n : Int} (hl : lenA P 22 data = some (.i .i64 n)) (hn : binA P .gtr 3 true (.i .i64 n) (.i .i64 2147483647) = some (.b true)) : CA P NS 8 [.i .u8 n8, data] H (.b true, H) := by
  refine CA.go (fn := Tryd.f8) (vs := [_]) (by kernel_rfl) rfl (.inr rfl) ?_
  apply Exists.intro
  apply And.intro
  · dsimp only [Tryd.f8]
    dsimp only [List.length_cons, List.length_nil, List.cons_append, List.nil_append, Nat.reduceSub, Nat.reduceAdd, List.replicate]
    refine RU.seq RU.rg ?_
    (apply RU.seqx; rotate_left; focus (simp)); refine RU.seq RU.rg ?_; apply RU.condT rfl
    refine RU.seq RU.rg ?_
    exact RU.ret
  · rfl
theorem law_long2 {H Hm : Heap} {data : AV} {n8 n k : Int} (hmx : CA P NS 31 [] H (.i .i64 0, Hm)) (hl : lenA P 22 data = some (.i .i64 n)) (hn : binA P .gtr 3 true (.i .i64 n) (.i .i64 2147483647) = some (.b false)) (hn2 : binA P .gtr 3 true (.i .i64 n) (.i .i64 1000) = some (.b true)) : CA P NS 8 [.i .u8 n8, data] H (.b true, Hm) := by
  have h0 : binA P .lss 3 true (.i .i64 0) (.i .i64 0) = some (.b false) := by kernel_rfl
  refine CA.go (fn := Tryd.f8) (vs := [_]) (by kernel_rfl) rfl (.inr rfl) ?_
  apply Exists.intro
  apply And.intro
  · dsimp only [Tryd.f8]
    dsimp only [List.length_cons, List.length_nil, List.cons_append, List.nil_append, Nat.reduceSub, Nat.reduceAdd, List.replicate]
    refine RU.seq RU.rg ?_
    refine RU.seq (RU.seq RU.rg (RU.condF rfl RU.skip)) ?_
    refine RU.seq RU.rg ?_
    refine RU.seq (RU.seq RU.rg (RU.condF rfl RU.skip)) ?_
    (apply RU.seqx; rotate_left; focus (simp)); refine RU.seq RU.rg ?_; apply RU.condT rfl
    refine RU.seq RU.rg ?_
    exact RU.ret
  · rfl
theorem law_bad {H Hm H1 : Heap} {data x : AV} {n8 n k : Int} (hmx : CA P NS 31 [] H (.i .i64 0, Hm)) (hl : lenA P 22 data = some (.i .i64 n)) (hn : binA P .gtr 3 true (.i .i64 n) (.i .i64 2147483647) = some (.b false)) (hn2 : binA P .gtr 3 true (.i .i64 n) (.i .i64 1000) = some (.b false))
    (hv : CA P NS 33 [.i .u8 n8, .i .i64 0] Hm (.i .i64 k, Hm)) (ha : CA P NS 32 [.i .i64 k, data] Hm (.t [x, .b false], H1)) : CA P NS 8 [.i .u8 n8, data] H (.b true, H1) := by
  have h0 : binA P .lss 3 true (.i .i64 0) (.i .i64 0) = some (.b false) := by kernel_rfl
  refine CA.go (fn := Tryd.f8) (vs := [_]) (by kernel_rfl) rfl (.inr rfl) ?_
  apply Exists.intro
  apply And.intro
  · dsimp only [Tryd.f8]
    dsimp only [List.length_cons, List.length_nil, List.cons_append, List.nil_append, Nat.reduceSub, Nat.reduceAdd, List.replicate]
    refine RU.seq RU.rg ?_
    refine RU.seq (RU.seq RU.rg (RU.condF rfl RU.skip)) ?_
    refine RU.seq RU.rg ?_
    refine RU.seq (RU.seq RU.rg (RU.condF rfl RU.skip)) ?_
    refine RU.seq (RU.seq RU.rg (RU.condF rfl RU.skip)) ?_
    refine RU.seq RU.rg ?_
    (apply RU.seqx; rotate_left; focus (simp)); refine RU.seq RU.rg ?_; apply RU.condT rfl
    refine RU.seq RU.rg ?_
    exact RU.ret
  · rfl
theorem law_good {H Hm H1 H2 : Heap} {data x y : AV} {n8 n k : Int} (hmx : CA P NS 31 [] H (.i .i64 0, Hm)) (hl : lenA P 22 data = some (.i .i64 n)) (hn : binA P .gtr 3 true (.i .i64 n) (.i .i64 2147483647) = some (.b false)) (hn2 : binA P .gtr 3 true (.i .i64 n) (.i .i64 1000) = some (.b false))
    (hv : CA P NS 33 [.i .u8 n8, .i .i64 0] Hm (.i .i64 k, Hm)) (ha : CA P NS 32 [.i .i64 k, data] Hm (.t [x, .b true], H1)) (hv2 : CA P NS 33 [.i .u8 n8, .i .i64 0] H1 (.i .i64 k, H1)) (ha2 : CA P NS 32 [.i .i64 k, x] H1 (.t [y, .b true], H2)) (hs : CA P NS 15 [x, y] H2 (.b true, H2)) : CA P NS 8 [.i .u8 n8, data] H (.b true, H2) := by
  have h0 : binA P .lss 3 true (.i .i64 0) (.i .i64 0) = some (.b false) := by kernel_rfl
  refine CA.go (fn := Tryd.f8) (vs := [_]) (by kernel_rfl) rfl (.inr rfl) ?_
  apply Exists.intro
  apply And.intro
  · dsimp only [Tryd.f8]
    dsimp only [List.length_cons, List.length_nil, List.cons_append, List.nil_append, Nat.reduceSub, Nat.reduceAdd, List.replicate]
    refine RU.seq RU.rg ?_
    refine RU.seq (RU.seq RU.rg (RU.condF rfl RU.skip)) ?_
    refine RU.seq RU.rg ?_
    refine RU.seq (RU.seq RU.rg (RU.condF rfl RU.skip)) ?_
    refine RU.seq (RU.seq RU.rg (RU.condF rfl RU.skip)) ?_
    refine RU.seq RU.rg ?_
    refine RU.seq (RU.seq RU.rg (RU.condF rfl RU.skip)) ?_
    refine RU.seq RU.rg ?_
    refine RU.seq RU.rg ?_
    exact RU.ret
  · rfl
theorem law_x {H : Heap} {rb0 : Nat} {data : AV} {bs : B} {n8 : Int} (hn8 : 0 ≤ n8 ∧ n8 < 256) (G : Globs H rb0) (hb : BytesAt (fun i => i < H.length) H data bs) : ∃ H', CA P NS 8 [.i .u8 n8, data] H (.b true, H') := by
  have hl := hb.len bty
  by_cases h1 : (2147483647 : Int) < (bs.length : Nat)
  · exact ⟨_, law_long1 hl (gtrT _ _ h1)⟩
  · have hmx := max_x H
    by_cases h2 : (1000 : Int) < (bs.length : Nat)
    · exact ⟨_, law_long2 (k := 0) hmx hl (gtrI _ _ h1) (gtrT _ _ h2)⟩
    · have hkm : ∀ i b, i < H.length → H[i]? = some b → (H ++ [Blk.cells 166 .vr dX])[i]? = some b := fun i b hi hx => by rw [List.getElem?_append_left hi]; exact hx
      have hbm : BytesAt (fun i => i < (H ++ [Blk.cells 166 .vr dX]).length) (H ++ [.cells 166 .vr dX]) data bs := BytesAt.kt hb ⟨by simp, fun i b hi hx => ⟨by simp; omega, hkm i b hi hx⟩⟩
      have Gm := G.keep (H' := H ++ [.cells 166 .vr dX]) (by simp) hkm
      generalize hHm : H ++ [Blk.cells 166 .vr dX] = Hm at hmx hbm Gm
      obtain ⟨k, hk, hv⟩ := ver_run (most := 0) (by omega) hn8
      obtain rfl : k = 0 := by omega
      have hv0 : ∀ H, CA P NS 33 [.i .u8 n8, .i .i64 0] H (.i .i64 0, H) := hv
      obtain ⟨a1, a2⟩ := again_x Gm (BytesAt.dat hbm) (by omega)
      cases hd : optB true evs1 plA plB bs with
      | none =>
        obtain ⟨H1, c1⟩ := a1 hd
        exact ⟨_, law_bad hmx hl (gtrI _ _ h1) (gtrI _ _ h2) (hv0 Hm) c1⟩
      | some w =>
        obtain ⟨out, H1, c1, o1, l1, k1⟩ := a2 w hd
        obtain ⟨hw, hle⟩ := optB_again (evs1 := evs1) (rA := (plA.map (·.1)).drop (evs1.length + 1)) (rB := (plB.map (·.1)).drop (evs1.length + 1)) rfl rfl goodA goodB hd
        obtain ⟨_, b2⟩ := again_x (Gm.keep l1 k1) (BytesAt.dat o1.below) (by omega)
        obtain ⟨out2, H2, c2, o2, l2, k2⟩ := b2 w hw
        have hb1 : BytesAt (fun i => i < H2.length) H2 out w := BytesAt.kt o1.below ⟨l2, fun i b hi hx => ⟨by omega, k2 i b hi hx⟩⟩
        exact ⟨_, law_good hmx hl (gtrI _ _ h1) (gtrI _ _ h2) (hv0 Hm) c1 (hv0 H1) c2 (same_x hb1 o2.below (by omega))⟩
end Go.Proofs.YtdanlkiojkimaaaDoor.Rd.mDescribeTopicPartitionsRequest

