/-
  THE SAME OCTETS, as the reference compares them.
-/
import Derived.Test.YtiifcfngbbhgoagDoorQApKit
import Derived.Test.YtiifcfngbbhgoagDoorQHbAgain
import Derived.Test.YtiifcfngbbhgoagDoorQApUv
set_option linter.constructorNameAsVariable false
set_option linter.unusedVariables false
set_option linter.unusedSimpArgs false
namespace Go.Proofs.YtiifcfngbbhgoagDoor.Rd
open Go Go.Proofs.YtiifcfngbbhgoagDoor.Ax Go.Proofs.YtiifcfngbbhgoagDoor.Wire
set_option maxRecDepth 100000
set_option maxHeartbeats 1000000
def loopOf : List Code → Code
  | .block _ (.loop b) :: _ => b
  | _ :: r => loopOf r
  | [] => .skip
theorem neqU (t : TypeId) (c : Bool) (a : AV) (n : Int) (h : a = .i .u8 n) : binA P .neq t c a a = some (.b false) := by
  subst h
  have e : binA P .neq t c (.i .u8 n) (.i .u8 n) = some (.b (!(n == n))) := by
    simp [binA, binOp, Op.intCmp, ofSem, ofV1]
    rfl
  rw [e]; simp
theorem addi (a : Int) (h : 0 ≤ a) (h1 : a < 4611686018427387904) : binA P .add 3 true (.i .i64 a) (.i .i64 1) = some (.i .i64 (a + 1)) := by
  rw [add]
  congr 2
  simp [IntKind.wrap, IntKind.signed, IntKind.bits]; omega
theorem same_loop {A : Nat → Prop} {H : Heap} {a b : AV} {bs : B} (ha : BytesAt A H a bs) (hb : BytesAt A H b bs) (hlen : bs.length < 4611686018427387904) :
    ∀ (k j : Nat) (x2 x3 x5 x6 x7 x8 x9 x10 x11 x14 x15 x16 x17 x18 x19 x20 x21 x22 x23 x24 x25 : AV), j + k = bs.length →
      ∃ fr1, RU P NS (.loop (loopOf (flat (Tryd.f7.body.getD .skip)))) [a, b, x2, x3, .b false, x5, x6, x7, x8, x9, x10, x11, .i .i64 (bs.length : Nat), .i .i64 (j : Nat), x14, x15, x16, x17, x18, x19, x20, x21, x22, x23, x24, x25] H (.exit 0, fr1, H) ∧ 4 < fr1.length
  | 0, j, x2, x3, x5, x6, x7, x8, x9, x10, x11, x14, x15, x16, x17, x18, x19, x20, x21, x22, x23, x24, x25, hj => by
    have hc : binA P .lss 3 false (.i .i64 (j : Nat)) (.i .i64 (bs.length : Nat)) = some (.b false) := by rw [lss]; simp; omega
    generalize ((j : Nat) : Int) = jj at hc
    generalize ((bs.length : Nat) : Int) = nn at hc
    apply Exists.intro
    apply And.intro
    · dsimp only [Tryd.f7, Option.getD_some, flat, loopOf, List.cons_append, List.nil_append]
      (apply RU.loopx; rotate_left; focus (simp))
      refine RU.seq RU.rg ?_
      (apply RU.seqx; rotate_left; focus (simp))
      apply RU.condF rfl
      exact RU.exit
    · simp
  | k + 1, j, x2, x3, x5, x6, x7, x8, x9, x10, x11, x14, x15, x16, x17, x18, x19, x20, x21, x22, x23, x24, x25, hj => by
    have hc : binA P .lss 3 false (.i .i64 (j : Nat)) (.i .i64 (bs.length : Nat)) = some (.b true) := by rw [lss]; simp; omega
    have hat : bs[j]? = some (bs[j]'(by omega)) := by simp
    obtain ⟨p1, i1, l1⟩ := ha.idx bty .i64 hat
    obtain ⟨p2, i2, l2⟩ := hb.idx bty .i64 hat
    have hne := neqU 5 false (U8 (bs[j]'(by omega))) _ rfl
    have hadd : binA P .add 3 true (.i .i64 (j : Nat)) (.i .i64 1) = some (.i .i64 ((j + 1 : Nat) : Int)) := by rw [addi _ (by omega) (by omega)]; simp
    obtain ⟨fr1, h1, h2⟩ := same_loop ha hb hlen k (j + 1) x2 x3 (.i .i64 (j : Nat)) x6 x7 x8 x9 x10 x11 (.b true) (.i .i64 (j : Nat)) a (.i .i64 (j : Nat)) p1 (U8 (bs[j]'(by omega))) b (.i .i64 (j : Nat)) p2 (U8 (bs[j]'(by omega))) (.b false) (.i .i64 ((j + 1 : Nat) : Int)) (by omega)
    refine ⟨fr1, ?_, h2⟩
    generalize ((j + 1 : Nat) : Int) = j1 at hadd h1
    generalize ((j : Nat) : Int) = jj at hc i1 i2 hadd h1 ⊢
    generalize ((bs.length : Nat) : Int) = nn at hc h1 ⊢
    generalize U8 (bs[j]'(by omega)) = c at l1 l2 hne h1
    dsimp only [Tryd.f7, Option.getD_some, flat, loopOf, List.cons_append, List.nil_append] at h1 ⊢
    apply RU.loop
    rotate_left
    · exact h1
    · refine RU.seq RU.rg ?_
      (apply RU.seq; focus (apply RU.condT rfl; exact RU.skip))
      (apply RU.seq; focus (apply RU.blockN; refine RU.seq RU.rg ?_; refine RU.seq RU.d0 ?_; apply RU.condF rfl; exact RU.skip))
      exact RU.rg
theorem neqI (n : Int) : binA P .neq 3 false (.i .i64 n) (.i .i64 n) = some (.b false) := by
  have e : binA P .neq 3 false (.i .i64 n) (.i .i64 n) = some (.b (!(n == n))) := by
    simp [binA, binOp, Op.intCmp, ofSem, ofV1]
    rfl
  rw [e]; simp
theorem same_x {A : Nat → Prop} {H : Heap} {a b : AV} {bs : B} (ha : BytesAt A H a bs) (hb : BytesAt A H b bs) (hlen : bs.length < 4611686018427387904) : CA P NS 7 [a, b] H (.b true, H) := by
  have la := ha.len bty
  have lb := hb.len bty
  have hn := neqI (bs.length : Nat)
  obtain ⟨fr1, h1, h2⟩ := same_loop ha hb hlen bs.length 0 (.t []) (.t []) (.t []) a (.i .i64 (bs.length : Nat)) b (.i .i64 (bs.length : Nat)) (.b false) a (.t []) (.t []) (.t []) (.t []) (.t []) (.t []) (.t []) (.t []) (.t []) (.t []) (.t []) (.t []) (by omega)
  have h1 : RU P NS (.loop (loopOf (flat (Tryd.f7.body.getD .skip)))) [a, b, .t [], .t [], .b false, .t [], a, .i .i64 (bs.length : Nat), b, .i .i64 (bs.length : Nat), .b false, a, .i .i64 (bs.length : Nat), .i .i64 0, .t [], .t [], .t [], .t [], .t [], .t [], .t [], .t [], .t [], .t [], .t [], .t []] H (.exit 0, fr1, H) := h1
  generalize ((bs.length : Nat) : Int) = nn at la lb hn h1
  refine CA.go (fn := Tryd.f7) (vs := [.b true]) (x := .ret) (by kernel_rfl) rfl (.inr rfl) ⟨fr1.set 4 (.b true), ?_, ?_⟩
  · dsimp only [Tryd.f7, Option.getD_some, flat, loopOf, List.cons_append, List.nil_append] at h1 ⊢
    dsimp only [List.length_cons, List.length_nil, List.cons_append, List.nil_append, Nat.reduceSub, Nat.reduceAdd, List.replicate]
    refine RU.seq RU.rg ?_
    refine RU.seq (RU.seq RU.rg (RU.condF rfl RU.skip)) ?_
    apply RU.seq
    · refine RU.seq RU.rg ?_
      apply RU.block0
      exact h1
    apply RU.seq
    · apply RU.region
      refine OS.op rfl rfl (op_assign rfl) ?_
      exact OS.nil
    exact RU.ret
  · dsimp only [Tryd.f7]
    simp [resultsA, h2]
end Go.Proofs.YtiifcfngbbhgoagDoor.Rd

namespace Go.Proofs.YtiifcfngbbhgoagDoor.Rd.mBrokerHeartbeatRequest
open Go Go.Proofs.YtiifcfngbbhgoagDoor.Ax Go.Proofs.YtiifcfngbbhgoagDoor.Wire Go.Proofs.YtiifcfngbbhgoagDoor.Rd
set_option maxRecDepth 100000
set_option maxHeartbeats 1000000
theorem maxv_x (H : Heap) (q : AV) : CA P NS 9 [q] H (.i .i16 2, H) := by
  refine CA.go (fn := Tryd.f9) (vs := [_]) (by kernel_rfl) rfl (by first | exact .inr rfl | exact .inl rfl) ?_
  apply Exists.intro
  apply And.intro
  · dsimp only [Tryd.f9]
    dsimp only [List.length_cons, List.length_nil, List.cons_append, List.nil_append, Nat.reduceSub, Nat.reduceAdd, List.replicate]
    refine RU.seq RU.rg ?_
    refine RU.seq RU.rg ?_
    first | exact RU.ret | exact RU.skip
  · rfl
theorem max_x (H : Heap) : CA P NS 4 [] H (.i .i64 2, H ++ [.cells 43 .vr (dHB 0)]) := by
  have c1 := new_x H
  generalize H ++ [Blk.cells 43 Kn.vr (dHB 0)] = H1 at c1
  generalize AV.p H.length 0 = q at c1
  have c2 := maxv_x H1 q
  have hc : convA P 29 3 (.i .i16 2) = some (.i .i64 2) := by kernel_rfl
  refine CA.go (fn := Tryd.f4) (vs := [_]) (by kernel_rfl) rfl (by first | exact .inr rfl | exact .inl rfl) ?_
  apply Exists.intro
  apply And.intro
  · dsimp only [Tryd.f4]
    dsimp only [List.length_cons, List.length_nil, List.cons_append, List.nil_append, Nat.reduceSub, Nat.reduceAdd, List.replicate]
    refine RU.seq RU.rg ?_
    refine RU.seq RU.rg ?_
    first | exact RU.ret | exact RU.skip
  · rfl
theorem law_long1 {H : Heap} {data : AV} {n8 n : Int} (hl : lenA P 22 data = some (.i .i64 n)) (hn : binA P .gtr 3 true (.i .i64 n) (.i .i64 2147483647) = some (.b true)) : CA P NS 3 [.i .u8 n8, data] H (.b true, H) := by
  refine CA.go (fn := Tryd.f3) (vs := [_]) (by kernel_rfl) rfl (.inr rfl) ?_
  apply Exists.intro
  apply And.intro
  · dsimp only [Tryd.f3]
    dsimp only [List.length_cons, List.length_nil, List.cons_append, List.nil_append, Nat.reduceSub, Nat.reduceAdd, List.replicate]
    refine RU.seq RU.rg ?_
    (apply RU.seqx; rotate_left; focus (simp)); refine RU.seq RU.rg ?_; apply RU.condT rfl
    refine RU.seq RU.rg ?_
    exact RU.ret
  · rfl
theorem law_long2 {H Hm : Heap} {data : AV} {n8 n k : Int} (hmx : CA P NS 4 [] H (.i .i64 2, Hm)) (hl : lenA P 22 data = some (.i .i64 n)) (hn : binA P .gtr 3 true (.i .i64 n) (.i .i64 2147483647) = some (.b false)) (hn2 : binA P .gtr 3 true (.i .i64 n) (.i .i64 1000) = some (.b true)) : CA P NS 3 [.i .u8 n8, data] H (.b true, Hm) := by
  have h0 : binA P .lss 3 true (.i .i64 2) (.i .i64 0) = some (.b false) := by kernel_rfl
  refine CA.go (fn := Tryd.f3) (vs := [_]) (by kernel_rfl) rfl (.inr rfl) ?_
  apply Exists.intro
  apply And.intro
  · dsimp only [Tryd.f3]
    dsimp only [List.length_cons, List.length_nil, List.cons_append, List.nil_append, Nat.reduceSub, Nat.reduceAdd, List.replicate]
    refine RU.seq RU.rg ?_
    refine RU.seq (RU.seq RU.rg (RU.condF rfl RU.skip)) ?_
    refine RU.seq RU.rg ?_
    refine RU.seq (RU.seq RU.rg (RU.condF rfl RU.skip)) ?_
    (apply RU.seqx; rotate_left; focus (simp)); refine RU.seq RU.rg ?_; apply RU.condT rfl
    refine RU.seq RU.rg ?_
    exact RU.ret
  · rfl
theorem law_bad {H Hm H1 : Heap} {data x : AV} {n8 n k : Int} (hmx : CA P NS 4 [] H (.i .i64 2, Hm)) (hl : lenA P 22 data = some (.i .i64 n)) (hn : binA P .gtr 3 true (.i .i64 n) (.i .i64 2147483647) = some (.b false)) (hn2 : binA P .gtr 3 true (.i .i64 n) (.i .i64 1000) = some (.b false))
    (hv : CA P NS 6 [.i .u8 n8, .i .i64 2] Hm (.i .i64 k, Hm)) (ha : CA P NS 5 [.i .i64 k, data] Hm (.t [x, .b false], H1)) : CA P NS 3 [.i .u8 n8, data] H (.b true, H1) := by
  have h0 : binA P .lss 3 true (.i .i64 2) (.i .i64 0) = some (.b false) := by kernel_rfl
  refine CA.go (fn := Tryd.f3) (vs := [_]) (by kernel_rfl) rfl (.inr rfl) ?_
  apply Exists.intro
  apply And.intro
  · dsimp only [Tryd.f3]
    dsimp only [List.length_cons, List.length_nil, List.cons_append, List.nil_append, Nat.reduceSub, Nat.reduceAdd, List.replicate]
    refine RU.seq RU.rg ?_
    refine RU.seq (RU.seq RU.rg (RU.condF rfl RU.skip)) ?_
    refine RU.seq RU.rg ?_
    refine RU.seq (RU.seq RU.rg (RU.condF rfl RU.skip)) ?_
    refine RU.seq (RU.seq RU.rg (RU.condF rfl RU.skip)) ?_
    refine RU.seq RU.rg ?_
    (apply RU.seqx; rotate_left; focus (simp)); refine RU.seq RU.rg ?_; apply RU.condT rfl
    refine RU.seq RU.rg ?_
    exact RU.ret
  · rfl
theorem law_good {H Hm H1 H2 : Heap} {data x y : AV} {n8 n k : Int} (hmx : CA P NS 4 [] H (.i .i64 2, Hm)) (hl : lenA P 22 data = some (.i .i64 n)) (hn : binA P .gtr 3 true (.i .i64 n) (.i .i64 2147483647) = some (.b false)) (hn2 : binA P .gtr 3 true (.i .i64 n) (.i .i64 1000) = some (.b false))
    (hv : CA P NS 6 [.i .u8 n8, .i .i64 2] Hm (.i .i64 k, Hm)) (ha : CA P NS 5 [.i .i64 k, data] Hm (.t [x, .b true], H1)) (hv2 : CA P NS 6 [.i .u8 n8, .i .i64 2] H1 (.i .i64 k, H1)) (ha2 : CA P NS 5 [.i .i64 k, x] H1 (.t [y, .b true], H2)) (hs : CA P NS 7 [x, y] H2 (.b true, H2)) : CA P NS 3 [.i .u8 n8, data] H (.b true, H2) := by
  have h0 : binA P .lss 3 true (.i .i64 2) (.i .i64 0) = some (.b false) := by kernel_rfl
  refine CA.go (fn := Tryd.f3) (vs := [_]) (by kernel_rfl) rfl (.inr rfl) ?_
  apply Exists.intro
  apply And.intro
  · dsimp only [Tryd.f3]
    dsimp only [List.length_cons, List.length_nil, List.cons_append, List.nil_append, Nat.reduceSub, Nat.reduceAdd, List.replicate]
    refine RU.seq RU.rg ?_
    refine RU.seq (RU.seq RU.rg (RU.condF rfl RU.skip)) ?_
    refine RU.seq RU.rg ?_
    refine RU.seq (RU.seq RU.rg (RU.condF rfl RU.skip)) ?_
    refine RU.seq (RU.seq RU.rg (RU.condF rfl RU.skip)) ?_
    refine RU.seq RU.rg ?_
    refine RU.seq (RU.seq RU.rg (RU.condF rfl RU.skip)) ?_
    refine RU.seq RU.rg ?_
    refine RU.seq RU.rg ?_
    exact RU.ret
  · rfl
theorem law_x {H : Heap} {rb0 : Nat} {data : AV} {bs : B} {n8 : Int} (hn8 : 0 ≤ n8 ∧ n8 < 256) (G : Globs H rb0) (hb : BytesAt (fun i => i < H.length) H data bs) : ∃ H', CA P NS 3 [.i .u8 n8, data] H (.b true, H') := by
  have hl := hb.len bty
  by_cases h1 : (2147483647 : Int) < (bs.length : Nat)
  · exact ⟨_, law_long1 hl (gtrT _ _ h1)⟩
  · have hmx := max_x H
    by_cases h2 : (1000 : Int) < (bs.length : Nat)
    · exact ⟨_, law_long2 (k := 0) hmx hl (gtrI _ _ h1) (gtrT _ _ h2)⟩
    · have hkm : ∀ i b, i < H.length → H[i]? = some b → (H ++ [Blk.cells 43 .vr (dHB 0)])[i]? = some b := fun i b hi hx => by rw [List.getElem?_append_left hi]; exact hx
      have hbm : BytesAt (fun i => i < (H ++ [Blk.cells 43 .vr (dHB 0)]).length) (H ++ [.cells 43 .vr (dHB 0)]) data bs := BytesAt.kt hb ⟨by simp, fun i b hi hx => ⟨by simp; omega, hkm i b hi hx⟩⟩
      have Gm := G.keep (H' := H ++ [.cells 43 .vr (dHB 0)]) (by simp) hkm
      generalize hHm : H ++ [Blk.cells 43 .vr (dHB 0)] = Hm at hmx hbm Gm
      obtain ⟨k, hk, hv⟩ := ver_run (most := 2) (by omega) hn8
      obtain ⟨a1, a2⟩ := again_hb (k := (k : Nat)) (by omega) Gm (BytesAt.dat hbm) (by omega)
      cases hd : decW bs with
      | none =>
        obtain ⟨H1, c1⟩ := a1 hd
        exact ⟨_, law_bad hmx hl (gtrI _ _ h1) (gtrI _ _ h2) (hv Hm) c1⟩
      | some p =>
        obtain ⟨x, s⟩ := p
        obtain ⟨hso, hok, hsw, hle, hde⟩ := decW_again hd (by omega)
        obtain ⟨out, H1, c1, o1, l1, k1⟩ := a2 x s hd (by omega)
        obtain ⟨_, b2⟩ := again_hb (k := (k : Nat)) (by omega) (Gm.keep l1 k1) (BytesAt.dat o1.below) (by omega)
        obtain ⟨out2, H2, c2, o2, l2, k2⟩ := b2 x s hde (by omega)
        have hb1 : BytesAt (fun i => i < H2.length) H2 out (encW x s) := BytesAt.kt o1.below ⟨l2, fun i b hi hx => ⟨by omega, k2 i b hi hx⟩⟩
        exact ⟨_, law_good hmx hl (gtrI _ _ h1) (gtrI _ _ h2) (hv Hm) c1 (hv H1) c2 (same_x hb1 o2.below (by omega))⟩
end Go.Proofs.YtiifcfngbbhgoagDoor.Rd.mBrokerHeartbeatRequest

