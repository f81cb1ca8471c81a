/-
  A NUMBER IN GROUPS of seven bits, as kbin reads it.
-/
import Derived.Test.YtiifcfngbbhgoagDoorQRdStep
set_option linter.constructorNameAsVariable false
set_option linter.unusedVariables false
set_option linter.unusedSimpArgs false
namespace Go.Proofs.YtiifcfngbbhgoagDoor.Rd
open Go Go.Proofs.YtiifcfngbbhgoagDoor.Ax Go.Proofs.YtiifcfngbbhgoagDoor.Wire
set_option maxRecDepth 100000
set_option maxHeartbeats 1000000
theorem uvp_0 {H : Heap} {src q0 : AV} {n c0 m0 d0 w0 : Int}
    (hlen : lenA P 22 src = some (.i .i64 n))
    (g0 : binA P .lss 3 true (.i .i64 n) (.i .i64 1) = some (.b false))
    (i0 : indexAddrA P 22 src (.i .i64 0) = some q0) (l0 : loadA P H 5 q0 = some (.i .u8 c0))
    (a0 : binA P .and 5 true (.i .u8 c0) (.i .u8 127) = some (.i .u8 m0)) (v0 : convA P 5 49 (.i .u8 m0) = some (.i .u32 w0))
    (t0 : binA P .and 5 true (.i .u8 c0) (.i .u8 128) = some (.i .u8 d0)) (e0 : binA P .eql 5 true (.i .u8 d0) (.i .u8 0) = some (.b true)) :
    CA P NS 44 [src] H (.t [.i .u32 w0, .i .i64 1], H) := by
  refine CA.go (fn := Tryd.f44) (vs := [_, _]) (by kernel_rfl) rfl (.inr rfl) ?_
  apply Exists.intro
  apply And.intro
  · dsimp only [Tryd.f44]
    dsimp only [List.length_cons, List.length_nil, List.cons_append, List.nil_append, Nat.reduceSub, Nat.reduceAdd, List.replicate]
    refine RU.seq RU.rg ?_
    apply RU.scope
    rotate_left
    focus (simp)
    refine RU.seq RU.rg ?_
    refine RU.seq RU.rg ?_
    refine RU.seq (RU.seq RU.rg (RU.condF rfl RU.skip)) ?_
    refine RU.seq RU.rg ?_
    (apply RU.seqx; rotate_left; focus (simp)); refine RU.seq RU.rg ?_; apply RU.condT rfl
    refine RU.seq RU.rg ?_
    exact RU.ret
  · rfl
theorem uvp_1 {H : Heap} {src q0 q1 : AV} {n c0 m0 d0 w0 c1 m1 d1 w1 y1 x1 : Int}
    (hlen : lenA P 22 src = some (.i .i64 n))
    (g0 : binA P .lss 3 true (.i .i64 n) (.i .i64 1) = some (.b false))
    (i0 : indexAddrA P 22 src (.i .i64 0) = some q0) (l0 : loadA P H 5 q0 = some (.i .u8 c0))
    (a0 : binA P .and 5 true (.i .u8 c0) (.i .u8 127) = some (.i .u8 m0)) (v0 : convA P 5 49 (.i .u8 m0) = some (.i .u32 w0))
    (t0 : binA P .and 5 true (.i .u8 c0) (.i .u8 128) = some (.i .u8 d0)) (e0 : binA P .eql 5 true (.i .u8 d0) (.i .u8 0) = some (.b false))
    (g1 : binA P .lss 3 true (.i .i64 n) (.i .i64 2) = some (.b false))
    (i1 : indexAddrA P 22 src (.i .i64 1) = some q1) (l1 : loadA P H 5 q1 = some (.i .u8 c1))
    (a1 : binA P .and 5 true (.i .u8 c1) (.i .u8 127) = some (.i .u8 m1)) (v1 : convA P 5 49 (.i .u8 m1) = some (.i .u32 w1))
    (t1 : binA P .and 5 true (.i .u8 c1) (.i .u8 128) = some (.i .u8 d1)) (e1 : binA P .eql 5 true (.i .u8 d1) (.i .u8 0) = some (.b true))
    (s1 : binA P .shl 49 true (.i .u32 w1) (.i .u64 7) = some (.i .u32 y1)) (o1 : binA P .or 49 false (.i .u32 w0) (.i .u32 y1) = some (.i .u32 x1)) :
    CA P NS 44 [src] H (.t [.i .u32 x1, .i .i64 2], H) := by
  refine CA.go (fn := Tryd.f44) (vs := [_, _]) (by kernel_rfl) rfl (.inr rfl) ?_
  apply Exists.intro
  apply And.intro
  · dsimp only [Tryd.f44]
    dsimp only [List.length_cons, List.length_nil, List.cons_append, List.nil_append, Nat.reduceSub, Nat.reduceAdd, List.replicate]
    refine RU.seq RU.rg ?_
    apply RU.scope
    rotate_left
    focus (simp)
    refine RU.seq RU.rg ?_
    refine RU.seq RU.rg ?_
    refine RU.seq (RU.seq RU.rg (RU.condF rfl RU.skip)) ?_
    refine RU.seq RU.rg ?_
    (apply RU.seq; focus (refine RU.seq RU.rg ?_; apply RU.condF rfl; refine RU.seq RU.rg ?_; apply RU.condF rfl; exact RU.skip))
    refine RU.seq RU.rg ?_
    (apply RU.seqx; rotate_left; focus (simp)); refine RU.seq RU.rg ?_; apply RU.condT rfl
    refine RU.seq RU.rg ?_
    exact RU.ret
  · rfl
theorem uvp_2 {H : Heap} {src q0 q1 q2 : AV} {n c0 m0 d0 w0 c1 m1 d1 w1 y1 x1 c2 m2 d2 w2 y2 x2 : Int}
    (hlen : lenA P 22 src = some (.i .i64 n))
    (g0 : binA P .lss 3 true (.i .i64 n) (.i .i64 1) = some (.b false))
    (i0 : indexAddrA P 22 src (.i .i64 0) = some q0) (l0 : loadA P H 5 q0 = some (.i .u8 c0))
    (a0 : binA P .and 5 true (.i .u8 c0) (.i .u8 127) = some (.i .u8 m0)) (v0 : convA P 5 49 (.i .u8 m0) = some (.i .u32 w0))
    (t0 : binA P .and 5 true (.i .u8 c0) (.i .u8 128) = some (.i .u8 d0)) (e0 : binA P .eql 5 true (.i .u8 d0) (.i .u8 0) = some (.b false))
    (g1 : binA P .lss 3 true (.i .i64 n) (.i .i64 2) = some (.b false))
    (i1 : indexAddrA P 22 src (.i .i64 1) = some q1) (l1 : loadA P H 5 q1 = some (.i .u8 c1))
    (a1 : binA P .and 5 true (.i .u8 c1) (.i .u8 127) = some (.i .u8 m1)) (v1 : convA P 5 49 (.i .u8 m1) = some (.i .u32 w1))
    (t1 : binA P .and 5 true (.i .u8 c1) (.i .u8 128) = some (.i .u8 d1)) (e1 : binA P .eql 5 true (.i .u8 d1) (.i .u8 0) = some (.b false))
    (s1 : binA P .shl 49 true (.i .u32 w1) (.i .u64 7) = some (.i .u32 y1)) (o1 : binA P .or 49 false (.i .u32 w0) (.i .u32 y1) = some (.i .u32 x1))
    (g2 : binA P .lss 3 true (.i .i64 n) (.i .i64 3) = some (.b false))
    (i2 : indexAddrA P 22 src (.i .i64 2) = some q2) (l2 : loadA P H 5 q2 = some (.i .u8 c2))
    (a2 : binA P .and 5 true (.i .u8 c2) (.i .u8 127) = some (.i .u8 m2)) (v2 : convA P 5 49 (.i .u8 m2) = some (.i .u32 w2))
    (t2 : binA P .and 5 true (.i .u8 c2) (.i .u8 128) = some (.i .u8 d2)) (e2 : binA P .eql 5 true (.i .u8 d2) (.i .u8 0) = some (.b true))
    (s2 : binA P .shl 49 true (.i .u32 w2) (.i .u64 14) = some (.i .u32 y2)) (o2 : binA P .or 49 false (.i .u32 x1) (.i .u32 y2) = some (.i .u32 x2)) :
    CA P NS 44 [src] H (.t [.i .u32 x2, .i .i64 3], H) := by
  refine CA.go (fn := Tryd.f44) (vs := [_, _]) (by kernel_rfl) rfl (.inr rfl) ?_
  apply Exists.intro
  apply And.intro
  · dsimp only [Tryd.f44]
    dsimp only [List.length_cons, List.length_nil, List.cons_append, List.nil_append, Nat.reduceSub, Nat.reduceAdd, List.replicate]
    refine RU.seq RU.rg ?_
    apply RU.scope
    rotate_left
    focus (simp)
    refine RU.seq RU.rg ?_
    refine RU.seq RU.rg ?_
    refine RU.seq (RU.seq RU.rg (RU.condF rfl RU.skip)) ?_
    refine RU.seq RU.rg ?_
    (apply RU.seq; focus (refine RU.seq RU.rg ?_; apply RU.condF rfl; refine RU.seq RU.rg ?_; apply RU.condF rfl; exact RU.skip))
    refine RU.seq RU.rg ?_
    (apply RU.seq; focus (refine RU.seq RU.rg ?_; apply RU.condF rfl; refine RU.seq RU.rg ?_; apply RU.condF rfl; exact RU.skip))
    refine RU.seq RU.rg ?_
    (apply RU.seqx; rotate_left; focus (simp)); refine RU.seq RU.rg ?_; apply RU.condT rfl
    refine RU.seq RU.rg ?_
    exact RU.ret
  · rfl
theorem uvp_3 {H : Heap} {src q0 q1 q2 q3 : AV} {n c0 m0 d0 w0 c1 m1 d1 w1 y1 x1 c2 m2 d2 w2 y2 x2 c3 m3 d3 w3 y3 x3 : Int}
    (hlen : lenA P 22 src = some (.i .i64 n))
    (g0 : binA P .lss 3 true (.i .i64 n) (.i .i64 1) = some (.b false))
    (i0 : indexAddrA P 22 src (.i .i64 0) = some q0) (l0 : loadA P H 5 q0 = some (.i .u8 c0))
    (a0 : binA P .and 5 true (.i .u8 c0) (.i .u8 127) = some (.i .u8 m0)) (v0 : convA P 5 49 (.i .u8 m0) = some (.i .u32 w0))
    (t0 : binA P .and 5 true (.i .u8 c0) (.i .u8 128) = some (.i .u8 d0)) (e0 : binA P .eql 5 true (.i .u8 d0) (.i .u8 0) = some (.b false))
    (g1 : binA P .lss 3 true (.i .i64 n) (.i .i64 2) = some (.b false))
    (i1 : indexAddrA P 22 src (.i .i64 1) = some q1) (l1 : loadA P H 5 q1 = some (.i .u8 c1))
    (a1 : binA P .and 5 true (.i .u8 c1) (.i .u8 127) = some (.i .u8 m1)) (v1 : convA P 5 49 (.i .u8 m1) = some (.i .u32 w1))
    (t1 : binA P .and 5 true (.i .u8 c1) (.i .u8 128) = some (.i .u8 d1)) (e1 : binA P .eql 5 true (.i .u8 d1) (.i .u8 0) = some (.b false))
    (s1 : binA P .shl 49 true (.i .u32 w1) (.i .u64 7) = some (.i .u32 y1)) (o1 : binA P .or 49 false (.i .u32 w0) (.i .u32 y1) = some (.i .u32 x1))
    (g2 : binA P .lss 3 true (.i .i64 n) (.i .i64 3) = some (.b false))
    (i2 : indexAddrA P 22 src (.i .i64 2) = some q2) (l2 : loadA P H 5 q2 = some (.i .u8 c2))
    (a2 : binA P .and 5 true (.i .u8 c2) (.i .u8 127) = some (.i .u8 m2)) (v2 : convA P 5 49 (.i .u8 m2) = some (.i .u32 w2))
    (t2 : binA P .and 5 true (.i .u8 c2) (.i .u8 128) = some (.i .u8 d2)) (e2 : binA P .eql 5 true (.i .u8 d2) (.i .u8 0) = some (.b false))
    (s2 : binA P .shl 49 true (.i .u32 w2) (.i .u64 14) = some (.i .u32 y2)) (o2 : binA P .or 49 false (.i .u32 x1) (.i .u32 y2) = some (.i .u32 x2))
    (g3 : binA P .lss 3 true (.i .i64 n) (.i .i64 4) = some (.b false))
    (i3 : indexAddrA P 22 src (.i .i64 3) = some q3) (l3 : loadA P H 5 q3 = some (.i .u8 c3))
    (a3 : binA P .and 5 true (.i .u8 c3) (.i .u8 127) = some (.i .u8 m3)) (v3 : convA P 5 49 (.i .u8 m3) = some (.i .u32 w3))
    (t3 : binA P .and 5 true (.i .u8 c3) (.i .u8 128) = some (.i .u8 d3)) (e3 : binA P .eql 5 true (.i .u8 d3) (.i .u8 0) = some (.b true))
    (s3 : binA P .shl 49 true (.i .u32 w3) (.i .u64 21) = some (.i .u32 y3)) (o3 : binA P .or 49 false (.i .u32 x2) (.i .u32 y3) = some (.i .u32 x3)) :
    CA P NS 44 [src] H (.t [.i .u32 x3, .i .i64 4], H) := by
  refine CA.go (fn := Tryd.f44) (vs := [_, _]) (by kernel_rfl) rfl (.inr rfl) ?_
  apply Exists.intro
  apply And.intro
  · dsimp only [Tryd.f44]
    dsimp only [List.length_cons, List.length_nil, List.cons_append, List.nil_append, Nat.reduceSub, Nat.reduceAdd, List.replicate]
    refine RU.seq RU.rg ?_
    apply RU.scope
    rotate_left
    focus (simp)
    refine RU.seq RU.rg ?_
    refine RU.seq RU.rg ?_
    refine RU.seq (RU.seq RU.rg (RU.condF rfl RU.skip)) ?_
    refine RU.seq RU.rg ?_
    (apply RU.seq; focus (refine RU.seq RU.rg ?_; apply RU.condF rfl; refine RU.seq RU.rg ?_; apply RU.condF rfl; exact RU.skip))
    refine RU.seq RU.rg ?_
    (apply RU.seq; focus (refine RU.seq RU.rg ?_; apply RU.condF rfl; refine RU.seq RU.rg ?_; apply RU.condF rfl; exact RU.skip))
    refine RU.seq RU.rg ?_
    (apply RU.seq; focus (refine RU.seq RU.rg ?_; apply RU.condF rfl; refine RU.seq RU.rg ?_; apply RU.condF rfl; exact RU.skip))
    refine RU.seq RU.rg ?_
    (apply RU.seqx; rotate_left; focus (simp)); refine RU.seq RU.rg ?_; apply RU.condT rfl
    refine RU.seq RU.rg ?_
    exact RU.ret
  · rfl
theorem uvp_4 {H : Heap} {src q0 q1 q2 q3 q4 : AV} {n c0 m0 d0 w0 c1 m1 d1 w1 y1 x1 c2 m2 d2 w2 y2 x2 c3 m3 d3 w3 y3 x3 c4 w4 y4 x4 : Int}
    (hlen : lenA P 22 src = some (.i .i64 n))
    (g0 : binA P .lss 3 true (.i .i64 n) (.i .i64 1) = some (.b false))
    (i0 : indexAddrA P 22 src (.i .i64 0) = some q0) (l0 : loadA P H 5 q0 = some (.i .u8 c0))
    (a0 : binA P .and 5 true (.i .u8 c0) (.i .u8 127) = some (.i .u8 m0)) (v0 : convA P 5 49 (.i .u8 m0) = some (.i .u32 w0))
    (t0 : binA P .and 5 true (.i .u8 c0) (.i .u8 128) = some (.i .u8 d0)) (e0 : binA P .eql 5 true (.i .u8 d0) (.i .u8 0) = some (.b false))
    (g1 : binA P .lss 3 true (.i .i64 n) (.i .i64 2) = some (.b false))
    (i1 : indexAddrA P 22 src (.i .i64 1) = some q1) (l1 : loadA P H 5 q1 = some (.i .u8 c1))
    (a1 : binA P .and 5 true (.i .u8 c1) (.i .u8 127) = some (.i .u8 m1)) (v1 : convA P 5 49 (.i .u8 m1) = some (.i .u32 w1))
    (t1 : binA P .and 5 true (.i .u8 c1) (.i .u8 128) = some (.i .u8 d1)) (e1 : binA P .eql 5 true (.i .u8 d1) (.i .u8 0) = some (.b false))
    (s1 : binA P .shl 49 true (.i .u32 w1) (.i .u64 7) = some (.i .u32 y1)) (o1 : binA P .or 49 false (.i .u32 w0) (.i .u32 y1) = some (.i .u32 x1))
    (g2 : binA P .lss 3 true (.i .i64 n) (.i .i64 3) = some (.b false))
    (i2 : indexAddrA P 22 src (.i .i64 2) = some q2) (l2 : loadA P H 5 q2 = some (.i .u8 c2))
    (a2 : binA P .and 5 true (.i .u8 c2) (.i .u8 127) = some (.i .u8 m2)) (v2 : convA P 5 49 (.i .u8 m2) = some (.i .u32 w2))
    (t2 : binA P .and 5 true (.i .u8 c2) (.i .u8 128) = some (.i .u8 d2)) (e2 : binA P .eql 5 true (.i .u8 d2) (.i .u8 0) = some (.b false))
    (s2 : binA P .shl 49 true (.i .u32 w2) (.i .u64 14) = some (.i .u32 y2)) (o2 : binA P .or 49 false (.i .u32 x1) (.i .u32 y2) = some (.i .u32 x2))
    (g3 : binA P .lss 3 true (.i .i64 n) (.i .i64 4) = some (.b false))
    (i3 : indexAddrA P 22 src (.i .i64 3) = some q3) (l3 : loadA P H 5 q3 = some (.i .u8 c3))
    (a3 : binA P .and 5 true (.i .u8 c3) (.i .u8 127) = some (.i .u8 m3)) (v3 : convA P 5 49 (.i .u8 m3) = some (.i .u32 w3))
    (t3 : binA P .and 5 true (.i .u8 c3) (.i .u8 128) = some (.i .u8 d3)) (e3 : binA P .eql 5 true (.i .u8 d3) (.i .u8 0) = some (.b false))
    (s3 : binA P .shl 49 true (.i .u32 w3) (.i .u64 21) = some (.i .u32 y3)) (o3 : binA P .or 49 false (.i .u32 x2) (.i .u32 y3) = some (.i .u32 x3))
    (g4 : binA P .lss 3 true (.i .i64 n) (.i .i64 5) = some (.b false))
    (i4 : indexAddrA P 22 src (.i .i64 4) = some q4) (l4 : loadA P H 5 q4 = some (.i .u8 c4))
    (v4 : convA P 5 49 (.i .u8 c4) = some (.i .u32 w4)) (e4 : binA P .leq 5 true (.i .u8 c4) (.i .u8 15) = some (.b true))
    (s4 : binA P .shl 49 true (.i .u32 w4) (.i .u64 28) = some (.i .u32 y4)) (o4 : binA P .or 49 false (.i .u32 x3) (.i .u32 y4) = some (.i .u32 x4)) :
    CA P NS 44 [src] H (.t [.i .u32 x4, .i .i64 5], H) := by
  refine CA.go (fn := Tryd.f44) (vs := [_, _]) (by kernel_rfl) rfl (.inr rfl) ?_
  apply Exists.intro
  apply And.intro
  · dsimp only [Tryd.f44]
    dsimp only [List.length_cons, List.length_nil, List.cons_append, List.nil_append, Nat.reduceSub, Nat.reduceAdd, List.replicate]
    refine RU.seq RU.rg ?_
    apply RU.scope
    rotate_left
    focus (simp)
    refine RU.seq RU.rg ?_
    refine RU.seq RU.rg ?_
    refine RU.seq (RU.seq RU.rg (RU.condF rfl RU.skip)) ?_
    refine RU.seq RU.rg ?_
    (apply RU.seq; focus (refine RU.seq RU.rg ?_; apply RU.condF rfl; refine RU.seq RU.rg ?_; apply RU.condF rfl; exact RU.skip))
    refine RU.seq RU.rg ?_
    (apply RU.seq; focus (refine RU.seq RU.rg ?_; apply RU.condF rfl; refine RU.seq RU.rg ?_; apply RU.condF rfl; exact RU.skip))
    refine RU.seq RU.rg ?_
    (apply RU.seq; focus (refine RU.seq RU.rg ?_; apply RU.condF rfl; refine RU.seq RU.rg ?_; apply RU.condF rfl; exact RU.skip))
    refine RU.seq RU.rg ?_
    (apply RU.seq; focus (refine RU.seq RU.rg ?_; apply RU.condF rfl; refine RU.seq RU.rg ?_; apply RU.condF rfl; exact RU.skip))
    refine RU.seq RU.rg ?_
    (apply RU.seqx; rotate_left; focus (simp)); refine RU.seq RU.rg ?_; apply RU.condT rfl
    refine RU.seq RU.rg ?_
    exact RU.ret
  · rfl
theorem uvl_0 {H : Heap} {src : AV} {n : Int}
    (hlen : lenA P 22 src = some (.i .i64 n))
    (g0 : binA P .lss 3 true (.i .i64 n) (.i .i64 1) = some (.b true)) :
    CA P NS 44 [src] H (.t [.i .u32 0, .i .i64 0], H) := by
  refine CA.go (fn := Tryd.f44) (vs := [_, _]) (by kernel_rfl) rfl (.inr rfl) ?_
  apply Exists.intro
  apply And.intro
  · dsimp only [Tryd.f44]
    dsimp only [List.length_cons, List.length_nil, List.cons_append, List.nil_append, Nat.reduceSub, Nat.reduceAdd, List.replicate]
    refine RU.seq RU.rg ?_
    apply RU.scope1 (l := 0)
    case h =>
      refine RU.seq RU.rg ?_
      refine RU.seq RU.rg ?_
      (apply RU.seqx; rotate_left; focus (simp))
      refine RU.seq RU.rg ?_
      apply RU.condT rfl
      exact RU.goto
    case hl => rfl
    case h2 =>
      (apply RU.seq; focus (first | exact RU.label | exact RU.skip))
      refine RU.seq RU.rg ?_
      exact RU.ret
    case hx => intro l; simp
  · rfl
theorem uvl_1 {H : Heap} {src q0 : AV} {n c0 m0 d0 w0 : Int}
    (hlen : lenA P 22 src = some (.i .i64 n))
    (g0 : binA P .lss 3 true (.i .i64 n) (.i .i64 1) = some (.b false))
    (i0 : indexAddrA P 22 src (.i .i64 0) = some q0) (l0 : loadA P H 5 q0 = some (.i .u8 c0))
    (a0 : binA P .and 5 true (.i .u8 c0) (.i .u8 127) = some (.i .u8 m0)) (v0 : convA P 5 49 (.i .u8 m0) = some (.i .u32 w0))
    (t0 : binA P .and 5 true (.i .u8 c0) (.i .u8 128) = some (.i .u8 d0)) (e0 : binA P .eql 5 true (.i .u8 d0) (.i .u8 0) = some (.b false))
    (g1 : binA P .lss 3 true (.i .i64 n) (.i .i64 2) = some (.b true)) :
    CA P NS 44 [src] H (.t [.i .u32 0, .i .i64 0], H) := by
  refine CA.go (fn := Tryd.f44) (vs := [_, _]) (by kernel_rfl) rfl (.inr rfl) ?_
  apply Exists.intro
  apply And.intro
  · dsimp only [Tryd.f44]
    dsimp only [List.length_cons, List.length_nil, List.cons_append, List.nil_append, Nat.reduceSub, Nat.reduceAdd, List.replicate]
    refine RU.seq RU.rg ?_
    apply RU.scope1 (l := 0)
    case h =>
      refine RU.seq RU.rg ?_
      refine RU.seq RU.rg ?_
      refine RU.seq (RU.seq RU.rg (RU.condF rfl RU.skip)) ?_
      refine RU.seq RU.rg ?_
      (apply RU.seqx; rotate_left; focus (simp))
      refine RU.seq RU.rg ?_
      apply RU.condF rfl
      refine RU.seq RU.rg ?_
      apply RU.condT rfl
      exact RU.goto
    case hl => rfl
    case h2 =>
      (apply RU.seq; focus (first | exact RU.label | exact RU.skip))
      refine RU.seq RU.rg ?_
      exact RU.ret
    case hx => intro l; simp
  · rfl
theorem uvl_2 {H : Heap} {src q0 q1 : AV} {n c0 m0 d0 w0 c1 m1 d1 w1 y1 x1 : Int}
    (hlen : lenA P 22 src = some (.i .i64 n))
    (g0 : binA P .lss 3 true (.i .i64 n) (.i .i64 1) = some (.b false))
    (i0 : indexAddrA P 22 src (.i .i64 0) = some q0) (l0 : loadA P H 5 q0 = some (.i .u8 c0))
    (a0 : binA P .and 5 true (.i .u8 c0) (.i .u8 127) = some (.i .u8 m0)) (v0 : convA P 5 49 (.i .u8 m0) = some (.i .u32 w0))
    (t0 : binA P .and 5 true (.i .u8 c0) (.i .u8 128) = some (.i .u8 d0)) (e0 : binA P .eql 5 true (.i .u8 d0) (.i .u8 0) = some (.b false))
    (g1 : binA P .lss 3 true (.i .i64 n) (.i .i64 2) = some (.b false))
    (i1 : indexAddrA P 22 src (.i .i64 1) = some q1) (l1 : loadA P H 5 q1 = some (.i .u8 c1))
    (a1 : binA P .and 5 true (.i .u8 c1) (.i .u8 127) = some (.i .u8 m1)) (v1 : convA P 5 49 (.i .u8 m1) = some (.i .u32 w1))
    (t1 : binA P .and 5 true (.i .u8 c1) (.i .u8 128) = some (.i .u8 d1)) (e1 : binA P .eql 5 true (.i .u8 d1) (.i .u8 0) = some (.b false))
    (s1 : binA P .shl 49 true (.i .u32 w1) (.i .u64 7) = some (.i .u32 y1)) (o1 : binA P .or 49 false (.i .u32 w0) (.i .u32 y1) = some (.i .u32 x1))
    (g2 : binA P .lss 3 true (.i .i64 n) (.i .i64 3) = some (.b true)) :
    CA P NS 44 [src] H (.t [.i .u32 0, .i .i64 0], H) := by
  refine CA.go (fn := Tryd.f44) (vs := [_, _]) (by kernel_rfl) rfl (.inr rfl) ?_
  apply Exists.intro
  apply And.intro
  · dsimp only [Tryd.f44]
    dsimp only [List.length_cons, List.length_nil, List.cons_append, List.nil_append, Nat.reduceSub, Nat.reduceAdd, List.replicate]
    refine RU.seq RU.rg ?_
    apply RU.scope1 (l := 0)
    case h =>
      refine RU.seq RU.rg ?_
      refine RU.seq RU.rg ?_
      refine RU.seq (RU.seq RU.rg (RU.condF rfl RU.skip)) ?_
      refine RU.seq RU.rg ?_
      (apply RU.seq; focus (refine RU.seq RU.rg ?_; apply RU.condF rfl; refine RU.seq RU.rg ?_; apply RU.condF rfl; exact RU.skip))
      refine RU.seq RU.rg ?_
      (apply RU.seqx; rotate_left; focus (simp))
      refine RU.seq RU.rg ?_
      apply RU.condF rfl
      refine RU.seq RU.rg ?_
      apply RU.condT rfl
      exact RU.goto
    case hl => rfl
    case h2 =>
      (apply RU.seq; focus (first | exact RU.label | exact RU.skip))
      refine RU.seq RU.rg ?_
      exact RU.ret
    case hx => intro l; simp
  · rfl
theorem uvl_3 {H : Heap} {src q0 q1 q2 : AV} {n c0 m0 d0 w0 c1 m1 d1 w1 y1 x1 c2 m2 d2 w2 y2 x2 : Int}
    (hlen : lenA P 22 src = some (.i .i64 n))
    (g0 : binA P .lss 3 true (.i .i64 n) (.i .i64 1) = some (.b false))
    (i0 : indexAddrA P 22 src (.i .i64 0) = some q0) (l0 : loadA P H 5 q0 = some (.i .u8 c0))
    (a0 : binA P .and 5 true (.i .u8 c0) (.i .u8 127) = some (.i .u8 m0)) (v0 : convA P 5 49 (.i .u8 m0) = some (.i .u32 w0))
    (t0 : binA P .and 5 true (.i .u8 c0) (.i .u8 128) = some (.i .u8 d0)) (e0 : binA P .eql 5 true (.i .u8 d0) (.i .u8 0) = some (.b false))
    (g1 : binA P .lss 3 true (.i .i64 n) (.i .i64 2) = some (.b false))
    (i1 : indexAddrA P 22 src (.i .i64 1) = some q1) (l1 : loadA P H 5 q1 = some (.i .u8 c1))
    (a1 : binA P .and 5 true (.i .u8 c1) (.i .u8 127) = some (.i .u8 m1)) (v1 : convA P 5 49 (.i .u8 m1) = some (.i .u32 w1))
    (t1 : binA P .and 5 true (.i .u8 c1) (.i .u8 128) = some (.i .u8 d1)) (e1 : binA P .eql 5 true (.i .u8 d1) (.i .u8 0) = some (.b false))
    (s1 : binA P .shl 49 true (.i .u32 w1) (.i .u64 7) = some (.i .u32 y1)) (o1 : binA P .or 49 false (.i .u32 w0) (.i .u32 y1) = some (.i .u32 x1))
    (g2 : binA P .lss 3 true (.i .i64 n) (.i .i64 3) = some (.b false))
    (i2 : indexAddrA P 22 src (.i .i64 2) = some q2) (l2 : loadA P H 5 q2 = some (.i .u8 c2))
    (a2 : binA P .and 5 true (.i .u8 c2) (.i .u8 127) = some (.i .u8 m2)) (v2 : convA P 5 49 (.i .u8 m2) = some (.i .u32 w2))
    (t2 : binA P .and 5 true (.i .u8 c2) (.i .u8 128) = some (.i .u8 d2)) (e2 : binA P .eql 5 true (.i .u8 d2) (.i .u8 0) = some (.b false))
    (s2 : binA P .shl 49 true (.i .u32 w2) (.i .u64 14) = some (.i .u32 y2)) (o2 : binA P .or 49 false (.i .u32 x1) (.i .u32 y2) = some (.i .u32 x2))
    (g3 : binA P .lss 3 true (.i .i64 n) (.i .i64 4) = some (.b true)) :
    CA P NS 44 [src] H (.t [.i .u32 0, .i .i64 0], H) := by
  refine CA.go (fn := Tryd.f44) (vs := [_, _]) (by kernel_rfl) rfl (.inr rfl) ?_
  apply Exists.intro
  apply And.intro
  · dsimp only [Tryd.f44]
    dsimp only [List.length_cons, List.length_nil, List.cons_append, List.nil_append, Nat.reduceSub, Nat.reduceAdd, List.replicate]
    refine RU.seq RU.rg ?_
    apply RU.scope1 (l := 0)
    case h =>
      refine RU.seq RU.rg ?_
      refine RU.seq RU.rg ?_
      refine RU.seq (RU.seq RU.rg (RU.condF rfl RU.skip)) ?_
      refine RU.seq RU.rg ?_
      (apply RU.seq; focus (refine RU.seq RU.rg ?_; apply RU.condF rfl; refine RU.seq RU.rg ?_; apply RU.condF rfl; exact RU.skip))
      refine RU.seq RU.rg ?_
      (apply RU.seq; focus (refine RU.seq RU.rg ?_; apply RU.condF rfl; refine RU.seq RU.rg ?_; apply RU.condF rfl; exact RU.skip))
      refine RU.seq RU.rg ?_
      (apply RU.seqx; rotate_left; focus (simp))
      refine RU.seq RU.rg ?_
      apply RU.condF rfl
      refine RU.seq RU.rg ?_
      apply RU.condT rfl
      exact RU.goto
    case hl => rfl
    case h2 =>
      (apply RU.seq; focus (first | exact RU.label | exact RU.skip))
      refine RU.seq RU.rg ?_
      exact RU.ret
    case hx => intro l; simp
  · rfl
theorem uvl_4 {H : Heap} {src q0 q1 q2 q3 : AV} {n c0 m0 d0 w0 c1 m1 d1 w1 y1 x1 c2 m2 d2 w2 y2 x2 c3 m3 d3 w3 y3 x3 : Int}
    (hlen : lenA P 22 src = some (.i .i64 n))
    (g0 : binA P .lss 3 true (.i .i64 n) (.i .i64 1) = some (.b false))
    (i0 : indexAddrA P 22 src (.i .i64 0) = some q0) (l0 : loadA P H 5 q0 = some (.i .u8 c0))
    (a0 : binA P .and 5 true (.i .u8 c0) (.i .u8 127) = some (.i .u8 m0)) (v0 : convA P 5 49 (.i .u8 m0) = some (.i .u32 w0))
    (t0 : binA P .and 5 true (.i .u8 c0) (.i .u8 128) = some (.i .u8 d0)) (e0 : binA P .eql 5 true (.i .u8 d0) (.i .u8 0) = some (.b false))
    (g1 : binA P .lss 3 true (.i .i64 n) (.i .i64 2) = some (.b false))
    (i1 : indexAddrA P 22 src (.i .i64 1) = some q1) (l1 : loadA P H 5 q1 = some (.i .u8 c1))
    (a1 : binA P .and 5 true (.i .u8 c1) (.i .u8 127) = some (.i .u8 m1)) (v1 : convA P 5 49 (.i .u8 m1) = some (.i .u32 w1))
    (t1 : binA P .and 5 true (.i .u8 c1) (.i .u8 128) = some (.i .u8 d1)) (e1 : binA P .eql 5 true (.i .u8 d1) (.i .u8 0) = some (.b false))
    (s1 : binA P .shl 49 true (.i .u32 w1) (.i .u64 7) = some (.i .u32 y1)) (o1 : binA P .or 49 false (.i .u32 w0) (.i .u32 y1) = some (.i .u32 x1))
    (g2 : binA P .lss 3 true (.i .i64 n) (.i .i64 3) = some (.b false))
    (i2 : indexAddrA P 22 src (.i .i64 2) = some q2) (l2 : loadA P H 5 q2 = some (.i .u8 c2))
    (a2 : binA P .and 5 true (.i .u8 c2) (.i .u8 127) = some (.i .u8 m2)) (v2 : convA P 5 49 (.i .u8 m2) = some (.i .u32 w2))
    (t2 : binA P .and 5 true (.i .u8 c2) (.i .u8 128) = some (.i .u8 d2)) (e2 : binA P .eql 5 true (.i .u8 d2) (.i .u8 0) = some (.b false))
    (s2 : binA P .shl 49 true (.i .u32 w2) (.i .u64 14) = some (.i .u32 y2)) (o2 : binA P .or 49 false (.i .u32 x1) (.i .u32 y2) = some (.i .u32 x2))
    (g3 : binA P .lss 3 true (.i .i64 n) (.i .i64 4) = some (.b false))
    (i3 : indexAddrA P 22 src (.i .i64 3) = some q3) (l3 : loadA P H 5 q3 = some (.i .u8 c3))
    (a3 : binA P .and 5 true (.i .u8 c3) (.i .u8 127) = some (.i .u8 m3)) (v3 : convA P 5 49 (.i .u8 m3) = some (.i .u32 w3))
    (t3 : binA P .and 5 true (.i .u8 c3) (.i .u8 128) = some (.i .u8 d3)) (e3 : binA P .eql 5 true (.i .u8 d3) (.i .u8 0) = some (.b false))
    (s3 : binA P .shl 49 true (.i .u32 w3) (.i .u64 21) = some (.i .u32 y3)) (o3 : binA P .or 49 false (.i .u32 x2) (.i .u32 y3) = some (.i .u32 x3))
    (g4 : binA P .lss 3 true (.i .i64 n) (.i .i64 5) = some (.b true)) :
    CA P NS 44 [src] H (.t [.i .u32 0, .i .i64 0], H) := by
  refine CA.go (fn := Tryd.f44) (vs := [_, _]) (by kernel_rfl) rfl (.inr rfl) ?_
  apply Exists.intro
  apply And.intro
  · dsimp only [Tryd.f44]
    dsimp only [List.length_cons, List.length_nil, List.cons_append, List.nil_append, Nat.reduceSub, Nat.reduceAdd, List.replicate]
    refine RU.seq RU.rg ?_
    apply RU.scope1 (l := 0)
    case h =>
      refine RU.seq RU.rg ?_
      refine RU.seq RU.rg ?_
      refine RU.seq (RU.seq RU.rg (RU.condF rfl RU.skip)) ?_
      refine RU.seq RU.rg ?_
      (apply RU.seq; focus (refine RU.seq RU.rg ?_; apply RU.condF rfl; refine RU.seq RU.rg ?_; apply RU.condF rfl; exact RU.skip))
      refine RU.seq RU.rg ?_
      (apply RU.seq; focus (refine RU.seq RU.rg ?_; apply RU.condF rfl; refine RU.seq RU.rg ?_; apply RU.condF rfl; exact RU.skip))
      refine RU.seq RU.rg ?_
      (apply RU.seq; focus (refine RU.seq RU.rg ?_; apply RU.condF rfl; refine RU.seq RU.rg ?_; apply RU.condF rfl; exact RU.skip))
      refine RU.seq RU.rg ?_
      (apply RU.seqx; rotate_left; focus (simp))
      refine RU.seq RU.rg ?_
      apply RU.condF rfl
      refine RU.seq RU.rg ?_
      apply RU.condT rfl
      exact RU.goto
    case hl => rfl
    case h2 =>
      (apply RU.seq; focus (first | exact RU.label | exact RU.skip))
      refine RU.seq RU.rg ?_
      exact RU.ret
    case hx => intro l; simp
  · rfl
theorem uvo {H : Heap} {src q0 q1 q2 q3 q4 : AV} {n c0 m0 d0 w0 c1 m1 d1 w1 y1 x1 c2 m2 d2 w2 y2 x2 c3 m3 d3 w3 y3 x3 c4 w4 y4 x4 : Int}
    (hlen : lenA P 22 src = some (.i .i64 n))
    (g0 : binA P .lss 3 true (.i .i64 n) (.i .i64 1) = some (.b false))
    (i0 : indexAddrA P 22 src (.i .i64 0) = some q0) (l0 : loadA P H 5 q0 = some (.i .u8 c0))
    (a0 : binA P .and 5 true (.i .u8 c0) (.i .u8 127) = some (.i .u8 m0)) (v0 : convA P 5 49 (.i .u8 m0) = some (.i .u32 w0))
    (t0 : binA P .and 5 true (.i .u8 c0) (.i .u8 128) = some (.i .u8 d0)) (e0 : binA P .eql 5 true (.i .u8 d0) (.i .u8 0) = some (.b false))
    (g1 : binA P .lss 3 true (.i .i64 n) (.i .i64 2) = some (.b false))
    (i1 : indexAddrA P 22 src (.i .i64 1) = some q1) (l1 : loadA P H 5 q1 = some (.i .u8 c1))
    (a1 : binA P .and 5 true (.i .u8 c1) (.i .u8 127) = some (.i .u8 m1)) (v1 : convA P 5 49 (.i .u8 m1) = some (.i .u32 w1))
    (t1 : binA P .and 5 true (.i .u8 c1) (.i .u8 128) = some (.i .u8 d1)) (e1 : binA P .eql 5 true (.i .u8 d1) (.i .u8 0) = some (.b false))
    (s1 : binA P .shl 49 true (.i .u32 w1) (.i .u64 7) = some (.i .u32 y1)) (o1 : binA P .or 49 false (.i .u32 w0) (.i .u32 y1) = some (.i .u32 x1))
    (g2 : binA P .lss 3 true (.i .i64 n) (.i .i64 3) = some (.b false))
    (i2 : indexAddrA P 22 src (.i .i64 2) = some q2) (l2 : loadA P H 5 q2 = some (.i .u8 c2))
    (a2 : binA P .and 5 true (.i .u8 c2) (.i .u8 127) = some (.i .u8 m2)) (v2 : convA P 5 49 (.i .u8 m2) = some (.i .u32 w2))
    (t2 : binA P .and 5 true (.i .u8 c2) (.i .u8 128) = some (.i .u8 d2)) (e2 : binA P .eql 5 true (.i .u8 d2) (.i .u8 0) = some (.b false))
    (s2 : binA P .shl 49 true (.i .u32 w2) (.i .u64 14) = some (.i .u32 y2)) (o2 : binA P .or 49 false (.i .u32 x1) (.i .u32 y2) = some (.i .u32 x2))
    (g3 : binA P .lss 3 true (.i .i64 n) (.i .i64 4) = some (.b false))
    (i3 : indexAddrA P 22 src (.i .i64 3) = some q3) (l3 : loadA P H 5 q3 = some (.i .u8 c3))
    (a3 : binA P .and 5 true (.i .u8 c3) (.i .u8 127) = some (.i .u8 m3)) (v3 : convA P 5 49 (.i .u8 m3) = some (.i .u32 w3))
    (t3 : binA P .and 5 true (.i .u8 c3) (.i .u8 128) = some (.i .u8 d3)) (e3 : binA P .eql 5 true (.i .u8 d3) (.i .u8 0) = some (.b false))
    (s3 : binA P .shl 49 true (.i .u32 w3) (.i .u64 21) = some (.i .u32 y3)) (o3 : binA P .or 49 false (.i .u32 x2) (.i .u32 y3) = some (.i .u32 x3))
    (g4 : binA P .lss 3 true (.i .i64 n) (.i .i64 5) = some (.b false))
    (i4 : indexAddrA P 22 src (.i .i64 4) = some q4) (l4 : loadA P H 5 q4 = some (.i .u8 c4))
    (v4 : convA P 5 49 (.i .u8 c4) = some (.i .u32 w4)) (e4 : binA P .leq 5 true (.i .u8 c4) (.i .u8 15) = some (.b false))
    (s4 : binA P .shl 49 true (.i .u32 w4) (.i .u64 28) = some (.i .u32 y4)) (o4 : binA P .or 49 false (.i .u32 x3) (.i .u32 y4) = some (.i .u32 x4)) :
    CA P NS 44 [src] H (.t [.i .u32 0, .i .i64 (-5)], H) := by
  refine CA.go (fn := Tryd.f44) (vs := [_, _]) (by kernel_rfl) rfl (.inr rfl) ?_
  apply Exists.intro
  apply And.intro
  · dsimp only [Tryd.f44]
    dsimp only [List.length_cons, List.length_nil, List.cons_append, List.nil_append, Nat.reduceSub, Nat.reduceAdd, List.replicate]
    refine RU.seq RU.rg ?_
    apply RU.scope
    rotate_left
    focus (simp)
    refine RU.seq RU.rg ?_
    refine RU.seq RU.rg ?_
    refine RU.seq (RU.seq RU.rg (RU.condF rfl RU.skip)) ?_
    refine RU.seq RU.rg ?_
    (apply RU.seq; focus (refine RU.seq RU.rg ?_; apply RU.condF rfl; refine RU.seq RU.rg ?_; apply RU.condF rfl; exact RU.skip))
    refine RU.seq RU.rg ?_
    (apply RU.seq; focus (refine RU.seq RU.rg ?_; apply RU.condF rfl; refine RU.seq RU.rg ?_; apply RU.condF rfl; exact RU.skip))
    refine RU.seq RU.rg ?_
    (apply RU.seq; focus (refine RU.seq RU.rg ?_; apply RU.condF rfl; refine RU.seq RU.rg ?_; apply RU.condF rfl; exact RU.skip))
    refine RU.seq RU.rg ?_
    (apply RU.seq; focus (refine RU.seq RU.rg ?_; apply RU.condF rfl; refine RU.seq RU.rg ?_; apply RU.condF rfl; exact RU.skip))
    refine RU.seq RU.rg ?_
    refine RU.seq (RU.seq RU.rg (RU.condF rfl RU.skip)) ?_
    refine RU.seq RU.rg ?_
    (apply RU.seq; focus (first | exact RU.label | exact RU.skip))
    refine RU.seq RU.rg ?_
    exact RU.ret
  · rfl
end Go.Proofs.YtiifcfngbbhgoagDoor.Rd

