/-
  THE SAME OCTETS, as the reference compares them.
-/
import Derived.Test.YtdanlkiojkimaaaGreatDoorQRdStr
set_option linter.constructorNameAsVariable false
set_option linter.unusedVariables false
set_option linter.unusedSimpArgs false
namespace Go.Proofs.YtdanlkiojkimaaaGreatDoor.Rd
open Go Go.Proofs.YtdanlkiojkimaaaGreatDoor.Ax Go.Proofs.YtdanlkiojkimaaaGreatDoor.Wire
set_option maxRecDepth 100000
set_option maxHeartbeats 1000000
def loopOf : List Code → Code
  | .block _ (.loop b) :: _ => b
  | _ :: r => loopOf r
  | [] => .skip
theorem neqU (t : TypeId) (c : Bool) (a : AV) (n : Int) (h : a = .i .u8 n) : binA P .neq t c a a = some (.b false) := by
  subst h
  have e : binA P .neq t c (.i .u8 n) (.i .u8 n) = some (.b (!(n == n))) := by
    simp [binA, binOp, Op.intCmp, ofSem, ofV1]
    rfl
  rw [e]; simp
theorem addi (a : Int) (h : 0 ≤ a) (h1 : a < 4611686018427387904) : binA P .add 3 true (.i .i64 a) (.i .i64 1) = some (.i .i64 (a + 1)) := by
  rw [add]
  congr 2
  simp [IntKind.wrap, IntKind.signed, IntKind.bits]; omega
theorem same_loop {A : Nat → Prop} {H : Heap} {a b : AV} {bs : B} (ha : BytesAt A H a bs) (hb : BytesAt A H b bs) (hlen : bs.length < 4611686018427387904) :
    ∀ (k j : Nat) (x2 x3 x5 x6 x7 x8 x9 x10 x11 x14 x15 x16 x17 x18 x19 x20 x21 x22 x23 x24 x25 : AV), j + k = bs.length →
      ∃ fr1, RU P NS (.loop (loopOf (flat (Tryz.f18.body.getD .skip)))) [a, b, x2, x3, .b false, x5, x6, x7, x8, x9, x10, x11, .i .i64 (bs.length : Nat), .i .i64 (j : Nat), x14, x15, x16, x17, x18, x19, x20, x21, x22, x23, x24, x25] H (.exit 0, fr1, H) ∧ 4 < fr1.length
  | 0, j, x2, x3, x5, x6, x7, x8, x9, x10, x11, x14, x15, x16, x17, x18, x19, x20, x21, x22, x23, x24, x25, hj => by
    have hc : binA P .lss 3 false (.i .i64 (j : Nat)) (.i .i64 (bs.length : Nat)) = some (.b false) := by rw [lss]; simp; omega
    generalize ((j : Nat) : Int) = jj at hc
    generalize ((bs.length : Nat) : Int) = nn at hc
    apply Exists.intro
    apply And.intro
    · dsimp only [Tryz.f18, Option.getD_some, flat, loopOf, List.cons_append, List.nil_append]
      (apply RU.loopx; rotate_left; focus (simp))
      refine RU.seq RU.rg ?_
      (apply RU.seqx; rotate_left; focus (simp))
      apply RU.condF rfl
      exact RU.exit
    · simp
  | k + 1, j, x2, x3, x5, x6, x7, x8, x9, x10, x11, x14, x15, x16, x17, x18, x19, x20, x21, x22, x23, x24, x25, hj => by
    have hc : binA P .lss 3 false (.i .i64 (j : Nat)) (.i .i64 (bs.length : Nat)) = some (.b true) := by rw [lss]; simp; omega
    have hat : bs[j]? = some (bs[j]'(by omega)) := by simp
    obtain ⟨p1, i1, l1⟩ := ha.idx bty .i64 hat
    obtain ⟨p2, i2, l2⟩ := hb.idx bty .i64 hat
    have hne := neqU 5 false (U8 (bs[j]'(by omega))) _ rfl
    have hadd : binA P .add 3 true (.i .i64 (j : Nat)) (.i .i64 1) = some (.i .i64 ((j + 1 : Nat) : Int)) := by rw [addi _ (by omega) (by omega)]; simp
    obtain ⟨fr1, h1, h2⟩ := same_loop ha hb hlen k (j + 1) x2 x3 (.i .i64 (j : Nat)) x6 x7 x8 x9 x10 x11 (.b true) (.i .i64 (j : Nat)) a (.i .i64 (j : Nat)) p1 (U8 (bs[j]'(by omega))) b (.i .i64 (j : Nat)) p2 (U8 (bs[j]'(by omega))) (.b false) (.i .i64 ((j + 1 : Nat) : Int)) (by omega)
    refine ⟨fr1, ?_, h2⟩
    generalize ((j + 1 : Nat) : Int) = j1 at hadd h1
    generalize ((j : Nat) : Int) = jj at hc i1 i2 hadd h1 ⊢
    generalize ((bs.length : Nat) : Int) = nn at hc h1 ⊢
    generalize U8 (bs[j]'(by omega)) = c at l1 l2 hne h1
    dsimp only [Tryz.f18, Option.getD_some, flat, loopOf, List.cons_append, List.nil_append] at h1 ⊢
    apply RU.loop
    rotate_left
    · exact h1
    · refine RU.seq RU.rg ?_
      (apply RU.seq; focus (apply RU.condT rfl; exact RU.skip))
      (apply RU.seq; focus (apply RU.blockN; refine RU.seq RU.rg ?_; refine RU.seq RU.d0 ?_; apply RU.condF rfl; exact RU.skip))
      exact RU.rg
theorem neqI (n : Int) : binA P .neq 3 false (.i .i64 n) (.i .i64 n) = some (.b false) := by
  have e : binA P .neq 3 false (.i .i64 n) (.i .i64 n) = some (.b (!(n == n))) := by
    simp [binA, binOp, Op.intCmp, ofSem, ofV1]
    rfl
  rw [e]; simp
theorem same_x {A : Nat → Prop} {H : Heap} {a b : AV} {bs : B} (ha : BytesAt A H a bs) (hb : BytesAt A H b bs) (hlen : bs.length < 4611686018427387904) : CA P NS 18 [a, b] H (.b true, H) := by
  have la := ha.len bty
  have lb := hb.len bty
  have hn := neqI (bs.length : Nat)
  obtain ⟨fr1, h1, h2⟩ := same_loop ha hb hlen bs.length 0 (.t []) (.t []) (.t []) a (.i .i64 (bs.length : Nat)) b (.i .i64 (bs.length : Nat)) (.b false) a (.t []) (.t []) (.t []) (.t []) (.t []) (.t []) (.t []) (.t []) (.t []) (.t []) (.t []) (.t []) (by omega)
  have h1 : RU P NS (.loop (loopOf (flat (Tryz.f18.body.getD .skip)))) [a, b, .t [], .t [], .b false, .t [], a, .i .i64 (bs.length : Nat), b, .i .i64 (bs.length : Nat), .b false, a, .i .i64 (bs.length : Nat), .i .i64 0, .t [], .t [], .t [], .t [], .t [], .t [], .t [], .t [], .t [], .t [], .t [], .t []] H (.exit 0, fr1, H) := h1
  generalize ((bs.length : Nat) : Int) = nn at la lb hn h1
  refine CA.go (fn := Tryz.f18) (vs := [.b true]) (x := .ret) (by kernel_rfl) rfl (.inr rfl) ⟨fr1.set 4 (.b true), ?_, ?_⟩
  · dsimp only [Tryz.f18, Option.getD_some, flat, loopOf, List.cons_append, List.nil_append] at h1 ⊢
    dsimp only [List.length_cons, List.length_nil, List.cons_append, List.nil_append, Nat.reduceSub, Nat.reduceAdd, List.replicate]
    refine RU.seq RU.rg ?_
    refine RU.seq (RU.seq RU.rg (RU.condF rfl RU.skip)) ?_
    apply RU.seq
    · refine RU.seq RU.rg ?_
      apply RU.block0
      exact h1
    apply RU.seq
    · apply RU.region
      refine OS.op rfl rfl (op_assign rfl) ?_
      exact OS.nil
    exact RU.ret
  · dsimp only [Tryz.f18]
    simp [resultsA, h2]
end Go.Proofs.YtdanlkiojkimaaaGreatDoor.Rd

