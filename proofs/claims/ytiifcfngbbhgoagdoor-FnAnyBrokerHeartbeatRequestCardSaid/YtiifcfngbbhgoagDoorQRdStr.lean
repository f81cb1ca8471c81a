/-
  TEXTS AND LENGTHS, as kbin reads them.
-/
import Derived.Test.YtiifcfngbbhgoagDoorQSxDef
import Derived.Test.YtiifcfngbbhgoagDoorQRdStep
import Derived.Test.YtiifcfngbbhgoagDoorQRdUvB
set_option linter.constructorNameAsVariable false
set_option linter.unusedVariables false
set_option linter.unusedSimpArgs false
namespace Go.Proofs.YtiifcfngbbhgoagDoor.Rd
open Go Go.Proofs.YtiifcfngbbhgoagDoor.Ax Go.Proofs.YtiifcfngbbhgoagDoor.Wire
set_option maxRecDepth 100000
set_option maxHeartbeats 1000000
theorem cvr_i32_i64 (n : Int) (h : inI 4 n) : convA P 21 3 (.i .i32 n) = some (.i .i64 n) := by
  have e : convA P 21 3 (.i .i32 n) = some (.i .i64 (IntKind.i64.wrap n)) := by kernel_rfl
  have h1 := h.1
  have h2 := h.2
  simp at h1 h2
  rw [e]
  simp [IntKind.wrap, IntKind.signed, IntKind.bits]
  split <;> omega
theorem rdv_i32 (flex null : Bool) : RdV 26 flex .i32 null where
  good A H rb nn bs v r R h hd := by
    simp only [decK, Option.map_eq_some_iff] at hd
    obtain ⟨⟨n, r1⟩, hi, hh⟩ := hd
    simp at hh
    obtain ⟨rfl, rfl⟩ := hh
    obtain ⟨H1, c1, R1, k1⟩ := rd_int32.good A H rb nn bs n r1 R h hi
    exact ⟨_, H1, c1, rfl, rfl, rfl, R1, k1⟩
  bad A H rb nn st R h hd := by
    have hi : st.bind (rdI (K.size .i32)) = none := by
      cases st with
      | none => rfl
      | some bs => simpa [decK] using hd
    obtain ⟨H1, c1, R1, k1⟩ := rd_int32.bad A H rb nn st R h hi
    exact ⟨_, H1, c1, rfl, rfl, R1, k1⟩
theorem rdok : RdOk 34 := ⟨fun A H rb nn st h => rd_ok h⟩
theorem rddone : RdDone 35 := ⟨fun A H rb nn st R h => by
  cases st with
  | none => exact rd_done_bad R h
  | some bs => exact rd_done_good h⟩
end Go.Proofs.YtiifcfngbbhgoagDoor.Rd

namespace Go.Proofs.YtiifcfngbbhgoagDoor.Rd
open Go Go.Proofs.YtiifcfngbbhgoagDoor.Ax Go.Proofs.YtiifcfngbbhgoagDoor.Wire
set_option maxRecDepth 100000
set_option maxHeartbeats 1000000
theorem shl64 (t : TypeId) (c : Bool) (n : Nat) (hn : n = 8 ∨ n = 16 ∨ n = 24 ∨ n = 32 ∨ n = 40 ∨ n = 48 ∨ n = 56) (a : UInt8) : binA P .shl t c (.i .u64 (a.toNat : Int)) (.i .u64 (n : Int)) = some (.i .u64 ((a.toNat * 2 ^ n : Nat) : Int)) := by
  have := u8_lt a
  have e : IntKind.u64.wrap ((a.toNat : Int) * 2 ^ n) = ((a.toNat * 2 ^ n : Nat) : Int) := by
    rcases hn with rfl | rfl | rfl | rfl | rfl | rfl | rfl <;> simp [IntKind.wrap, IntKind.signed, IntKind.bits] <;> omega
  have e2 : Op.shift .shl .u64 (a.toNat : Int) .u64 (n : Int) = pure (.int .u64 (IntKind.u64.wrap ((a.toNat : Int) * 2 ^ n))) := by
    rcases hn with rfl | rfl | rfl | rfl | rfl | rfl | rfl <;> rfl
  show ofSem (Op.shift .shl .u64 (a.toNat : Int) .u64 (n : Int)) = _
  rw [e2, e]
  rfl
theorem or64 (t : TypeId) (c : Bool) {x a n : Nat} (hx : x < 2 ^ n) (hlt : a * 2 ^ n + x < 2 ^ 64) : binA P .or t c (.i .u64 (x : Int)) (.i .u64 ((a * 2 ^ n : Nat) : Int)) = some (.i .u64 ((a * 2 ^ n + x : Nat) : Int)) := by
  have h := or_add (w := 64) (a := a) (b := x) (n := n) hx hlt
  have e : IntKind.u64.wrap ((a * 2 ^ n + x : Nat) : Int) = ((a * 2 ^ n + x : Nat) : Int) := by
    generalize a * 2 ^ n + x = y at hlt
    simp [IntKind.wrap, IntKind.signed, IntKind.bits]; omega
  show ofSem (Op.intBits .or .u64 (x : Int) ((a * 2 ^ n : Nat) : Int)) = _
  rw [show Op.intBits .or .u64 (x : Int) ((a * 2 ^ n : Nat) : Int) = pure (.int .u64 (IntKind.u64.wrap ((BitVec.ofInt 64 (x : Int) ||| BitVec.ofInt 64 ((a * 2 ^ n : Nat) : Int)).toNat : Int))) from rfl, h, e]
  rfl
theorem be64_run {A : Nat → Prop} {H : Heap} {src : AV} {b0 b1 b2 b3 b4 b5 b6 b7 : UInt8} {r : B} (h : BytesAt A H src (b0 :: b1 :: b2 :: b3 :: b4 :: b5 :: b6 :: b7 :: r)) {y0 y1 y2 y3 y4 y5 y6 z0 z1 z2 z3 z4 z5 z6 : Int}
    (s0 : binA P .shl 66 true (.i .u64 (b0.toNat : Int)) (.i .u64 56) = some (.i .u64 y0))
    (s1 : binA P .shl 66 true (.i .u64 (b1.toNat : Int)) (.i .u64 48) = some (.i .u64 y1))
    (s2 : binA P .shl 66 true (.i .u64 (b2.toNat : Int)) (.i .u64 40) = some (.i .u64 y2))
    (s3 : binA P .shl 66 true (.i .u64 (b3.toNat : Int)) (.i .u64 32) = some (.i .u64 y3))
    (s4 : binA P .shl 66 true (.i .u64 (b4.toNat : Int)) (.i .u64 24) = some (.i .u64 y4))
    (s5 : binA P .shl 66 true (.i .u64 (b5.toNat : Int)) (.i .u64 16) = some (.i .u64 y5))
    (s6 : binA P .shl 66 true (.i .u64 (b6.toNat : Int)) (.i .u64 8) = some (.i .u64 y6))
    (o6 : binA P .or 66 false (.i .u64 (b7.toNat : Int)) (.i .u64 y6) = some (.i .u64 z6))
    (o5 : binA P .or 66 false (.i .u64 z6) (.i .u64 y5) = some (.i .u64 z5))
    (o4 : binA P .or 66 false (.i .u64 z5) (.i .u64 y4) = some (.i .u64 z4))
    (o3 : binA P .or 66 false (.i .u64 z4) (.i .u64 y3) = some (.i .u64 z3))
    (o2 : binA P .or 66 false (.i .u64 z3) (.i .u64 y2) = some (.i .u64 z2))
    (o1 : binA P .or 66 false (.i .u64 z2) (.i .u64 y1) = some (.i .u64 z1))
    (o0 : binA P .or 66 false (.i .u64 z1) (.i .u64 y0) = some (.i .u64 z0))
    : CA P NS 48 [.g [], src] H (.i .u64 z0, H ++ [.cells 73 .vr []]) := by
  obtain ⟨q0, i0, l0⟩ := at_box h [.cells 73 .vr []] (n := 0) (b := b0) rfl
  have i0' : indexAddrA P tB src (.i .i64 0) = some q0 := i0
  obtain ⟨q1, i1, l1⟩ := at_box h [.cells 73 .vr []] (n := 1) (b := b1) rfl
  have i1' : indexAddrA P tB src (.i .i64 1) = some q1 := i1
  obtain ⟨q2, i2, l2⟩ := at_box h [.cells 73 .vr []] (n := 2) (b := b2) rfl
  have i2' : indexAddrA P tB src (.i .i64 2) = some q2 := i2
  obtain ⟨q3, i3, l3⟩ := at_box h [.cells 73 .vr []] (n := 3) (b := b3) rfl
  have i3' : indexAddrA P tB src (.i .i64 3) = some q3 := i3
  obtain ⟨q4, i4, l4⟩ := at_box h [.cells 73 .vr []] (n := 4) (b := b4) rfl
  have i4' : indexAddrA P tB src (.i .i64 4) = some q4 := i4
  obtain ⟨q5, i5, l5⟩ := at_box h [.cells 73 .vr []] (n := 5) (b := b5) rfl
  have i5' : indexAddrA P tB src (.i .i64 5) = some q5 := i5
  obtain ⟨q6, i6, l6⟩ := at_box h [.cells 73 .vr []] (n := 6) (b := b6) rfl
  have i6' : indexAddrA P tB src (.i .i64 6) = some q6 := i6
  obtain ⟨q7, i7, l7⟩ := at_box h [.cells 73 .vr []] (n := 7) (b := b7) rfl
  have i7' : indexAddrA P tB src (.i .i64 7) = some q7 := i7
  refine CA.go (fn := Tryd.f48) (vs := [_]) (by kernel_rfl) rfl (.inr rfl) ?_
  apply Exists.intro
  apply And.intro
  · dsimp only [Tryd.f48]
    dsimp only [List.length_cons, List.length_nil, List.cons_append, List.nil_append, Nat.reduceSub, Nat.reduceAdd, List.replicate]
    apply RU.seq
    · exact RU.rg
    apply RU.seq
    · exact RU.rg
    apply RU.seq
    · exact RU.d0
    exact RU.ret
  · rfl
theorem be64 {A : Nat → Prop} {H : Heap} {src : AV} {b0 b1 b2 b3 b4 b5 b6 b7 : UInt8} {r : B} (h : BytesAt A H src (b0 :: b1 :: b2 :: b3 :: b4 :: b5 :: b6 :: b7 :: r)) :
    CA P NS 48 [.g [], src] H (.i .u64 ((nat [b0, b1, b2, b3, b4, b5, b6, b7] : Nat) : Int), H ++ [.cells 73 .vr []]) := by
  have e : nat [b0, b1, b2, b3, b4, b5, b6, b7] = b0.toNat * 2 ^ 56 + (b1.toNat * 2 ^ 48 + (b2.toNat * 2 ^ 40 + (b3.toNat * 2 ^ 32 + (b4.toNat * 2 ^ 24 + (b5.toNat * 2 ^ 16 + (b6.toNat * 2 ^ 8 + b7.toNat)))))) := by simp [nat]
  rw [e]
  have := u8_lt b0
  have := u8_lt b1
  have := u8_lt b2
  have := u8_lt b3
  have := u8_lt b4
  have := u8_lt b5
  have := u8_lt b6
  have := u8_lt b7
  exact be64_run h (shl64 _ _ 56 (by simp) b0) (shl64 _ _ 48 (by simp) b1) (shl64 _ _ 40 (by simp) b2) (shl64 _ _ 32 (by simp) b3) (shl64 _ _ 24 (by simp) b4) (shl64 _ _ 16 (by simp) b5) (shl64 _ _ 8 (by simp) b6)
    (or64 _ _ (x := b7.toNat) (a := b6.toNat) (n := 8) (by omega) (by omega))
    (or64 _ _ (x := b6.toNat * 2 ^ 8 + b7.toNat) (a := b5.toNat) (n := 16) (by omega) (by omega))
    (or64 _ _ (x := b5.toNat * 2 ^ 16 + (b6.toNat * 2 ^ 8 + b7.toNat)) (a := b4.toNat) (n := 24) (by omega) (by omega))
    (or64 _ _ (x := b4.toNat * 2 ^ 24 + (b5.toNat * 2 ^ 16 + (b6.toNat * 2 ^ 8 + b7.toNat))) (a := b3.toNat) (n := 32) (by omega) (by omega))
    (or64 _ _ (x := b3.toNat * 2 ^ 32 + (b4.toNat * 2 ^ 24 + (b5.toNat * 2 ^ 16 + (b6.toNat * 2 ^ 8 + b7.toNat)))) (a := b2.toNat) (n := 40) (by omega) (by omega))
    (or64 _ _ (x := b2.toNat * 2 ^ 40 + (b3.toNat * 2 ^ 32 + (b4.toNat * 2 ^ 24 + (b5.toNat * 2 ^ 16 + (b6.toNat * 2 ^ 8 + b7.toNat))))) (a := b1.toNat) (n := 48) (by omega) (by omega))
    (or64 _ _ (x := b1.toNat * 2 ^ 48 + (b2.toNat * 2 ^ 40 + (b3.toNat * 2 ^ 32 + (b4.toNat * 2 ^ 24 + (b5.toNat * 2 ^ 16 + (b6.toNat * 2 ^ 8 + b7.toNat)))))) (a := b0.toNat) (n := 56) (by omega) (by omega))
theorem u64_short {H : Heap} {rb : Nat} {src : AV} {bad : Bool} {n : Nat} (hH : H[rb]? = some (.cells tR .vr [src, .b bad])) (hlen : lenA P 22 src = some (.i .i64 n)) (hl : n < 8) :
    CA P NS 43 [.p rb 0] H (.i .u64 0, RH H rb .s0 true) := by
  have hc : binA P .lss 3 true (.i .i64 (n : Int)) (.i .i64 8) = some (.b true) := by rw [lss]; simp; omega
  have l0 := rd_src hH
  have s1 := st_bad hH
  have s2 : storeA P (RH H rb src true) 22 (.p rb 0) .s0 = some (RH H rb .s0 true) := by rw [st_src (RH_at hH _ _) rfl rfl, RH_RH]
  refine CA.go (fn := Tryd.f43) (vs := [_]) (by kernel_rfl) rfl (.inr rfl) ?_
  apply Exists.intro
  apply And.intro
  · dsimp only [Tryd.f43]
    dsimp only [List.length_cons, List.length_nil, List.cons_append, List.nil_append, Nat.reduceSub, Nat.reduceAdd, List.replicate]
    refine RU.seq RU.rg ?_
    (apply RU.seqx; rotate_left; focus (simp)); refine RU.seq RU.rg ?_; apply RU.condT rfl
    refine RU.seq RU.rg ?_
    refine RU.seq RU.rg ?_
    refine RU.seq RU.rg ?_
    exact RU.ret
  · rfl
theorem u64_good {A : Nat → Prop} {H : Heap} {rb : Nat} {src src' : AV} {b0 b1 b2 b3 b4 b5 b6 b7 : UInt8} {r : B} (R : Room A H rb) (hH : H[rb]? = some (.cells tR .vr [src, .b false])) (hb : BytesAt A H src (b0 :: b1 :: b2 :: b3 :: b4 :: b5 :: b6 :: b7 :: r)) (hs : sliceA P 22 src (some (.i .i64 8)) none = some src') (hs1 : src'.cells = [src']) (hs2 : src'.one = true) :
    CA P NS 43 [.p rb 0] H (.i .u64 ((nat [b0, b1, b2, b3, b4, b5, b6, b7] : Nat) : Int), RH (H ++ [.cells 73 .vr []]) rb src' false) := by
  have hlen := hb.len bty
  have hc : binA P .lss 3 true (.i .i64 ((b0 :: b1 :: b2 :: b3 :: b4 :: b5 :: b6 :: b7 :: r).length : Int)) (.i .i64 8) = some (.b false) := by rw [lss]; simp; omega
  generalize ((b0 :: b1 :: b2 :: b3 :: b4 :: b5 :: b6 :: b7 :: r).length : Int) = n at hlen hc
  have l0 := rd_src hH
  have lg := R.ldBE
  obtain ⟨n1, hcall⟩ := be64 hb
  have hgr : Grows H (H ++ [.cells 73 .vr []]) := .app _ _
  have hH1 := hgr.at hH
  have l1 := rd_src hH1
  have s1 := st_src hH1 hs1 hs2
  generalize ((nat [b0, b1, b2, b3, b4, b5, b6, b7] : Nat) : Int) = u at *
  generalize H ++ [Blk.cells 73 Kn.vr []] = H1 at *
  refine CA.go (fn := Tryd.f43) (vs := [_]) (by kernel_rfl) rfl (.inr rfl) ?_
  apply Exists.intro
  apply And.intro
  · dsimp only [Tryd.f43]
    dsimp only [List.length_cons, List.length_nil, List.cons_append, List.nil_append, Nat.reduceSub, Nat.reduceAdd, List.replicate]
    refine RU.seq RU.rg ?_
    refine RU.seq (RU.seq RU.rg (RU.condF rfl RU.skip)) ?_
    refine RU.seq (RU.dr hcall) ?_
    refine RU.seq RU.rg ?_
    refine RU.seq RU.rg ?_
    exact RU.ret
  · rfl
theorem rd_u64 : RdN 43 .u64 (rdU 8) where
  good A H rb nn bs n r R h hd := by
    obtain ⟨src, hH, hb, hn⟩ := h
    obtain ⟨h, hc, rfl⟩ := rdU_some hd
    obtain ⟨b0, b1, b2, b3, b4, b5, b6, b7, rfl, rfl⟩ := cut8 hc
    obtain ⟨src', hs, hb', hn'⟩ := hb.lo bty .i64 (n := 8) (by simp)
    have g : Keep A H (H ++ [.cells 73 .vr []]) := .app A _ _
    have hH1 := (Grows.app H [.cells 73 .vr []]).at hH
    exact ⟨_, u64_good R hH hb hs (BytesAt.one' hb').1 (BytesAt.one' hb').2, RdAt.good R.no hH1 (hb'.keep g) (fun _ => hn' (.inl (by omega))), g.trans (RH_keep R.no _ _)⟩
  bad A H rb nn st R h hd := by
    obtain ⟨src, b, hH, hl, _⟩ := RdAt.cell h
    exact ⟨_, u64_short hH hl (rdU_none (by omega) hd), RdAt.bad hH, RH_keep R.no _ _⟩
theorem int64_run {H H1 : Heap} {rb : Nat} {u v : Int} (c1 : CA P NS 43 [.p rb 0] H (.i .u64 u, H1)) (hcv : convA P 66 2 (.i .u64 u) = some (.i .i64 v)) :
    CA P NS 27 [.p rb 0] H (.i .i64 v, H1) := by
  refine CA.go (fn := Tryd.f27) (vs := [_]) (by kernel_rfl) rfl (.inr rfl) ?_
  apply Exists.intro
  apply And.intro
  · dsimp only [Tryd.f27]
    dsimp only [List.length_cons, List.length_nil, List.cons_append, List.nil_append, Nat.reduceSub, Nat.reduceAdd, List.replicate]
    refine RU.seq RU.rg ?_
    refine RU.seq RU.rg ?_
    exact RU.ret
  · rfl
theorem cv_int64 (n : Int) : convA P 66 2 (.i .u64 n) = some (.i .i64 (IntKind.i64.wrap n)) := by kernel_rfl
theorem rd_int64 : RdN 27 .i64 (rdI 8) where
  good A H rb nn bs n r R h hd := by
    obtain ⟨x, hc, rfl⟩ := rdI_some hd
    have hu : rdU 8 bs = some (((nat x : Nat) : Int), r) := by simp [rdU, hc]
    obtain ⟨H1, c1, R1, k1⟩ := rd_u64.good A H rb nn bs _ r R h hu
    have hl := (cut_len hc).1
    have : nat x < 18446744073709551616 := by have := nat_lt x; rw [hl] at this; simpa using this
    exact ⟨H1, int64_run c1 ((cv_int64 _).trans (by rw [wrap_sgn8 this])), R1, k1⟩
  bad A H rb nn st R h hd := by
    have hi : st.bind (rdU 8) = none := by
      cases st with
      | none => rfl
      | some bs =>
        simp only [Option.bind_some, rdI, rdU, Option.map_eq_none_iff] at hd ⊢
        exact hd
    obtain ⟨H1, c1, R1, k1⟩ := rd_u64.bad A H rb nn st R h hi
    exact ⟨H1, int64_run c1 (cv_int64 0), R1, k1⟩
theorem rdv_i64 (flex null : Bool) : RdV 27 flex .i64 null where
  good A H rb nn bs v r R h hd := by
    simp only [decK, Option.map_eq_some_iff] at hd
    obtain ⟨⟨n, r1⟩, hi, hh⟩ := hd
    simp at hh
    obtain ⟨rfl, rfl⟩ := hh
    obtain ⟨H1, c1, R1, k1⟩ := rd_int64.good A H rb nn bs n r1 R h hi
    exact ⟨_, H1, c1, rfl, rfl, rfl, R1, k1⟩
  bad A H rb nn st R h hd := by
    have hi : st.bind (rdI (K.size .i64)) = none := by
      cases st with
      | none => rfl
      | some bs => simpa [decK] using hd
    obtain ⟨H1, c1, R1, k1⟩ := rd_int64.bad A H rb nn st R h hi
    exact ⟨_, H1, c1, rfl, rfl, R1, k1⟩
theorem bool_short {H : Heap} {rb : Nat} {src : AV} {bad : Bool} {n : Nat} (hH : H[rb]? = some (.cells tR .vr [src, .b bad])) (hlen : lenA P 22 src = some (.i .i64 n)) (hl : n < 1) :
    CA P NS 28 [.p rb 0] H (.b false, RH H rb .s0 true) := by
  have hc : binA P .lss 3 true (.i .i64 (n : Int)) (.i .i64 1) = some (.b true) := by rw [lss]; simp; omega
  have l0 := rd_src hH
  have s1 := st_bad hH
  have s2 : storeA P (RH H rb src true) 22 (.p rb 0) .s0 = some (RH H rb .s0 true) := by rw [st_src (RH_at hH _ _) rfl rfl, RH_RH]
  refine CA.go (fn := Tryd.f28) (vs := [_]) (by kernel_rfl) rfl (.inr rfl) ?_
  apply Exists.intro
  apply And.intro
  · dsimp only [Tryd.f28]
    dsimp only [List.length_cons, List.length_nil, List.cons_append, List.nil_append, Nat.reduceSub, Nat.reduceAdd, List.replicate]
    refine RU.seq RU.rg ?_
    (apply RU.seqx; rotate_left; focus (simp)); refine RU.seq RU.rg ?_; apply RU.condT rfl
    refine RU.seq RU.rg ?_
    refine RU.seq RU.rg ?_
    refine RU.seq RU.rg ?_
    exact RU.ret
  · rfl
theorem neq8 (t : TypeId) (c : Bool) (a b : Int) : binA P .neq t c (.i .u8 a) (.i .u8 b) = some (.b (!(a == b))) := by
  simp [binA, binOp, Op.intCmp, ofSem, ofV1]
  rfl
theorem bool_good {A : Nat → Prop} {H : Heap} {rb : Nat} {src src' : AV} {b0 : UInt8} {r : B} (hH : H[rb]? = some (.cells tR .vr [src, .b false])) (hb : BytesAt A H src (b0 :: r)) (hs : sliceA P 22 src (some (.i .i64 1)) none = some src') (hs1 : src'.cells = [src']) (hs2 : src'.one = true) :
    CA P NS 28 [.p rb 0] H (.b ([b0] != [0]), RH H rb src' false) := by
  have hlen := hb.len bty
  have hc : binA P .lss 3 true (.i .i64 ((b0 :: r).length : Int)) (.i .i64 1) = some (.b false) := by rw [lss]; simp; omega
  generalize ((b0 :: r).length : Int) = n at hlen hc
  have l0 := rd_src hH
  obtain ⟨q0, i0, lq⟩ := hb.idx bty .i64 (n := 0) (b := b0) rfl
  have i0' : indexAddrA P tB src (.i .i64 0) = some q0 := i0
  have s1 := st_src hH hs1 hs2
  have hne : binA P .neq 5 true (U8 b0) (.i .u8 0) = some (.b ([b0] != [0])) := by
    rw [show U8 b0 = .i .u8 (b0.toNat : Int) from rfl, neq8]
    congr 2
    by_cases e : b0 = 0
    · subst e; rfl
    · have : b0.toNat ≠ 0 := fun h => e (UInt8.toNat_inj.1 h)
      have h1 : ((b0.toNat : Int) == 0) = false := by simpa using this
      rw [h1]
      simp [bne, e]
  generalize ([b0] != [0]) = v at hne ⊢
  refine CA.go (fn := Tryd.f28) (vs := [_]) (by kernel_rfl) rfl (.inr rfl) ?_
  apply Exists.intro
  apply And.intro
  · dsimp only [Tryd.f28]
    dsimp only [List.length_cons, List.length_nil, List.cons_append, List.nil_append, Nat.reduceSub, Nat.reduceAdd, List.replicate]
    refine RU.seq RU.rg ?_
    refine RU.seq (RU.seq RU.rg (RU.condF rfl RU.skip)) ?_
    refine RU.seq RU.rg ?_
    refine RU.seq RU.rg ?_
    refine RU.seq RU.rg ?_
    exact RU.ret
  · rfl
theorem cut_none1 {n : Nat} {st : Option B} {g : B × B → V × B} (hn : 0 < n) (h : (st.bind fun bs => (cut n bs).map g) = none) : (st.getD []).length < n := by
  cases st with
  | none => simpa using hn
  | some bs =>
    simp only [Option.bind_some, Option.map_eq_none_iff] at h
    simpa using cut_none h
theorem rdv_bool (flex null : Bool) : RdV 28 flex .bool null where
  good A H rb nn bs v r R h hd := by
    simp only [decK, Option.map_eq_some_iff] at hd
    obtain ⟨⟨x, r1⟩, hc, hh⟩ := hd
    simp at hh
    obtain ⟨rfl, rfl⟩ := hh
    obtain ⟨src, hH, hb, hn⟩ := h
    obtain ⟨b0, rfl, rfl⟩ := cut1 hc
    obtain ⟨src', hs, hb', hn'⟩ := hb.lo bty .i64 (n := 1) (by simp)
    exact ⟨_, _, bool_good hH hb hs (BytesAt.one' hb').1 (BytesAt.one' hb').2, rfl, rfl, rfl, RdAt.good R.no hH (hb'.keep (Keep.refl _ _)) (fun _ => hn' (.inl (by omega))), RH_keep R.no _ _⟩
  bad A H rb nn st R h hd := by
    obtain ⟨src, b, hH, hl, _⟩ := RdAt.cell h
    exact ⟨_, _, bool_short hH hl (cut_none1 (by omega) hd), rfl, rfl, RdAt.bad hH, RH_keep R.no _ _⟩
end Go.Proofs.YtiifcfngbbhgoagDoor.Rd

namespace Go.Proofs.YtiifcfngbbhgoagDoor.Rd
open Go Go.Proofs.YtiifcfngbbhgoagDoor.Ax Go.Proofs.YtiifcfngbbhgoagDoor.Wire
set_option maxRecDepth 100000
set_option maxHeartbeats 1000000
theorem uv_get {A : Nat → Prop} {H : Heap} {rb : Nat} {nn : Bool} {st : Option B} (R : Room A H rb) (h : RdAt A tR H rb nn st) :
    ∃ (n : Nat) (H1 : Heap) (st1 : Option B), n < 4294967296 ∧ CA P NS 29 [.p rb 0] H (.i .u32 (n : Int), H1) ∧ RdAt A tR H1 rb true st1 ∧ Keep A H H1 ∧
      (match st.bind rdV with | none => st1 = none ∧ n = 0 | some (v, r) => st1 = some r ∧ n = v) := by
  cases hd : st.bind rdV with
  | none =>
    have hi : st.bind rdVi = none := by
      cases st with
      | none => rfl
      | some bs => simp only [Option.bind_some, rdVi] at hd ⊢; rw [hd]; rfl
    obtain ⟨H1, c, r, k⟩ := rd_uvarint.bad A H rb nn st R h hi
    exact ⟨0, H1, none, by omega, c, r, k, rfl, rfl⟩
  | some x =>
    obtain ⟨v, r1⟩ := x
    cases st with
    | none => cases hd
    | some bs =>
      simp only [Option.bind_some] at hd
      obtain ⟨H1, c, r, k⟩ := rd_uvarint.good A H rb nn bs (v : Int) r1 R h (by simp [rdVi, hd])
      exact ⟨v, H1, some r1, rdV_lt hd, c, r, k, rfl, rfl⟩
theorem cvu32 (n : Nat) (h : n < 4294967296) : convA P 49 21 (.i .u32 (n : Int)) = some (.i .i32 (sgn 4 n)) := by
  have e : convA P 49 21 (.i .u32 (n : Int)) = some (.i .i32 (IntKind.i32.wrap (n : Int))) := by kernel_rfl
  rw [e, wrap_sgn4 h]
theorem sub1i (n : Nat) (h : n < 4294967296) : binA P .sub 21 true (.i .i32 (sgn 4 n)) (.i .i32 1) = some (.i .i32 (sgn 4 ((sgn 4 n - 1) % 4294967296).toNat)) := by
  have e : binA P .sub 21 true (.i .i32 (sgn 4 n)) (.i .i32 1) = some (.i .i32 (IntKind.i32.wrap (sgn 4 n - 1))) := by kernel_rfl
  rw [e]
  congr 2
  unfold sgn
  split <;> simp [IntKind.wrap, IntKind.signed, IntKind.bits] <;> omega
theorem clen_in (n : Nat) (h : n < 4294967296) : inI 4 (sgn 4 ((sgn 4 n - 1) % 4294967296).toNat) := by
  unfold inI sgn
  split <;> split <;> simp <;> omega
theorem carr_ok {H H1 : Heap} {rb : Nat} {src : AV} {bad : Bool} {u m l n : Int} (c1 : CA P NS 29 [.p rb 0] H (.i .u32 u, H1)) (hcv : convA P 49 21 (.i .u32 u) = some (.i .i32 m)) (hsb : binA P .sub 21 true (.i .i32 m) (.i .i32 1) = some (.i .i32 l))
    (hH : H1[rb]? = some (.cells tR .vr [src, .b bad])) (hlen : lenA P 22 src = some (.i .i64 n)) (hc : convA P 21 3 (.i .i32 l) = some (.i .i64 l))
    (hl : binA P .lss 3 false (.i .i64 n) (.i .i64 l) = some (.b false)) :
    CA P NS 32 [.p rb 0] H (.i .i32 l, H1) := by
  have l0 := rd_src hH
  refine CA.go (fn := Tryd.f32) (vs := [_]) (by kernel_rfl) rfl (.inr rfl) ?_
  apply Exists.intro
  apply And.intro
  · dsimp only [Tryd.f32]
    dsimp only [List.length_cons, List.length_nil, List.cons_append, List.nil_append, Nat.reduceSub, Nat.reduceAdd, List.replicate]
    refine RU.seq RU.rg ?_
    refine RU.seq RU.rg ?_
    refine RU.seq (RU.seq RU.rg (RU.condF rfl RU.skip)) ?_
    refine RU.seq RU.rg ?_
    exact RU.ret
  · rfl
theorem carr_short {H H1 : Heap} {rb : Nat} {src : AV} {bad : Bool} {u m l n : Int} (c1 : CA P NS 29 [.p rb 0] H (.i .u32 u, H1)) (hcv : convA P 49 21 (.i .u32 u) = some (.i .i32 m)) (hsb : binA P .sub 21 true (.i .i32 m) (.i .i32 1) = some (.i .i32 l))
    (hH : H1[rb]? = some (.cells tR .vr [src, .b bad])) (hlen : lenA P 22 src = some (.i .i64 n)) (hc : convA P 21 3 (.i .i32 l) = some (.i .i64 l))
    (hl : binA P .lss 3 false (.i .i64 n) (.i .i64 l) = some (.b true)) :
    CA P NS 32 [.p rb 0] H (.i .i32 0, RH H1 rb .s0 true) := by
  have l0 := rd_src hH
  have s1 := st_bad hH
  have s2 : storeA P (RH H1 rb src true) 22 (.p rb 0) .s0 = some (RH H1 rb .s0 true) := by rw [st_src (RH_at hH _ _) rfl rfl, RH_RH]
  refine CA.go (fn := Tryd.f32) (vs := [_]) (by kernel_rfl) rfl (.inr rfl) ?_
  apply Exists.intro
  apply And.intro
  · dsimp only [Tryd.f32]
    dsimp only [List.length_cons, List.length_nil, List.cons_append, List.nil_append, Nat.reduceSub, Nat.reduceAdd, List.replicate]
    refine RU.seq RU.rg ?_
    refine RU.seq RU.rg ?_
    (apply RU.seqx; rotate_left; focus (simp)); refine RU.seq RU.rg ?_; apply RU.condT rfl
    refine RU.seq RU.rg ?_
    refine RU.seq RU.rg ?_
    refine RU.seq RU.rg ?_
    exact RU.ret
  · rfl
theorem rd_carrlen : RdL 32 (rdL true) where
  good A H rb nn bs n r R h hd := by
    obtain ⟨u, H1, st1, hu, c1, R1, k1, m⟩ := uv_get R h
    unfold rdL at hd
    simp only [if_true] at hd
    simp only [Option.bind_some] at m
    cases hi : rdV bs with
    | none => rw [hi] at hd; cases hd
    | some p =>
      obtain ⟨v, r1⟩ := p
      rw [hi] at hd m
      obtain ⟨rfl, rfl⟩ := m
      simp only [Option.map_some, Option.bind_some] at hd
      split at hd
      · cases hd
      · rename_i hlt
        simp only [Option.some.injEq, Prod.mk.injEq] at hd
        obtain ⟨rfl, rfl⟩ := hd
        obtain ⟨src, b, hH, hl, _⟩ := RdAt.cell R1
        refine ⟨H1, carr_ok c1 (cvu32 u hu) (sub1i u hu) hH hl (cvr_i32_i64 _ (clen_in u hu)) ?_, R1, k1⟩
        rw [lss]; simp; simpa using hlt
  bad A H rb nn st R h hd := by
    obtain ⟨u, H1, st1, hu, c1, R1, k1, m⟩ := uv_get R h
    obtain ⟨src, b, hH, hl, _⟩ := RdAt.cell R1
    cases hi : st.bind rdV with
    | none =>
      rw [hi] at m
      obtain ⟨rfl, rfl⟩ := m
      exact ⟨_, H1, carr_ok c1 (cvu32 0 hu) (sub1i 0 hu) hH hl (cvr_i32_i64 _ (clen_in 0 hu)) (by rw [lss]; simp [sgn]), .inr (by simp [sgn]), R1, k1⟩
    | some p =>
      obtain ⟨v, r1⟩ := p
      rw [hi] at m
      obtain ⟨rfl, rfl⟩ := m
      cases st with
      | none => cases hi
      | some bs =>
        simp only [Option.bind_some] at hi hd
        unfold rdL at hd
        simp only [if_true] at hd
        rw [hi] at hd
        simp only [Option.map_some, Option.bind_some] at hd
        split at hd
        · rename_i hlt
          exact ⟨0, _, carr_short c1 (cvu32 u hu) (sub1i u hu) hH hl (cvr_i32_i64 _ (clen_in u hu)) (by rw [lss]; simpa using hlt), .inl rfl, RdAt.bad hH, k1.trans (RH_keep R.no _ _)⟩
        · cases hd
theorem tyB : elemA P 22 = some tU := bty.elem
theorem zU : zeroA P tU = some (.i .u8 0) := by kernel_rfl
theorem bs0 (H : Heap) : buildSliceA P H 22 0 [] = some (.se, H ++ [.cells tU .row []]) := by simp [buildSliceA, tyB, bty.size, zU, newBlk, bty.u8]
end Go.Proofs.YtiifcfngbbhgoagDoor.Rd

namespace Go.Proofs.YtiifcfngbbhgoagDoor.Rd
open Go Go.Proofs.YtiifcfngbbhgoagDoor.Ax Go.Proofs.YtiifcfngbbhgoagDoor.Wire
def RUs : List Code → List AV → Heap → AX × List AV × Heap → Prop
  | [], fr, H, r => r = (.normal, fr, H)
  | c :: l, fr, H, r => (∃ fr1 H1, RU P NS c fr H (.normal, fr1, H1) ∧ RUs l fr1 H1 r) ∨ (r.1 ≠ .normal ∧ RU P NS c fr H r)
theorem RUs.cons {c : Code} {l : List Code} {fr fr1 : List AV} {H H1 : Heap} {r : AX × List AV × Heap} (h : RU P NS c fr H (.normal, fr1, H1)) (k : RUs l fr1 H1 r) : RUs (c :: l) fr H r := .inl ⟨fr1, H1, h, k⟩
theorem RUs.stop {c : Code} {l : List Code} {fr : List AV} {H : Heap} {r : AX × List AV × Heap} (h : RU P NS c fr H r) (k : r.1 ≠ .normal) : RUs (c :: l) fr H r := .inr ⟨k, h⟩
theorem RUs.app : ∀ {a b : List Code} {fr fr1 : List AV} {H H1 : Heap} {r : AX × List AV × Heap}, RUs a fr H (.normal, fr1, H1) → RUs b fr1 H1 r → RUs (a ++ b) fr H r
  | [], b, fr, fr1, H, H1, r, h, k => by
    obtain ⟨rfl, rfl⟩ : fr1 = fr ∧ H1 = H := by simpa [RUs] using h
    exact k
  | c :: a, b, fr, fr1, H, H1, r, h, k => by
    rcases h with ⟨fr2, H2, h1, h2⟩ | ⟨h1, _⟩
    · exact .inl ⟨fr2, H2, h1, RUs.app h2 k⟩
    · exact absurd rfl h1
theorem RUs.appx : ∀ {a : List Code} (b : List Code) {fr : List AV} {H : Heap} {r : AX × List AV × Heap}, RUs a fr H r → r.1 ≠ .normal → RUs (a ++ b) fr H r
  | [], b, fr, H, r, h, k => by
    have : r = (.normal, fr, H) := h
    rw [this] at k; exact absurd rfl k
  | c :: a, b, fr, H, r, h, k => by
    rcases h with ⟨fr2, H2, h1, h2⟩ | ⟨h1, h2⟩
    · exact .inl ⟨fr2, H2, h1, RUs.appx b h2 k⟩
    · exact .inr ⟨h1, h2⟩
theorem RUs.split : ∀ {a b : List Code} {fr : List AV} {H : Heap} {r : AX × List AV × Heap}, RUs (a ++ b) fr H r → (∃ fr1 H1, RUs a fr H (.normal, fr1, H1) ∧ RUs b fr1 H1 r) ∨ (r.1 ≠ .normal ∧ RUs a fr H r)
  | [], b, fr, H, r, h => .inl ⟨fr, H, rfl, h⟩
  | c :: a, b, fr, H, r, h => by
    rcases h with ⟨fr2, H2, h1, h2⟩ | ⟨h1, h2⟩
    · rcases RUs.split h2 with ⟨fr3, H3, h3, h4⟩ | ⟨h3, h4⟩
      · exact .inl ⟨fr3, H3, .inl ⟨fr2, H2, h1, h3⟩, h4⟩
      · exact .inr ⟨h3, .inl ⟨fr2, H2, h1, h4⟩⟩
    · exact .inr ⟨h1, .inr ⟨h1, h2⟩⟩
theorem RUs.code : ∀ {c : Code} {fr : List AV} {H : Heap} {r : AX × List AV × Heap}, RUs (flat c) fr H r → RU P NS c fr H r := by
  have one : ∀ {c : Code} {fr : List AV} {H : Heap} {r : AX × List AV × Heap}, RUs [c] fr H r → RU P NS c fr H r := by
    intro c fr H r h
    rcases h with ⟨fr2, H2, h1, h2⟩ | ⟨h1, h2⟩
    · have : r = (.normal, fr2, H2) := h2
      rw [this]; exact h1
    · exact h2
  intro c
  induction c with
  | seq a b iha ihb =>
    intro fr H r h
    simp only [flat] at h
    rcases RUs.split h with ⟨fr2, H2, h1, h2⟩ | ⟨h1, h2⟩
    · exact RU.seq (iha h1) (ihb h2)
    · obtain ⟨x, fr2, H2⟩ := r
      exact RU.seqx (iha h2) h1
  | skip =>
    intro fr H r h
    have : r = (.normal, fr, H) := h
    rw [this]; exact RU.skip
  | _ => intro fr H r h; exact one h
end Go.Proofs.YtiifcfngbbhgoagDoor.Rd

namespace Go.Proofs.YtiifcfngbbhgoagDoor.Rd
open Go Go.Proofs.YtiifcfngbbhgoagDoor.Ax Go.Proofs.YtiifcfngbbhgoagDoor.Wire
set_option maxRecDepth 100000
theorem gtr (t : TypeId) (k : IntKind) (c : Bool) (a b : Int) : binA P .gtr t c (.i k a) (.i k b) = some (.b (decide (b < a))) := by
  simp [binA, binOp, Op.intCmp, ofSem, ofV1]
  rfl
theorem geqA (t : TypeId) (k : IntKind) (c : Bool) (a b : Int) : binA P .geq t c (.i k a) (.i k b) = some (.b (decide (b ≤ a))) := by
  simp [binA, binOp, Op.intCmp, ofSem, ofV1]
  rfl
theorem neqA (t : TypeId) (k : IntKind) (c : Bool) (a b : Int) : binA P .neq t c (.i k a) (.i k b) = some (.b (a != b)) := by
  simp [binA, binOp, Op.intCmp, ofSem, ofV1]
  rfl
theorem add (t : TypeId) (k : IntKind) (c : Bool) (a b : Int) : binA P .add t c (.i k a) (.i k b) = some (.i k (k.wrap (a + b))) := by
  simp [binA, binOp, Op.intArith, ofSem, ofV1]
  rfl
variable {η : Env}
theorem den_ofA (a : AV) : den η (ofA a) a := by
  cases a <;> simp only [ofA] <;> try (simp [den]; done)
  all_goals first | rfl | skip
  · split <;> first | trivial | (rename_i h; cases h; done) | (rename_i h; cases h; rfl) | skip
  rename_i x
  split
  · rename_i h
    show AV.s x = AV.s ⟨#[]⟩
    have : x = ⟨#[]⟩ := by
      cases x with
      | mk d =>
        have : d.size = 0 := h
        rw [Array.size_eq_zero_iff] at this
        rw [this]
    rw [this]
  · trivial
theorem con_den {v : SV} {a b : AV} (h : v.con = some a) (d : den η v b) : b = a := by
  cases v <;> simp [SV.con] at h <;> subst h <;> exact d
theorem con_one {v : SV} {a : AV} (h : v.con = some a) : a.one = true ∧ a.cells = [a] := by
  cases v <;> simp [SV.con] at h <;> subst h
  · exact ⟨rfl, rfl⟩
  · exact ⟨rfl, rfl⟩
  · rename_i c; cases c <;> exact ⟨rfl, rfl⟩
theorem FR.at_ {sf : SF} {fr : List AV} (h : FR η sf fr) {t : Nat} {v : SV} (hv : sf[t]? = some v) : ∃ a, fr[t]? = some a ∧ den η v a := by
  have ht : t < fr.length := by have := (List.getElem?_eq_some_iff.1 hv).1; have := h.1; omega
  exact ⟨fr[t], by simp [ht], h.2 t v _ hv (by simp [ht])⟩
theorem evS_sound {sf : SF} {fr : List AV} (h : FR η sf fr) {x : Operand} {v : SV} (hv : evS sf x = some v) : ∃ a, ev fr x = some a ∧ den η v a := by
  cases x with
  | tmp t =>
    obtain ⟨a, h1, h2⟩ := FR.at_ h (t := t) hv
    exact ⟨a, h1, h2⟩
  | const y =>
    simp only [evS, Option.map_eq_some_iff] at hv
    obtain ⟨a, ha, rfl⟩ := hv
    exact ⟨a, ha, den_ofA a⟩
  | _ => simp [evS] at hv
theorem binS_sound {op : BinOp} {t : TypeId} {c : Bool} {x y v : SV} {a b : AV} (h : binS op t c x y = some v) (dx : den η x a) (dy : den η y b) : ∃ r, binA P op t c a b = some r ∧ den η v r := by
  unfold binS at h
  split at h
  · rename_i a' b' ha hb
    rw [con_den ha dx, con_den hb dy]
    simp only [Option.map_eq_some_iff] at h
    obtain ⟨r, hr, rfl⟩ := h
    exact ⟨r, hr, den_ofA r⟩
  · split at h
    · rename_i l l' _
      split at h
      · rename_i e; subst e
        simp at h; subst h
        obtain ⟨e, n, h1, h2, rfl, h3, h4⟩ := dx
        obtain ⟨n', h5, rfl, h6⟩ := dy
        rw [h2] at h5; cases h5
        exact ⟨_, lss _ _ _ _ _, by simp [den]; omega⟩
      · cases h
    · rename_i l l' _
      split at h
      · rename_i e; subst e
        simp at h; subst h
        obtain ⟨n, h1, rfl⟩ := dx
        obtain ⟨n', h5, rfl, h6⟩ := dy
        rw [h1] at h5; cases h5
        exact ⟨_, lss _ _ _ _ _, by simp [den]⟩
      · cases h
    · simp at h; subst h
      obtain rfl := dx
      obtain ⟨n, rfl, hn⟩ := dy
      exact ⟨_, lss _ _ _ _ _, by simp [den]; omega⟩
    · simp at h; subst h
      obtain rfl := dy
      obtain ⟨n, rfl, hn⟩ := dx
      exact ⟨_, gtr _ _ _ _ _, by simp [den]; omega⟩
    · simp at h; subst h
      obtain rfl := dy
      obtain ⟨n, h1, rfl, hn, _⟩ := dx
      exact ⟨_, gtr _ _ _ _ _, by simp [den]; omega⟩
    · simp at h; subst h
      obtain rfl := dy
      obtain ⟨n, rfl, hn⟩ := dx
      exact ⟨_, eql _ _ _ _ _, by simp [den]; omega⟩
    · simp at h; subst h
      obtain rfl := dy
      obtain ⟨n, h1, rfl, hn, _⟩ := dx
      exact ⟨_, eql _ _ _ _ _, by simp [den]; omega⟩
    · simp at h; subst h
      obtain rfl := dy
      obtain ⟨e, n, h1, h2, rfl, h3, h4⟩ := dx
      refine ⟨_, add _ _ _ _ _, e, h1, ?_⟩
      simp [IntKind.wrap, IntKind.signed, IntKind.bits]; omega
    · obtain rfl := dy
      obtain ⟨x, rfl, hx⟩ := dx
      split at h
      · rename_i hc
        obtain ⟨rfl, rfl⟩ := hc
        simp at h; subst h
        exact ⟨_, neqA _ _ _ _ _, by simp [den]; exact hx⟩
      · cases h
    · obtain rfl := dy
      obtain ⟨k, k1, rfl, k2, k3⟩ := dx
      split at h
      · simp at h; subst h
        exact ⟨_, geqA _ _ _ _ _, by simp [den]; omega⟩
      · split at h
        · simp at h; subst h
          exact ⟨_, geqA _ _ _ _ _, by simp [den]; omega⟩
        · cases h
    · cases h
theorem fieldAddr_shift {t : TypeId} {k o i o' : Nat} (h : fieldAddrA P t (.p 0 o) k = some (.p i o')) (b w : Nat) : fieldAddrA P t (.p b (w + o)) k = some (.p b (w + o')) := by
  unfold fieldAddrA at *
  cases hu : P.underlying t with
  | none => simp [hu] at h
  | some d =>
    cases d with
    | struct fields =>
      simp only [hu] at h ⊢
      cases hf : fields[k]? with
      | none => simp [hf] at h
      | some f =>
        simp only [hf] at h ⊢
        cases hs : sizeA P f.type with
        | none => simp [hs] at h
        | some n =>
          cases n with
          | zero => simp [hs] at h
          | succ n =>
            simp only [hs] at h ⊢
            simp at h
            rw [← h.2, Nat.add_assoc]
    | _ => simp [hu] at h
theorem pureS_sound {s : SS} {fr : List AV} {H : Heap} (hf : FR η s.fr fr) (hw : WR η s.win H) {o : Op} {v : SV} (h : pureS o s = some v) : isCall o = false ∧ ∃ a, opA P o fr H = some (a, H) ∧ den η v a := by
  unfold pureS at h
  split at h
  · obtain ⟨a, h1, h2⟩ := evS_sound hf h
    exact ⟨rfl, a, op_move h1, h2⟩
  · obtain ⟨a, h1, h2⟩ := evS_sound hf h
    exact ⟨rfl, a, op_assign h1, h2⟩
  · split at h
    · rename_i hc
      obtain ⟨c, h1, rfl⟩ := evS_sound hf hc
      obtain ⟨a, h3, h4⟩ := evS_sound hf h
      exact ⟨rfl, a, op_pickT h1 h3, h4⟩
    · rename_i hc
      obtain ⟨c, h1, rfl⟩ := evS_sound hf hc
      obtain ⟨a, h3, h4⟩ := evS_sound hf h
      exact ⟨rfl, a, op_pickF h1 h3, h4⟩
    · cases h
  · split at h
    · rename_i l o hx
      simp at h; subst h
      obtain ⟨a, h1, e, h2, rfl⟩ := evS_sound hf hx
      exact ⟨rfl, _, op_nilCheck h1, e, h2, rfl⟩
    · cases h
  · split at h
    · rename_i l o hx
      split at h
      · rename_i i o' hfa
        simp at h; subst h
        obtain ⟨a, h1, e, h2, rfl⟩ := evS_sound hf hx
        exact ⟨rfl, _, op_fieldAddr h1 (fieldAddr_shift hfa _ _), e, h2, rfl⟩
      · cases h
    · cases h
  · split at h
    · rename_i l l' hx hk
      split at h
      · rename_i sz w hsz hwl
        split at h
        · rename_i hh
          obtain ⟨rfl, hl⟩ := hh
          simp at h; subst h
          obtain ⟨a, h1, e, n, h2, h3, rfl⟩ := evS_sound hf hx
          obtain ⟨b, k1, e', n', k2, k3, rfl, k4, k5⟩ := evS_sound hf hk
          rw [h2] at k2; cases k2
          rw [h3] at k3; cases k3
          obtain ⟨w1, w2⟩ := hw.2 _ _ _ h2 hwl
          refine ⟨rfl, .p e.b (0 + e.j * sz), op_indexAddr h1 k1 ?_, e, h2, ?_⟩
          · cases he : elemA P _ with
            | none => rw [he] at hsz; cases hsz
            | some et =>
              rw [he] at hsz
              simp only [Option.bind_some] at hsz
              simp only [indexAddrA, he, hsz]
              rw [if_pos ⟨by omega, by omega⟩]
              simp
          · rw [w1, hl]; simp
        · cases h
      · cases h
    · cases h
  · split at h
    · rename_i l o hx
      split at h
      · rename_i w hag hwl
        obtain ⟨a, h1, e, h2, rfl⟩ := evS_sound hf hx
        obtain ⟨w1, ty, kn, cs, c1, c2, c3, c4⟩ := hw.2 _ _ _ h2 hwl
        obtain ⟨a, d1, d2, d3⟩ := c4 _ _ h
        exact ⟨rfl, a, op_load h1 (by simp [loadA, loadAt, c1, hag, d1]), d3⟩
      · cases h
    · cases h
  · split at h
    · rename_i x y hx hy
      obtain ⟨a, h1, h2⟩ := evS_sound hf hx
      obtain ⟨b, k1, k2⟩ := evS_sound hf hy
      obtain ⟨r, r1, r2⟩ := binS_sound h h2 k2
      exact ⟨rfl, r, op_bin h1 k1 rfl r1, r2⟩
    · cases h
  · split at h
    · rename_i a hx
      cases hv : evS s.fr _ with
      | none => rw [hv] at hx; cases hx
      | some v =>
        rw [hv] at hx
        simp only [Option.bind_some] at hx
        obtain ⟨b, h1, h2⟩ := evS_sound hf hv
        rw [con_den hx h2] at h1
        simp only [Option.map_eq_some_iff] at h
        obtain ⟨r, hr, rfl⟩ := h
        exact ⟨rfl, r, op_un h1 hr, den_ofA r⟩
    · cases h
  · split at h
    · rename_i a hx
      cases hv : evS s.fr _ with
      | none => rw [hv] at hx; cases hx
      | some v =>
        rw [hv] at hx
        simp only [Option.bind_some] at hx
        obtain ⟨b, h1, h2⟩ := evS_sound hf hv
        rw [con_den hx h2] at h1
        simp only [Option.map_eq_some_iff] at h
        obtain ⟨r, hr, rfl⟩ := h
        exact ⟨rfl, r, op_conv h1 hr, den_ofA r⟩
    · cases h
  · split at h
    · rename_i a b hx hy
      cases hv : evS s.fr _ with
      | none => rw [hv] at hx; cases hx
      | some v =>
        cases hv' : evS s.fr _ with
        | none => rw [hv'] at hy; cases hy
        | some v' =>
          rw [hv] at hx
          rw [hv'] at hy
          simp only [Option.bind_some] at hx hy
          obtain ⟨a', h1, h2⟩ := evS_sound hf hv
          obtain ⟨b', h3, h4⟩ := evS_sound hf hv'
          rw [con_den hx h2] at h1
          rw [con_den hy h4] at h3
          simp only [Option.map_eq_some_iff] at h
          obtain ⟨r, hr, rfl⟩ := h
          exact ⟨rfl, r, op_sliceHi h1 h3 hr, den_ofA r⟩
    · cases h
  · cases h
end Go.Proofs.YtiifcfngbbhgoagDoor.Rd

