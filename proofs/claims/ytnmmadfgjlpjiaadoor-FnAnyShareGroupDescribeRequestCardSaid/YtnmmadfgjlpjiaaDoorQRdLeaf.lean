import Derived.Test.YtnmmadfgjlpjiaaDoorQRdUv
import Derived.Test.YtnmmadfgjlpjiaaDoorQApInt
/-
  MORE LEAVES, as kbin reads them.
-/
namespace Go.Proofs.YtnmmadfgjlpjiaaDoor.Rd
set_option linter.constructorNameAsVariable false
set_option linter.unusedVariables false
set_option linter.unusedSimpArgs false
open Go Go.Proofs.YtnmmadfgjlpjiaaDoor.Ax Go.Proofs.YtnmmadfgjlpjiaaDoor.Wire
set_option linter.unusedSimpArgs false
set_option linter.unusedVariables false
set_option maxRecDepth 100000
set_option maxHeartbeats 1000000
theorem rdv_i8 (flex null : Bool) : RdV 137 flex .i8 null where
  good A H rb nn bs v r R h hd := by
    simp only [decK, Option.map_eq_some_iff] at hd
    obtain ⟨⟨n, r1⟩, hi, hh⟩ := hd
    simp at hh
    obtain ⟨rfl, rfl⟩ := hh
    obtain ⟨H1, c1, R1, k1⟩ := rd_int8.good A H rb nn bs n r1 R h hi
    exact ⟨_, H1, c1, rfl, rfl, rfl, R1, k1⟩
  bad A H rb nn st R h hd := by
    have hi : st.bind (rdI (K.size .i8)) = none := by
      cases st with
      | none => rfl
      | some bs => simpa [decK] using hd
    obtain ⟨H1, c1, R1, k1⟩ := rd_int8.bad A H rb nn st R h hi
    exact ⟨_, H1, c1, rfl, rfl, R1, k1⟩
theorem shl64 (t : TypeId) (c : Bool) (n : Nat) (hn : n = 8 ∨ n = 16 ∨ n = 24 ∨ n = 32 ∨ n = 40 ∨ n = 48 ∨ n = 56) (a : UInt8) : binA P .shl t c (.i .u64 (a.toNat : Int)) (.i .u64 (n : Int)) = some (.i .u64 ((a.toNat * 2 ^ n : Nat) : Int)) := by
  have := u8_lt a
  have e : IntKind.u64.wrap ((a.toNat : Int) * 2 ^ n) = ((a.toNat * 2 ^ n : Nat) : Int) := by
    rcases hn with rfl | rfl | rfl | rfl | rfl | rfl | rfl <;> simp [IntKind.wrap, IntKind.signed, IntKind.bits] <;> omega
  have e2 : Op.shift .shl .u64 (a.toNat : Int) .u64 (n : Int) = pure (.int .u64 (IntKind.u64.wrap ((a.toNat : Int) * 2 ^ n))) := by
    rcases hn with rfl | rfl | rfl | rfl | rfl | rfl | rfl <;> rfl
  show ofSem (Op.shift .shl .u64 (a.toNat : Int) .u64 (n : Int)) = _
  rw [e2, e]
  rfl
theorem or64 (t : TypeId) (c : Bool) {x a n : Nat} (hx : x < 2 ^ n) (hlt : a * 2 ^ n + x < 2 ^ 64) : binA P .or t c (.i .u64 (x : Int)) (.i .u64 ((a * 2 ^ n : Nat) : Int)) = some (.i .u64 ((a * 2 ^ n + x : Nat) : Int)) := by
  have h := or_add (w := 64) (a := a) (b := x) (n := n) hx hlt
  have e : IntKind.u64.wrap ((a * 2 ^ n + x : Nat) : Int) = ((a * 2 ^ n + x : Nat) : Int) := by
    generalize a * 2 ^ n + x = y at hlt
    simp [IntKind.wrap, IntKind.signed, IntKind.bits]; omega
  show ofSem (Op.intBits .or .u64 (x : Int) ((a * 2 ^ n : Nat) : Int)) = _
  rw [show Op.intBits .or .u64 (x : Int) ((a * 2 ^ n : Nat) : Int) = pure (.int .u64 (IntKind.u64.wrap ((BitVec.ofInt 64 (x : Int) ||| BitVec.ofInt 64 ((a * 2 ^ n : Nat) : Int)).toNat : Int))) from rfl, h, e]
  rfl
theorem be64_run {A : Nat → Prop} {H : Heap} {src : AV} {b0 b1 b2 b3 b4 b5 b6 b7 : UInt8} {r : B} (h : BytesAt A H src (b0 :: b1 :: b2 :: b3 :: b4 :: b5 :: b6 :: b7 :: r)) {y0 y1 y2 y3 y4 y5 y6 z0 z1 z2 z3 z4 z5 z6 : Int}
    (s0 : binA P .shl 101 true (.i .u64 (b0.toNat : Int)) (.i .u64 56) = some (.i .u64 y0))
    (s1 : binA P .shl 101 true (.i .u64 (b1.toNat : Int)) (.i .u64 48) = some (.i .u64 y1))
    (s2 : binA P .shl 101 true (.i .u64 (b2.toNat : Int)) (.i .u64 40) = some (.i .u64 y2))
    (s3 : binA P .shl 101 true (.i .u64 (b3.toNat : Int)) (.i .u64 32) = some (.i .u64 y3))
    (s4 : binA P .shl 101 true (.i .u64 (b4.toNat : Int)) (.i .u64 24) = some (.i .u64 y4))
    (s5 : binA P .shl 101 true (.i .u64 (b5.toNat : Int)) (.i .u64 16) = some (.i .u64 y5))
    (s6 : binA P .shl 101 true (.i .u64 (b6.toNat : Int)) (.i .u64 8) = some (.i .u64 y6))
    (o6 : binA P .or 101 false (.i .u64 (b7.toNat : Int)) (.i .u64 y6) = some (.i .u64 z6))
    (o5 : binA P .or 101 false (.i .u64 z6) (.i .u64 y5) = some (.i .u64 z5))
    (o4 : binA P .or 101 false (.i .u64 z5) (.i .u64 y4) = some (.i .u64 z4))
    (o3 : binA P .or 101 false (.i .u64 z4) (.i .u64 y3) = some (.i .u64 z3))
    (o2 : binA P .or 101 false (.i .u64 z3) (.i .u64 y2) = some (.i .u64 z2))
    (o1 : binA P .or 101 false (.i .u64 z2) (.i .u64 y1) = some (.i .u64 z1))
    (o0 : binA P .or 101 false (.i .u64 z1) (.i .u64 y0) = some (.i .u64 z0))
    : CA P NS 186 [.g [], src] H (.i .u64 z0, H ++ [.cells 201 .vr []]) := by
  obtain ⟨q0, i0, l0⟩ := at_box h [.cells 201 .vr []] (n := 0) (b := b0) rfl
  have i0' : indexAddrA P tB src (.i .i64 0) = some q0 := i0
  obtain ⟨q1, i1, l1⟩ := at_box h [.cells 201 .vr []] (n := 1) (b := b1) rfl
  have i1' : indexAddrA P tB src (.i .i64 1) = some q1 := i1
  obtain ⟨q2, i2, l2⟩ := at_box h [.cells 201 .vr []] (n := 2) (b := b2) rfl
  have i2' : indexAddrA P tB src (.i .i64 2) = some q2 := i2
  obtain ⟨q3, i3, l3⟩ := at_box h [.cells 201 .vr []] (n := 3) (b := b3) rfl
  have i3' : indexAddrA P tB src (.i .i64 3) = some q3 := i3
  obtain ⟨q4, i4, l4⟩ := at_box h [.cells 201 .vr []] (n := 4) (b := b4) rfl
  have i4' : indexAddrA P tB src (.i .i64 4) = some q4 := i4
  obtain ⟨q5, i5, l5⟩ := at_box h [.cells 201 .vr []] (n := 5) (b := b5) rfl
  have i5' : indexAddrA P tB src (.i .i64 5) = some q5 := i5
  obtain ⟨q6, i6, l6⟩ := at_box h [.cells 201 .vr []] (n := 6) (b := b6) rfl
  have i6' : indexAddrA P tB src (.i .i64 6) = some q6 := i6
  obtain ⟨q7, i7, l7⟩ := at_box h [.cells 201 .vr []] (n := 7) (b := b7) rfl
  have i7' : indexAddrA P tB src (.i .i64 7) = some q7 := i7
  refine CA.go (fn := Tryd.f186) (vs := [_]) (by kernel_rfl) rfl (.inr rfl) ?_
  apply Exists.intro
  apply And.intro
  · dsimp only [Tryd.f186]
    dsimp only [List.length_cons, List.length_nil, List.cons_append, List.nil_append, Nat.reduceSub, Nat.reduceAdd, List.replicate]
    apply RU.seq
    · exact RU.rg
    apply RU.seq
    · exact RU.rg
    apply RU.seq
    · exact RU.d0
    exact RU.ret
  · rfl
/-- Eight octets as a number. -/
theorem be64 {A : Nat → Prop} {H : Heap} {src : AV} {b0 b1 b2 b3 b4 b5 b6 b7 : UInt8} {r : B} (h : BytesAt A H src (b0 :: b1 :: b2 :: b3 :: b4 :: b5 :: b6 :: b7 :: r)) :
    CA P NS 186 [.g [], src] H (.i .u64 ((nat [b0, b1, b2, b3, b4, b5, b6, b7] : Nat) : Int), H ++ [.cells 201 .vr []]) := by
  have e : nat [b0, b1, b2, b3, b4, b5, b6, b7] = b0.toNat * 2 ^ 56 + (b1.toNat * 2 ^ 48 + (b2.toNat * 2 ^ 40 + (b3.toNat * 2 ^ 32 + (b4.toNat * 2 ^ 24 + (b5.toNat * 2 ^ 16 + (b6.toNat * 2 ^ 8 + b7.toNat)))))) := by simp [nat]
  rw [e]
  have := u8_lt b0
  have := u8_lt b1
  have := u8_lt b2
  have := u8_lt b3
  have := u8_lt b4
  have := u8_lt b5
  have := u8_lt b6
  have := u8_lt b7
  exact be64_run h (shl64 _ _ 56 (by simp) b0) (shl64 _ _ 48 (by simp) b1) (shl64 _ _ 40 (by simp) b2) (shl64 _ _ 32 (by simp) b3) (shl64 _ _ 24 (by simp) b4) (shl64 _ _ 16 (by simp) b5) (shl64 _ _ 8 (by simp) b6)
    (or64 _ _ (x := b7.toNat) (a := b6.toNat) (n := 8) (by omega) (by omega))
    (or64 _ _ (x := b6.toNat * 2 ^ 8 + b7.toNat) (a := b5.toNat) (n := 16) (by omega) (by omega))
    (or64 _ _ (x := b5.toNat * 2 ^ 16 + (b6.toNat * 2 ^ 8 + b7.toNat)) (a := b4.toNat) (n := 24) (by omega) (by omega))
    (or64 _ _ (x := b4.toNat * 2 ^ 24 + (b5.toNat * 2 ^ 16 + (b6.toNat * 2 ^ 8 + b7.toNat))) (a := b3.toNat) (n := 32) (by omega) (by omega))
    (or64 _ _ (x := b3.toNat * 2 ^ 32 + (b4.toNat * 2 ^ 24 + (b5.toNat * 2 ^ 16 + (b6.toNat * 2 ^ 8 + b7.toNat)))) (a := b2.toNat) (n := 40) (by omega) (by omega))
    (or64 _ _ (x := b2.toNat * 2 ^ 40 + (b3.toNat * 2 ^ 32 + (b4.toNat * 2 ^ 24 + (b5.toNat * 2 ^ 16 + (b6.toNat * 2 ^ 8 + b7.toNat))))) (a := b1.toNat) (n := 48) (by omega) (by omega))
    (or64 _ _ (x := b1.toNat * 2 ^ 48 + (b2.toNat * 2 ^ 40 + (b3.toNat * 2 ^ 32 + (b4.toNat * 2 ^ 24 + (b5.toNat * 2 ^ 16 + (b6.toNat * 2 ^ 8 + b7.toNat)))))) (a := b0.toNat) (n := 56) (by omega) (by omega))
theorem u64_short {H : Heap} {rb : Nat} {src : AV} {bad : Bool} {n : Nat} (hH : H[rb]? = some (.cells tR .vr [src, .b bad])) (hlen : lenA P 22 src = some (.i .i64 n)) (hl : n < 8) :
    CA P NS 170 [.p rb 0] H (.i .u64 0, RH H rb .s0 true) := by
  have hc : binA P .lss 3 true (.i .i64 (n : Int)) (.i .i64 8) = some (.b true) := by rw [lss]; simp; omega
  have l0 := rd_src hH
  have s1 := st_bad hH
  have s2 : storeA P (RH H rb src true) 22 (.p rb 0) .s0 = some (RH H rb .s0 true) := by rw [st_src (RH_at hH _ _) rfl rfl, RH_RH]
  refine CA.go (fn := Tryd.f170) (vs := [_]) (by kernel_rfl) rfl (.inr rfl) ?_
  apply Exists.intro
  apply And.intro
  · dsimp only [Tryd.f170]
    dsimp only [List.length_cons, List.length_nil, List.cons_append, List.nil_append, Nat.reduceSub, Nat.reduceAdd, List.replicate]
    refine RU.seq RU.rg ?_
    (apply RU.seqx; rotate_left; focus (simp)); refine RU.seq RU.rg ?_; apply RU.condT rfl
    refine RU.seq RU.rg ?_
    refine RU.seq RU.rg ?_
    refine RU.seq RU.rg ?_
    exact RU.ret
  · rfl
theorem u64_good {A : Nat → Prop} {H : Heap} {rb : Nat} {src src' : AV} {b0 b1 b2 b3 b4 b5 b6 b7 : UInt8} {r : B} (R : Room A H rb) (hH : H[rb]? = some (.cells tR .vr [src, .b false])) (hb : BytesAt A H src (b0 :: b1 :: b2 :: b3 :: b4 :: b5 :: b6 :: b7 :: r)) (hs : sliceA P 22 src (some (.i .i64 8)) none = some src') (hs1 : src'.cells = [src']) (hs2 : src'.one = true) :
    CA P NS 170 [.p rb 0] H (.i .u64 ((nat [b0, b1, b2, b3, b4, b5, b6, b7] : Nat) : Int), RH (H ++ [.cells 201 .vr []]) rb src' false) := by
  have hlen := hb.len bty
  have hc : binA P .lss 3 true (.i .i64 ((b0 :: b1 :: b2 :: b3 :: b4 :: b5 :: b6 :: b7 :: r).length : Int)) (.i .i64 8) = some (.b false) := by rw [lss]; simp; omega
  generalize ((b0 :: b1 :: b2 :: b3 :: b4 :: b5 :: b6 :: b7 :: r).length : Int) = n at hlen hc
  have l0 := rd_src hH
  have lg := R.ldBE
  obtain ⟨n1, hcall⟩ := be64 hb
  have hgr : Grows H (H ++ [.cells 201 .vr []]) := .app _ _
  have hH1 := hgr.at hH
  have l1 := rd_src hH1
  have s1 := st_src hH1 hs1 hs2
  generalize ((nat [b0, b1, b2, b3, b4, b5, b6, b7] : Nat) : Int) = u at *
  generalize H ++ [Blk.cells 201 Kn.vr []] = H1 at *
  refine CA.go (fn := Tryd.f170) (vs := [_]) (by kernel_rfl) rfl (.inr rfl) ?_
  apply Exists.intro
  apply And.intro
  · dsimp only [Tryd.f170]
    dsimp only [List.length_cons, List.length_nil, List.cons_append, List.nil_append, Nat.reduceSub, Nat.reduceAdd, List.replicate]
    refine RU.seq RU.rg ?_
    refine RU.seq (RU.seq RU.rg (RU.condF rfl RU.skip)) ?_
    refine RU.seq (RU.dr hcall) ?_
    refine RU.seq RU.rg ?_
    refine RU.seq RU.rg ?_
    exact RU.ret
  · rfl
theorem rd_u64 : RdN 170 .u64 (rdU 8) where
  good A H rb nn bs n r R h hd := by
    obtain ⟨src, hH, hb, hn⟩ := h
    obtain ⟨h, hc, rfl⟩ := rdU_some hd
    obtain ⟨b0, b1, b2, b3, b4, b5, b6, b7, rfl, rfl⟩ := cut8 hc
    obtain ⟨src', hs, hb', hn'⟩ := hb.lo bty .i64 (n := 8) (by simp)
    have g : Keep A H (H ++ [.cells 201 .vr []]) := .app A _ _
    have hH1 := (Grows.app H [.cells 201 .vr []]).at hH
    exact ⟨_, u64_good R hH hb hs (BytesAt.one' hb').1 (BytesAt.one' hb').2, RdAt.good R.no hH1 (hb'.keep g) (fun _ => hn' (.inl (by omega))), g.trans (RH_keep R.no _ _)⟩
  bad A H rb nn st R h hd := by
    obtain ⟨src, b, hH, hl, _⟩ := RdAt.cell h
    exact ⟨_, u64_short hH hl (rdU_none (by omega) hd), RdAt.bad hH, RH_keep R.no _ _⟩
theorem int64_run {H H1 : Heap} {rb : Nat} {u v : Int} (c1 : CA P NS 170 [.p rb 0] H (.i .u64 u, H1)) (hcv : convA P 101 2 (.i .u64 u) = some (.i .i64 v)) :
    CA P NS 135 [.p rb 0] H (.i .i64 v, H1) := by
  refine CA.go (fn := Tryd.f135) (vs := [_]) (by kernel_rfl) rfl (.inr rfl) ?_
  apply Exists.intro
  apply And.intro
  · dsimp only [Tryd.f135]
    dsimp only [List.length_cons, List.length_nil, List.cons_append, List.nil_append, Nat.reduceSub, Nat.reduceAdd, List.replicate]
    refine RU.seq RU.rg ?_
    refine RU.seq RU.rg ?_
    exact RU.ret
  · rfl
theorem cv_int64 (n : Int) : convA P 101 2 (.i .u64 n) = some (.i .i64 (IntKind.i64.wrap n)) := by kernel_rfl
theorem rd_int64 : RdN 135 .i64 (rdI 8) where
  good A H rb nn bs n r R h hd := by
    obtain ⟨x, hc, rfl⟩ := rdI_some hd
    have hu : rdU 8 bs = some (((nat x : Nat) : Int), r) := by simp [rdU, hc]
    obtain ⟨H1, c1, R1, k1⟩ := rd_u64.good A H rb nn bs _ r R h hu
    have hl := (cut_len hc).1
    have : nat x < 18446744073709551616 := by have := nat_lt x; rw [hl] at this; simpa using this
    exact ⟨H1, int64_run c1 ((cv_int64 _).trans (by rw [wrap_sgn8 this])), R1, k1⟩
  bad A H rb nn st R h hd := by
    have hi : st.bind (rdU 8) = none := by
      cases st with
      | none => rfl
      | some bs =>
        simp only [Option.bind_some, rdI, rdU, Option.map_eq_none_iff] at hd ⊢
        exact hd
    obtain ⟨H1, c1, R1, k1⟩ := rd_u64.bad A H rb nn st R h hi
    exact ⟨H1, int64_run c1 (cv_int64 0), R1, k1⟩
theorem rdv_i64 (flex null : Bool) : RdV 135 flex .i64 null where
  good A H rb nn bs v r R h hd := by
    simp only [decK, Option.map_eq_some_iff] at hd
    obtain ⟨⟨n, r1⟩, hi, hh⟩ := hd
    simp at hh
    obtain ⟨rfl, rfl⟩ := hh
    obtain ⟨H1, c1, R1, k1⟩ := rd_int64.good A H rb nn bs n r1 R h hi
    exact ⟨_, H1, c1, rfl, rfl, rfl, R1, k1⟩
  bad A H rb nn st R h hd := by
    have hi : st.bind (rdI (K.size .i64)) = none := by
      cases st with
      | none => rfl
      | some bs => simpa [decK] using hd
    obtain ⟨H1, c1, R1, k1⟩ := rd_int64.bad A H rb nn st R h hi
    exact ⟨_, H1, c1, rfl, rfl, R1, k1⟩
theorem bool_short {H : Heap} {rb : Nat} {src : AV} {bad : Bool} {n : Nat} (hH : H[rb]? = some (.cells tR .vr [src, .b bad])) (hlen : lenA P 22 src = some (.i .i64 n)) (hl : n < 1) :
    CA P NS 164 [.p rb 0] H (.b false, RH H rb .s0 true) := by
  have hc : binA P .lss 3 true (.i .i64 (n : Int)) (.i .i64 1) = some (.b true) := by rw [lss]; simp; omega
  have l0 := rd_src hH
  have s1 := st_bad hH
  have s2 : storeA P (RH H rb src true) 22 (.p rb 0) .s0 = some (RH H rb .s0 true) := by rw [st_src (RH_at hH _ _) rfl rfl, RH_RH]
  refine CA.go (fn := Tryd.f164) (vs := [_]) (by kernel_rfl) rfl (.inr rfl) ?_
  apply Exists.intro
  apply And.intro
  · dsimp only [Tryd.f164]
    dsimp only [List.length_cons, List.length_nil, List.cons_append, List.nil_append, Nat.reduceSub, Nat.reduceAdd, List.replicate]
    refine RU.seq RU.rg ?_
    (apply RU.seqx; rotate_left; focus (simp)); refine RU.seq RU.rg ?_; apply RU.condT rfl
    refine RU.seq RU.rg ?_
    refine RU.seq RU.rg ?_
    refine RU.seq RU.rg ?_
    exact RU.ret
  · rfl
theorem neq8 (t : TypeId) (c : Bool) (a b : Int) : binA P .neq t c (.i .u8 a) (.i .u8 b) = some (.b (!(a == b))) := by
  simp [binA, binOp, Op.intCmp, ofSem, ofV1]
  rfl
theorem bool_good {A : Nat → Prop} {H : Heap} {rb : Nat} {src src' : AV} {b0 : UInt8} {r : B} (hH : H[rb]? = some (.cells tR .vr [src, .b false])) (hb : BytesAt A H src (b0 :: r)) (hs : sliceA P 22 src (some (.i .i64 1)) none = some src') (hs1 : src'.cells = [src']) (hs2 : src'.one = true) :
    CA P NS 164 [.p rb 0] H (.b ([b0] != [0]), RH H rb src' false) := by
  have hlen := hb.len bty
  have hc : binA P .lss 3 true (.i .i64 ((b0 :: r).length : Int)) (.i .i64 1) = some (.b false) := by rw [lss]; simp; omega
  generalize ((b0 :: r).length : Int) = n at hlen hc
  have l0 := rd_src hH
  obtain ⟨q0, i0, lq⟩ := hb.idx bty .i64 (n := 0) (b := b0) rfl
  have i0' : indexAddrA P tB src (.i .i64 0) = some q0 := i0
  have s1 := st_src hH hs1 hs2
  have hne : binA P .neq 5 true (U8 b0) (.i .u8 0) = some (.b ([b0] != [0])) := by
    rw [show U8 b0 = .i .u8 (b0.toNat : Int) from rfl, neq8]
    congr 2
    by_cases e : b0 = 0
    · subst e; rfl
    · have : b0.toNat ≠ 0 := fun h => e (UInt8.toNat_inj.1 h)
      have h1 : ((b0.toNat : Int) == 0) = false := by simpa using this
      rw [h1]
      simp [bne, e]
  generalize ([b0] != [0]) = v at hne ⊢
  refine CA.go (fn := Tryd.f164) (vs := [_]) (by kernel_rfl) rfl (.inr rfl) ?_
  apply Exists.intro
  apply And.intro
  · dsimp only [Tryd.f164]
    dsimp only [List.length_cons, List.length_nil, List.cons_append, List.nil_append, Nat.reduceSub, Nat.reduceAdd, List.replicate]
    refine RU.seq RU.rg ?_
    refine RU.seq (RU.seq RU.rg (RU.condF rfl RU.skip)) ?_
    refine RU.seq RU.rg ?_
    refine RU.seq RU.rg ?_
    refine RU.seq RU.rg ?_
    exact RU.ret
  · rfl
theorem cut_none1 {n : Nat} {st : Option B} {g : B × B → V × B} (hn : 0 < n) (h : (st.bind fun bs => (cut n bs).map g) = none) : (st.getD []).length < n := by
  cases st with
  | none => simpa using hn
  | some bs =>
    simp only [Option.bind_some, Option.map_eq_none_iff] at h
    simpa using cut_none h
theorem rdv_bool (flex null : Bool) : RdV 164 flex .bool null where
  good A H rb nn bs v r R h hd := by
    simp only [decK, Option.map_eq_some_iff] at hd
    obtain ⟨⟨x, r1⟩, hc, hh⟩ := hd
    simp at hh
    obtain ⟨rfl, rfl⟩ := hh
    obtain ⟨src, hH, hb, hn⟩ := h
    obtain ⟨b0, rfl, rfl⟩ := cut1 hc
    obtain ⟨src', hs, hb', hn'⟩ := hb.lo bty .i64 (n := 1) (by simp)
    exact ⟨_, _, bool_good hH hb hs (BytesAt.one' hb').1 (BytesAt.one' hb').2, rfl, rfl, rfl, RdAt.good R.no hH (hb'.keep (Keep.refl _ _)) (fun _ => hn' (.inl (by omega))), RH_keep R.no _ _⟩
  bad A H rb nn st R h hd := by
    obtain ⟨src, b, hH, hl, _⟩ := RdAt.cell h
    exact ⟨_, _, bool_short hH hl (cut_none1 (by omega) hd), rfl, rfl, RdAt.bad hH, RH_keep R.no _ _⟩
end Go.Proofs.YtnmmadfgjlpjiaaDoor.Rd

