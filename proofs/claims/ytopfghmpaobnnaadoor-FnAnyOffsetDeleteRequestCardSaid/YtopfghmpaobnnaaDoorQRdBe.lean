import Derived.Test.YtopfghmpaobnnaaDoorQRdNum
import Derived.Test.YtopfghmpaobnnaaDoorQAxStep
/-
  NUMBERS OF MORE OCTETS, as the library reads them, the highest one first.
-/
namespace Go.Proofs.YtopfghmpaobnnaaDoor.Rd
set_option linter.constructorNameAsVariable false
set_option linter.unusedVariables false
set_option linter.unusedSimpArgs false
open Go Go.Proofs.YtopfghmpaobnnaaDoor.Ax Go.Proofs.YtopfghmpaobnnaaDoor.Wire
set_option linter.unusedSimpArgs false
set_option maxRecDepth 100000

theorem or_add {w a b n : Nat} (hb : b < 2 ^ n) (h : a * 2 ^ n + b < 2 ^ w) : (BitVec.ofInt w (b : Int) ||| BitVec.ofInt w ((a * 2 ^ n : Nat) : Int)).toNat = a * 2 ^ n + b := by
  have h1 : BitVec.ofInt w ((b : Nat) : Int) = BitVec.ofNat w b := BitVec.ofInt_natCast w b
  have h2 : BitVec.ofInt w ((a * 2 ^ n : Nat) : Int) = BitVec.ofNat w (a * 2 ^ n) := BitVec.ofInt_natCast w _
  rw [h1, h2, BitVec.toNat_or, BitVec.toNat_ofNat, BitVec.toNat_ofNat, Nat.mod_eq_of_lt (by omega), Nat.mod_eq_of_lt (by omega), Nat.or_comm, ← Nat.shiftLeft_eq, ← Nat.shiftLeft_add_eq_or_of_lt hb]

theorem shl16 (t : TypeId) (c : Bool) (a : UInt8) : binA P .shl t c (.i .u16 (a.toNat : Int)) (.i .u64 8) = some (.i .u16 ((a.toNat * 2 ^ 8 : Nat) : Int)) := by
  have := u8_lt a
  have e : IntKind.u16.wrap ((a.toNat : Int) * 2 ^ 8) = ((a.toNat * 2 ^ 8 : Nat) : Int) := by simp [IntKind.wrap, IntKind.signed, IntKind.bits]; omega
  show ofSem (Op.shift .shl .u16 (a.toNat : Int) .u64 8) = _
  rw [show Op.shift .shl .u16 (a.toNat : Int) .u64 8 = pure (.int .u16 (IntKind.u16.wrap ((a.toNat : Int) * 2 ^ 8))) from rfl, e]
  rfl
theorem or16 (t : TypeId) (c : Bool) (a b : UInt8) : binA P .or t c (.i .u16 (b.toNat : Int)) (.i .u16 ((a.toNat * 2 ^ 8 : Nat) : Int)) = some (.i .u16 ((a.toNat * 2 ^ 8 + b.toNat : Nat) : Int)) := by
  have h1 := u8_lt a
  have h2 := u8_lt b
  have h := or_add (w := 16) (a := a.toNat) (b := b.toNat) (n := 8) (by omega) (by omega)
  show ofSem (Op.intBits .or .u16 (b.toNat : Int) ((a.toNat * 2 ^ 8 : Nat) : Int)) = _
  rw [show Op.intBits .or .u16 (b.toNat : Int) ((a.toNat * 2 ^ 8 : Nat) : Int) = pure (.int .u16 (IntKind.u16.wrap ((BitVec.ofInt 16 (b.toNat : Int) ||| BitVec.ofInt 16 ((a.toNat * 2 ^ 8 : Nat) : Int)).toNat : Int))) from rfl, h]
  have e : IntKind.u16.wrap ((a.toNat * 2 ^ 8 + b.toNat : Nat) : Int) = ((a.toNat * 2 ^ 8 + b.toNat : Nat) : Int) := by simp [IntKind.wrap, IntKind.signed, IntKind.bits]; omega
  rw [e]
  rfl
theorem shl16' (t : TypeId) (c : Bool) (a : UInt8) : binA P .shl t c (.i .u16 (a.toNat : Int)) (.i .u64 8) = some (.i .u16 ((a.toNat : Int) * 256)) := by
  have h := shl16 t c a
  have e1 : ((a.toNat * 2 ^ 8 : Nat) : Int) = (a.toNat : Int) * 256 := by omega
  rw [e1] at h
  exact h
theorem or16' (t : TypeId) (c : Bool) (a b : UInt8) : binA P .or t c (.i .u16 (b.toNat : Int)) (.i .u16 ((a.toNat : Int) * 256)) = some (.i .u16 ((a.toNat : Int) * 256 + (b.toNat : Int))) := by
  have h := or16 t c a b
  have e1 : ((a.toNat * 2 ^ 8 : Nat) : Int) = (a.toNat : Int) * 256 := by omega
  have e2 : ((a.toNat * 2 ^ 8 + b.toNat : Nat) : Int) = (a.toNat : Int) * 256 + (b.toNat : Int) := by rw [Int.natCast_add, e1]
  rw [e1, e2] at h
  exact h
theorem conv8_16 (a : UInt8) : convA P 5 27 (U8 a) = some (.i .u16 (a.toNat : Int)) := by
  have := u8_lt a
  have e : convA P 5 27 (U8 a) = some (.i .u16 (IntKind.u16.wrap (a.toNat : Int))) := by kernel_rfl
  rw [e]
  simp [IntKind.wrap, IntKind.signed, IntKind.bits]; omega

theorem conv8_32 (a : UInt8) : convA P 5 96 (U8 a) = some (.i .u32 (a.toNat : Int)) := by
  have := u8_lt a
  have e : convA P 5 96 (U8 a) = some (.i .u32 (IntKind.u32.wrap (a.toNat : Int))) := by kernel_rfl
  rw [e]
  simp [IntKind.wrap, IntKind.signed, IntKind.bits]; omega
theorem conv8_64 (a : UInt8) : convA P 5 138 (U8 a) = some (.i .u64 (a.toNat : Int)) := by
  have := u8_lt a
  have e : convA P 5 138 (U8 a) = some (.i .u64 (IntKind.u64.wrap (a.toNat : Int))) := by kernel_rfl
  rw [e]
  simp [IntKind.wrap, IntKind.signed, IntKind.bits]; omega
theorem shl32 (t : TypeId) (c : Bool) (n : Nat) (hn : n = 8 ∨ n = 16 ∨ n = 24) (a : UInt8) : binA P .shl t c (.i .u32 (a.toNat : Int)) (.i .u64 (n : Int)) = some (.i .u32 ((a.toNat * 2 ^ n : Nat) : Int)) := by
  have := u8_lt a
  have e : IntKind.u32.wrap ((a.toNat : Int) * 2 ^ n) = ((a.toNat * 2 ^ n : Nat) : Int) := by
    rcases hn with rfl | rfl | rfl <;> simp [IntKind.wrap, IntKind.signed, IntKind.bits] <;> omega
  have e2 : Op.shift .shl .u32 (a.toNat : Int) .u64 (n : Int) = pure (.int .u32 (IntKind.u32.wrap ((a.toNat : Int) * 2 ^ n))) := by
    rcases hn with rfl | rfl | rfl <;> rfl
  show ofSem (Op.shift .shl .u32 (a.toNat : Int) .u64 (n : Int)) = _
  rw [e2, e]
  rfl
theorem or32 (t : TypeId) (c : Bool) {x a n : Nat} (hn : n ≤ 24) (hx : x < 2 ^ n) (ha : a < 256) : binA P .or t c (.i .u32 (x : Int)) (.i .u32 ((a * 2 ^ n : Nat) : Int)) = some (.i .u32 ((a * 2 ^ n + x : Nat) : Int)) := by
  have hp : 2 ^ n ≤ 2 ^ 24 := Nat.pow_le_pow_right (by omega) hn
  have hm : a * 2 ^ n ≤ 255 * 2 ^ n := Nat.mul_le_mul_right _ (by omega)
  have hlt : a * 2 ^ n + x < 2 ^ 32 := by
    have : 256 * 2 ^ n ≤ 256 * 2 ^ 24 := Nat.mul_le_mul_left _ hp
    omega
  have h := or_add (w := 32) (a := a) (b := x) (n := n) hx hlt
  have e : IntKind.u32.wrap ((a * 2 ^ n + x : Nat) : Int) = ((a * 2 ^ n + x : Nat) : Int) := by
    generalize a * 2 ^ n + x = y at hlt
    simp [IntKind.wrap, IntKind.signed, IntKind.bits]; omega
  show ofSem (Op.intBits .or .u32 (x : Int) ((a * 2 ^ n : Nat) : Int)) = _
  rw [show Op.intBits .or .u32 (x : Int) ((a * 2 ^ n : Nat) : Int) = pure (.int .u32 (IntKind.u32.wrap ((BitVec.ofInt 32 (x : Int) ||| BitVec.ofInt 32 ((a * 2 ^ n : Nat) : Int)).toNat : Int))) from rfl, h, e]
  rfl

theorem BytesAt.idxG {A : Nat → Prop} {H H' : Heap} {av : AV} {bs : B} (h : BytesAt A H av bs) (g : Grows H H') {n : Nat} {b : UInt8} (hn : bs[n]? = some b) :
    ∃ p, indexAddrA P tB av (.i .i64 n) = some p ∧ loadA P H' tU p = some (U8 b) := by
  obtain ⟨p, h1, h2⟩ := h.idx bty .i64 hn
  exact ⟨p, h1, loadA_grows g h2⟩


/-- Octet n of a text, at a heap that has grown. -/
theorem at_box {A : Nat → Prop} {H : Heap} {av : AV} {bs : B} (h : BytesAt A H av bs) (K : Heap) {n : Nat} {b : UInt8} (hn : bs[n]? = some b) :
    ∃ p, indexAddrA P tB av (.i .i64 n) = some p ∧ loadA P (H ++ K) tU p = some (U8 b) := BytesAt.idxG h (.app _ _) hn
/-- Two octets as a number. -/
theorem be16 {A : Nat → Prop} {H : Heap} {src : AV} {b0 b1 : UInt8} {r : B} (h : BytesAt A H src (b0 :: b1 :: r)) :
    CA P NS 119 [.g [], src] H (.i .u16 ((b0.toNat * 2 ^ 8 + b1.toNat : Nat) : Int), H ++ [.cells 166 .vr []]) := by
  obtain ⟨q0, i0, l0⟩ := at_box h [.cells 166 .vr []] (n := 0) (b := b0) rfl
  obtain ⟨q1, i1, l1⟩ := at_box h [.cells 166 .vr []] (n := 1) (b := b1) rfl
  have i0' : indexAddrA P tB src (.i .i64 0) = some q0 := i0
  have i1' : indexAddrA P tB src (.i .i64 1) = some q1 := i1
  have s0 : binA P .shl 27 true (.i .u16 (b0.toNat : Int)) (.i .u64 8) = some (.i .u16 ((b0.toNat * 2 ^ 8 : Nat) : Int)) := shl16 _ _ b0
  have o0 : binA P .or 27 false (.i .u16 (b1.toNat : Int)) (.i .u16 ((b0.toNat * 2 ^ 8 : Nat) : Int)) = some (.i .u16 ((b0.toNat * 2 ^ 8 + b1.toNat : Nat) : Int)) := or16 _ _ b0 b1
  refine CA.go (fn := Tryd.f119) (vs := [_]) (by kernel_rfl) rfl (.inr rfl) ?_
  apply Exists.intro
  apply And.intro
  · dsimp only [Tryd.f119]
    dsimp only [List.length_cons, List.length_nil, List.cons_append, List.nil_append, Nat.reduceSub, Nat.reduceAdd, List.replicate]
    apply RU.seq
    · apply RU.region; repeat (first | with_reducible exact OS.nil | (refine OS.op rfl rfl (by first | exact op_move rfl | exact op_assign rfl | exact op_nilCheck rfl | exact op_fieldAddr rfl (fr0 _ _) | exact op_fieldAddr rfl (fr1' _) | exact op_load rfl (by with_reducible assumption) | exact op_indexAddr rfl rfl (by with_reducible assumption) | exact op_conv rfl (by first | with_reducible assumption | exact conv8_16 _ | exact conv8_32 _ | exact conv8_64 _) | exact op_len rfl (by with_reducible assumption) | exact op_bin (c := true) rfl rfl rfl (by with_reducible assumption) | exact op_bin (c := false) rfl rfl rfl (by with_reducible assumption) | exact op_box rfl rfl | exact op_alloc (by with_reducible assumption) rfl | exact op_store rfl rfl (by with_reducible assumption) | exact op_un rfl rfl | exact op_pickT rfl rfl | exact op_pickF rfl rfl | exact op_extract rfl rfl | exact op_sliceLo rfl rfl (by with_reducible assumption) | exact op_sliceHi rfl rfl (by with_reducible assumption) | exact op_sliceMax rfl rfl rfl (by with_reducible assumption) | exact op_buildSlice rfl (by with_reducible assumption) | exact op_append rfl rfl rfl elemBs rfl (by with_reducible assumption) | exact op_append rfl rfl rfl elemBs (by with_reducible assumption) (by with_reducible assumption) | exact op_appendS rfl rfl strU (by with_reducible assumption) | exact op_convS rfl (by with_reducible assumption) (by with_reducible assumption)) ?_; dsimp only [AV.cells, putA, List.set_cons_zero, List.set_cons_succ]) | (refine OS.opg rfl rfl (by first | exact op_move rfl | exact op_assign rfl | exact op_nilCheck rfl | exact op_fieldAddr rfl (fr0 _ _) | exact op_fieldAddr rfl (fr1' _) | exact op_load rfl (by with_reducible assumption) | exact op_indexAddr rfl rfl (by with_reducible assumption) | exact op_conv rfl (by first | with_reducible assumption | exact conv8_16 _ | exact conv8_32 _ | exact conv8_64 _) | exact op_len rfl (by with_reducible assumption) | exact op_bin (c := true) rfl rfl rfl (by with_reducible assumption) | exact op_bin (c := false) rfl rfl rfl (by with_reducible assumption) | exact op_box rfl rfl | exact op_alloc (by with_reducible assumption) rfl | exact op_store rfl rfl (by with_reducible assumption) | exact op_un rfl rfl | exact op_pickT rfl rfl | exact op_pickF rfl rfl | exact op_extract rfl rfl | exact op_sliceLo rfl rfl (by with_reducible assumption) | exact op_sliceHi rfl rfl (by with_reducible assumption) | exact op_sliceMax rfl rfl rfl (by with_reducible assumption) | exact op_buildSlice rfl (by with_reducible assumption) | exact op_append rfl rfl rfl elemBs rfl (by with_reducible assumption) | exact op_append rfl rfl rfl elemBs (by with_reducible assumption) (by with_reducible assumption) | exact op_appendS rfl rfl strU (by with_reducible assumption) | exact op_convS rfl (by with_reducible assumption) (by with_reducible assumption)) ?_; dsimp only [AV.cells, putA, List.set_cons_zero, List.set_cons_succ]) | (refine OS.skip rfl ?_; dsimp only [AV.cells, putA, List.set_cons_zero, List.set_cons_succ]) | (refine OS.call0 rfl rfl (by with_reducible assumption) ?_; dsimp only [AV.cells, putA, List.set_cons_zero, List.set_cons_succ]))
    apply RU.seq
    · apply RU.region; repeat (first | with_reducible exact OS.nil | (refine OS.op rfl rfl (by first | exact op_move rfl | exact op_assign rfl | exact op_nilCheck rfl | exact op_fieldAddr rfl (fr0 _ _) | exact op_fieldAddr rfl (fr1' _) | exact op_load rfl (by with_reducible assumption) | exact op_indexAddr rfl rfl (by with_reducible assumption) | exact op_conv rfl (by first | with_reducible assumption | exact conv8_16 _ | exact conv8_32 _ | exact conv8_64 _) | exact op_len rfl (by with_reducible assumption) | exact op_bin (c := true) rfl rfl rfl (by with_reducible assumption) | exact op_bin (c := false) rfl rfl rfl (by with_reducible assumption) | exact op_box rfl rfl | exact op_alloc (by with_reducible assumption) rfl | exact op_store rfl rfl (by with_reducible assumption) | exact op_un rfl rfl | exact op_pickT rfl rfl | exact op_pickF rfl rfl | exact op_extract rfl rfl | exact op_sliceLo rfl rfl (by with_reducible assumption) | exact op_sliceHi rfl rfl (by with_reducible assumption) | exact op_sliceMax rfl rfl rfl (by with_reducible assumption) | exact op_buildSlice rfl (by with_reducible assumption) | exact op_append rfl rfl rfl elemBs rfl (by with_reducible assumption) | exact op_append rfl rfl rfl elemBs (by with_reducible assumption) (by with_reducible assumption) | exact op_appendS rfl rfl strU (by with_reducible assumption) | exact op_convS rfl (by with_reducible assumption) (by with_reducible assumption)) ?_; dsimp only [AV.cells, putA, List.set_cons_zero, List.set_cons_succ]) | (refine OS.opg rfl rfl (by first | exact op_move rfl | exact op_assign rfl | exact op_nilCheck rfl | exact op_fieldAddr rfl (fr0 _ _) | exact op_fieldAddr rfl (fr1' _) | exact op_load rfl (by with_reducible assumption) | exact op_indexAddr rfl rfl (by with_reducible assumption) | exact op_conv rfl (by first | with_reducible assumption | exact conv8_16 _ | exact conv8_32 _ | exact conv8_64 _) | exact op_len rfl (by with_reducible assumption) | exact op_bin (c := true) rfl rfl rfl (by with_reducible assumption) | exact op_bin (c := false) rfl rfl rfl (by with_reducible assumption) | exact op_box rfl rfl | exact op_alloc (by with_reducible assumption) rfl | exact op_store rfl rfl (by with_reducible assumption) | exact op_un rfl rfl | exact op_pickT rfl rfl | exact op_pickF rfl rfl | exact op_extract rfl rfl | exact op_sliceLo rfl rfl (by with_reducible assumption) | exact op_sliceHi rfl rfl (by with_reducible assumption) | exact op_sliceMax rfl rfl rfl (by with_reducible assumption) | exact op_buildSlice rfl (by with_reducible assumption) | exact op_append rfl rfl rfl elemBs rfl (by with_reducible assumption) | exact op_append rfl rfl rfl elemBs (by with_reducible assumption) (by with_reducible assumption) | exact op_appendS rfl rfl strU (by with_reducible assumption) | exact op_convS rfl (by with_reducible assumption) (by with_reducible assumption)) ?_; dsimp only [AV.cells, putA, List.set_cons_zero, List.set_cons_succ]) | (refine OS.skip rfl ?_; dsimp only [AV.cells, putA, List.set_cons_zero, List.set_cons_succ]) | (refine OS.call0 rfl rfl (by with_reducible assumption) ?_; dsimp only [AV.cells, putA, List.set_cons_zero, List.set_cons_succ]))
    apply RU.seq
    · apply RU.drawn (by kernel_rfl) (n0 := 0)
      intro k hk
      repeat (first | with_reducible exact OG.nil | (refine OG.pure rfl rfl (by first | exact op_move rfl | exact op_assign rfl | exact op_nilCheck rfl | exact op_fieldAddr rfl (fr0 _ _) | exact op_fieldAddr rfl (fr1' _) | exact op_load rfl (by with_reducible assumption) | exact op_indexAddr rfl rfl (by with_reducible assumption) | exact op_conv rfl (by first | with_reducible assumption | exact conv8_16 _ | exact conv8_32 _ | exact conv8_64 _) | exact op_len rfl (by with_reducible assumption) | exact op_bin (c := true) rfl rfl rfl (by with_reducible assumption) | exact op_bin (c := false) rfl rfl rfl (by with_reducible assumption) | exact op_box rfl rfl | exact op_alloc (by with_reducible assumption) rfl | exact op_store rfl rfl (by with_reducible assumption) | exact op_un rfl rfl | exact op_pickT rfl rfl | exact op_pickF rfl rfl | exact op_extract rfl rfl | exact op_sliceLo rfl rfl (by with_reducible assumption) | exact op_sliceHi rfl rfl (by with_reducible assumption) | exact op_sliceMax rfl rfl rfl (by with_reducible assumption) | exact op_buildSlice rfl (by with_reducible assumption) | exact op_append rfl rfl rfl elemBs rfl (by with_reducible assumption) | exact op_append rfl rfl rfl elemBs (by with_reducible assumption) (by with_reducible assumption) | exact op_appendS rfl rfl strU (by with_reducible assumption) | exact op_convS rfl (by with_reducible assumption) (by with_reducible assumption)) (by first | exact .refl _ | exact .app _ _ | with_reducible assumption) ?_; dsimp only [AV.cells, putA, List.set_cons_zero, List.set_cons_succ]) | (refine OG.call0 rfl rfl (by with_reducible assumption) (by with_reducible assumption) ?_; dsimp only [AV.cells, putA, List.set_cons_zero, List.set_cons_succ]))
    exact RU.ret
  · rfl
theorem be32_run {A : Nat → Prop} {H : Heap} {src : AV} {b0 b1 b2 b3 : UInt8} {r : B} (h : BytesAt A H src (b0 :: b1 :: b2 :: b3 :: r)) {y0 y1 y2 z0 z1 z2 : Int}
    (s0 : binA P .shl 96 true (.i .u32 (b0.toNat : Int)) (.i .u64 24) = some (.i .u32 y0))
    (s1 : binA P .shl 96 true (.i .u32 (b1.toNat : Int)) (.i .u64 16) = some (.i .u32 y1))
    (s2 : binA P .shl 96 true (.i .u32 (b2.toNat : Int)) (.i .u64 8) = some (.i .u32 y2))
    (o2 : binA P .or 96 false (.i .u32 (b3.toNat : Int)) (.i .u32 y2) = some (.i .u32 z2))
    (o1 : binA P .or 96 false (.i .u32 z2) (.i .u32 y1) = some (.i .u32 z1))
    (o0 : binA P .or 96 false (.i .u32 z1) (.i .u32 y0) = some (.i .u32 z0))
    : CA P NS 122 [.g [], src] H (.i .u32 z0, H ++ [.cells 166 .vr []]) := by
  obtain ⟨q0, i0, l0⟩ := at_box h [.cells 166 .vr []] (n := 0) (b := b0) rfl
  have i0' : indexAddrA P tB src (.i .i64 0) = some q0 := i0
  obtain ⟨q1, i1, l1⟩ := at_box h [.cells 166 .vr []] (n := 1) (b := b1) rfl
  have i1' : indexAddrA P tB src (.i .i64 1) = some q1 := i1
  obtain ⟨q2, i2, l2⟩ := at_box h [.cells 166 .vr []] (n := 2) (b := b2) rfl
  have i2' : indexAddrA P tB src (.i .i64 2) = some q2 := i2
  obtain ⟨q3, i3, l3⟩ := at_box h [.cells 166 .vr []] (n := 3) (b := b3) rfl
  have i3' : indexAddrA P tB src (.i .i64 3) = some q3 := i3
  refine CA.go (fn := Tryd.f122) (vs := [_]) (by kernel_rfl) rfl (.inr rfl) ?_
  apply Exists.intro
  apply And.intro
  · dsimp only [Tryd.f122]
    dsimp only [List.length_cons, List.length_nil, List.cons_append, List.nil_append, Nat.reduceSub, Nat.reduceAdd, List.replicate]
    apply RU.seq
    · apply RU.region; repeat (first | with_reducible exact OS.nil | (refine OS.op rfl rfl (by first | exact op_move rfl | exact op_assign rfl | exact op_nilCheck rfl | exact op_fieldAddr rfl (fr0 _ _) | exact op_fieldAddr rfl (fr1' _) | exact op_load rfl (by with_reducible assumption) | exact op_indexAddr rfl rfl (by with_reducible assumption) | exact op_conv rfl (by first | with_reducible assumption | exact conv8_16 _ | exact conv8_32 _ | exact conv8_64 _) | exact op_len rfl (by with_reducible assumption) | exact op_bin (c := true) rfl rfl rfl (by with_reducible assumption) | exact op_bin (c := false) rfl rfl rfl (by with_reducible assumption) | exact op_box rfl rfl | exact op_alloc (by with_reducible assumption) rfl | exact op_store rfl rfl (by with_reducible assumption) | exact op_un rfl rfl | exact op_pickT rfl rfl | exact op_pickF rfl rfl | exact op_extract rfl rfl | exact op_sliceLo rfl rfl (by with_reducible assumption) | exact op_sliceHi rfl rfl (by with_reducible assumption) | exact op_sliceMax rfl rfl rfl (by with_reducible assumption) | exact op_buildSlice rfl (by with_reducible assumption) | exact op_append rfl rfl rfl elemBs rfl (by with_reducible assumption) | exact op_append rfl rfl rfl elemBs (by with_reducible assumption) (by with_reducible assumption) | exact op_appendS rfl rfl strU (by with_reducible assumption) | exact op_convS rfl (by with_reducible assumption) (by with_reducible assumption)) ?_; dsimp only [AV.cells, putA, List.set_cons_zero, List.set_cons_succ]) | (refine OS.opg rfl rfl (by first | exact op_move rfl | exact op_assign rfl | exact op_nilCheck rfl | exact op_fieldAddr rfl (fr0 _ _) | exact op_fieldAddr rfl (fr1' _) | exact op_load rfl (by with_reducible assumption) | exact op_indexAddr rfl rfl (by with_reducible assumption) | exact op_conv rfl (by first | with_reducible assumption | exact conv8_16 _ | exact conv8_32 _ | exact conv8_64 _) | exact op_len rfl (by with_reducible assumption) | exact op_bin (c := true) rfl rfl rfl (by with_reducible assumption) | exact op_bin (c := false) rfl rfl rfl (by with_reducible assumption) | exact op_box rfl rfl | exact op_alloc (by with_reducible assumption) rfl | exact op_store rfl rfl (by with_reducible assumption) | exact op_un rfl rfl | exact op_pickT rfl rfl | exact op_pickF rfl rfl | exact op_extract rfl rfl | exact op_sliceLo rfl rfl (by with_reducible assumption) | exact op_sliceHi rfl rfl (by with_reducible assumption) | exact op_sliceMax rfl rfl rfl (by with_reducible assumption) | exact op_buildSlice rfl (by with_reducible assumption) | exact op_append rfl rfl rfl elemBs rfl (by with_reducible assumption) | exact op_append rfl rfl rfl elemBs (by with_reducible assumption) (by with_reducible assumption) | exact op_appendS rfl rfl strU (by with_reducible assumption) | exact op_convS rfl (by with_reducible assumption) (by with_reducible assumption)) ?_; dsimp only [AV.cells, putA, List.set_cons_zero, List.set_cons_succ]) | (refine OS.skip rfl ?_; dsimp only [AV.cells, putA, List.set_cons_zero, List.set_cons_succ]) | (refine OS.call0 rfl rfl (by with_reducible assumption) ?_; dsimp only [AV.cells, putA, List.set_cons_zero, List.set_cons_succ]))
    apply RU.seq
    · apply RU.region; repeat (first | with_reducible exact OS.nil | (refine OS.op rfl rfl (by first | exact op_move rfl | exact op_assign rfl | exact op_nilCheck rfl | exact op_fieldAddr rfl (fr0 _ _) | exact op_fieldAddr rfl (fr1' _) | exact op_load rfl (by with_reducible assumption) | exact op_indexAddr rfl rfl (by with_reducible assumption) | exact op_conv rfl (by first | with_reducible assumption | exact conv8_16 _ | exact conv8_32 _ | exact conv8_64 _) | exact op_len rfl (by with_reducible assumption) | exact op_bin (c := true) rfl rfl rfl (by with_reducible assumption) | exact op_bin (c := false) rfl rfl rfl (by with_reducible assumption) | exact op_box rfl rfl | exact op_alloc (by with_reducible assumption) rfl | exact op_store rfl rfl (by with_reducible assumption) | exact op_un rfl rfl | exact op_pickT rfl rfl | exact op_pickF rfl rfl | exact op_extract rfl rfl | exact op_sliceLo rfl rfl (by with_reducible assumption) | exact op_sliceHi rfl rfl (by with_reducible assumption) | exact op_sliceMax rfl rfl rfl (by with_reducible assumption) | exact op_buildSlice rfl (by with_reducible assumption) | exact op_append rfl rfl rfl elemBs rfl (by with_reducible assumption) | exact op_append rfl rfl rfl elemBs (by with_reducible assumption) (by with_reducible assumption) | exact op_appendS rfl rfl strU (by with_reducible assumption) | exact op_convS rfl (by with_reducible assumption) (by with_reducible assumption)) ?_; dsimp only [AV.cells, putA, List.set_cons_zero, List.set_cons_succ]) | (refine OS.opg rfl rfl (by first | exact op_move rfl | exact op_assign rfl | exact op_nilCheck rfl | exact op_fieldAddr rfl (fr0 _ _) | exact op_fieldAddr rfl (fr1' _) | exact op_load rfl (by with_reducible assumption) | exact op_indexAddr rfl rfl (by with_reducible assumption) | exact op_conv rfl (by first | with_reducible assumption | exact conv8_16 _ | exact conv8_32 _ | exact conv8_64 _) | exact op_len rfl (by with_reducible assumption) | exact op_bin (c := true) rfl rfl rfl (by with_reducible assumption) | exact op_bin (c := false) rfl rfl rfl (by with_reducible assumption) | exact op_box rfl rfl | exact op_alloc (by with_reducible assumption) rfl | exact op_store rfl rfl (by with_reducible assumption) | exact op_un rfl rfl | exact op_pickT rfl rfl | exact op_pickF rfl rfl | exact op_extract rfl rfl | exact op_sliceLo rfl rfl (by with_reducible assumption) | exact op_sliceHi rfl rfl (by with_reducible assumption) | exact op_sliceMax rfl rfl rfl (by with_reducible assumption) | exact op_buildSlice rfl (by with_reducible assumption) | exact op_append rfl rfl rfl elemBs rfl (by with_reducible assumption) | exact op_append rfl rfl rfl elemBs (by with_reducible assumption) (by with_reducible assumption) | exact op_appendS rfl rfl strU (by with_reducible assumption) | exact op_convS rfl (by with_reducible assumption) (by with_reducible assumption)) ?_; dsimp only [AV.cells, putA, List.set_cons_zero, List.set_cons_succ]) | (refine OS.skip rfl ?_; dsimp only [AV.cells, putA, List.set_cons_zero, List.set_cons_succ]) | (refine OS.call0 rfl rfl (by with_reducible assumption) ?_; dsimp only [AV.cells, putA, List.set_cons_zero, List.set_cons_succ]))
    apply RU.seq
    · apply RU.drawn (by kernel_rfl) (n0 := 0)
      intro k hk
      repeat (first | with_reducible exact OG.nil | (refine OG.pure rfl rfl (by first | exact op_move rfl | exact op_assign rfl | exact op_nilCheck rfl | exact op_fieldAddr rfl (fr0 _ _) | exact op_fieldAddr rfl (fr1' _) | exact op_load rfl (by with_reducible assumption) | exact op_indexAddr rfl rfl (by with_reducible assumption) | exact op_conv rfl (by first | with_reducible assumption | exact conv8_16 _ | exact conv8_32 _ | exact conv8_64 _) | exact op_len rfl (by with_reducible assumption) | exact op_bin (c := true) rfl rfl rfl (by with_reducible assumption) | exact op_bin (c := false) rfl rfl rfl (by with_reducible assumption) | exact op_box rfl rfl | exact op_alloc (by with_reducible assumption) rfl | exact op_store rfl rfl (by with_reducible assumption) | exact op_un rfl rfl | exact op_pickT rfl rfl | exact op_pickF rfl rfl | exact op_extract rfl rfl | exact op_sliceLo rfl rfl (by with_reducible assumption) | exact op_sliceHi rfl rfl (by with_reducible assumption) | exact op_sliceMax rfl rfl rfl (by with_reducible assumption) | exact op_buildSlice rfl (by with_reducible assumption) | exact op_append rfl rfl rfl elemBs rfl (by with_reducible assumption) | exact op_append rfl rfl rfl elemBs (by with_reducible assumption) (by with_reducible assumption) | exact op_appendS rfl rfl strU (by with_reducible assumption) | exact op_convS rfl (by with_reducible assumption) (by with_reducible assumption)) (by first | exact .refl _ | exact .app _ _ | with_reducible assumption) ?_; dsimp only [AV.cells, putA, List.set_cons_zero, List.set_cons_succ]) | (refine OG.call0 rfl rfl (by with_reducible assumption) (by with_reducible assumption) ?_; dsimp only [AV.cells, putA, List.set_cons_zero, List.set_cons_succ]))
    exact RU.ret
  · rfl
/-- Four octets as a number. -/
theorem be32 {A : Nat → Prop} {H : Heap} {src : AV} {b0 b1 b2 b3 : UInt8} {r : B} (h : BytesAt A H src (b0 :: b1 :: b2 :: b3 :: r)) :
    CA P NS 122 [.g [], src] H (.i .u32 ((b0.toNat * 2 ^ 24 + (b1.toNat * 2 ^ 16 + (b2.toNat * 2 ^ 8 + b3.toNat)) : Nat) : Int), H ++ [.cells 166 .vr []]) :=
  be32_run h (shl32 _ _ 24 (by simp) b0) (shl32 _ _ 16 (by simp) b1) (shl32 _ _ 8 (by simp) b2)
    (or32 _ _ (x := b3.toNat) (a := b2.toNat) (n := 8) (by omega) (u8_lt b3) (u8_lt b2))
    (or32 _ _ (x := b2.toNat * 2 ^ 8 + b3.toNat) (a := b1.toNat) (n := 16) (by omega) (by have := u8_lt b2; have := u8_lt b3; omega) (u8_lt b1))
    (or32 _ _ (x := b1.toNat * 2 ^ 16 + (b2.toNat * 2 ^ 8 + b3.toNat)) (a := b0.toNat) (n := 24) (by omega) (by have := u8_lt b1; have := u8_lt b2; have := u8_lt b3; omega) (u8_lt b0))

end Go.Proofs.YtopfghmpaobnnaaDoor.Rd

