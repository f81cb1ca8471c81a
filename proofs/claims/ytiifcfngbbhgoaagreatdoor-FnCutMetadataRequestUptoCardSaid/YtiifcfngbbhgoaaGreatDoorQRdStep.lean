/-
  STEPS, each found by the tactic that its law bears.
-/
import Derived.Test.YtiifcfngbbhgoaaGreatDoorQRdNs
import Derived.Test.YtiifcfngbbhgoaaGreatDoorQWireB
set_option linter.constructorNameAsVariable false
set_option linter.unusedVariables false
set_option linter.unusedSimpArgs false
namespace Go.Proofs.YtiifcfngbbhgoaaGreatDoor.Rd
open Go Go.Proofs.YtiifcfngbbhgoaaGreatDoor.Ax Go.Proofs.YtiifcfngbbhgoaaGreatDoor.Wire
theorem elemBs : (elemA P 22).isSome = true := by kernel_rfl
theorem strU : P.underlying 9 = some .string := by kernel_rfl
section
variable {S : CallA} {fr fr1 : List AV} {H H1 : Heap} {ops : Array Oper} {l : List Oper} {v : AV}
theorem opx {o : Op} (h : opA P o fr H = some (v, H1) := by first | exact op_move rfl | exact op_assign rfl | exact op_nilCheck rfl | exact op_fieldAddr rfl (fr0 _ _) | exact op_fieldAddr rfl (fr1' _) | exact op_fieldAddr rfl (by with_reducible assumption) | exact op_load rfl (by with_reducible assumption) | exact op_indexAddr rfl rfl (by with_reducible assumption) | exact op_conv rfl (by first | with_reducible assumption | exact conv8_16 _ | exact conv8_32 _ | exact conv8_64 _) | exact op_len rfl (by with_reducible assumption) | exact op_lenM rfl rfl (by with_reducible assumption) | exact op_bin (c := true) rfl rfl rfl (by with_reducible assumption) | exact op_bin (c := false) rfl rfl rfl (by with_reducible assumption) | exact op_box rfl rfl | exact op_alloc (by with_reducible assumption) rfl | exact op_store rfl rfl (by with_reducible assumption) | exact op_un rfl rfl | exact op_pickT rfl rfl | exact op_pickF rfl rfl | exact op_extract rfl rfl | exact op_sliceLo rfl rfl (by with_reducible assumption) | exact op_sliceHi rfl rfl (by with_reducible assumption) | exact op_sliceMax rfl rfl rfl (by with_reducible assumption) | exact op_sliceArr rfl (by with_reducible assumption) | exact op_buildSlice rfl (by with_reducible assumption) | exact op_append rfl rfl rfl elemBs rfl (by with_reducible assumption) | exact op_append rfl rfl rfl elemBs (by with_reducible assumption) (by with_reducible assumption) | exact op_appendS rfl rfl strU (by with_reducible assumption) | exact op_copy rfl rfl (by with_reducible assumption) | exact op_makeMap (by with_reducible assumption) | exact op_mapUpdate rfl rfl rfl (by with_reducible assumption) | exact op_func rfl rfl | exact op_field rfl (by with_reducible assumption) | exact op_index rfl rfl (by with_reducible assumption) | exact op_index rfl rfl (by assumption) | exact op_convS rfl (by with_reducible assumption) (by with_reducible assumption)) : opA P o fr H = some (v, H1) := h
theorem OS.st {o : Oper} {r : List AV × Heap} (hg : wantA ops fr o.guard = some true) (hc : isCall o.op = false) (h2 : OS P S ops l (putA fr o.dst v) H1 r) (h1 : opA P o.op fr H = some (v, H1) := by exact opx) : OS P S ops (o :: l) fr H r := OS.opg hg hc h1 h2
theorem OS.cl {d : Option Tmp} {f : Operand} {args : Array Operand} {ats : Array TypeId} {ty : TypeId} {pos : String} {af : Array Edge} {gd : Option (Nat × Bool)} {r : List AV × Heap} {g : FuncId} {as_ : List AV} (hg : wantA ops fr gd = some true) (hf : ev fr f = some (.fn g [])) (ha : evl fr args.toList = some as_)
    (h2 : OS P S ops l (putA fr d v) H1 r) (h1 : CA P S g as_ H (v, H1) := by with_reducible assumption) : OS P S ops (⟨d, .call { callee := .value f, args := args, argTypes := ats }, ty, pos, af, gd⟩ :: l) fr H r := by
  obtain ⟨n1, k1⟩ := h1
  obtain ⟨n2, k2⟩ := h2
  refine ⟨max n1 n2, fun n hn => ?_⟩
  have k1' := k1 n (by omega)
  rw [← List.append_nil as_] at k1'
  simp only [opsA, hg, oneOp, hf, ha, k1', k2 n (by omega)]
theorem RU.rg {id : Nat} (h : OS P S ops ops.toList fr H (fr1, H1) := by repeat (first | with_reducible exact OS.nil | (refine OS.st rfl rfl ?_; dsimp only [AV.cells, putA, List.set_cons_zero, List.set_cons_succ]) | (refine OS.skip rfl ?_; dsimp only [AV.cells, putA, List.set_cons_zero, List.set_cons_succ]) | (refine OS.cl rfl rfl rfl ?_; dsimp only [AV.cells, putA, List.set_cons_zero, List.set_cons_succ]))) : RU P S (.region id ops false) fr H (.normal, fr1, H1) := RU.region h
theorem OG.st {call : CallA} {o : Oper} {r : List AV × Heap} (hg : o.guard = none) (hc : isCall o.op = false) (t : OG P call l (putA fr o.dst v) H1 r) (h : opA P o.op fr H = some (v, H1) := by exact opx) (g : Grows H H1 := by first | exact .refl _ | exact .app _ _ | with_reducible assumption) : OG P call (o :: l) fr H r := OG.pure hg hc h g t
theorem OG.cl {call : CallA} {d : Option Tmp} {f : Operand} {args : Array Operand} {ats : Array TypeId} {ty : TypeId} {pos : String} {af : Array Edge} {r : List AV × Heap} {g : FuncId} {as_ : List AV}
    (hf : ev fr f = some (.fn g [])) (ha : evl fr args.toList = some as_) (t : OG P call l (putA fr d v) H1 r) (h1 : call g as_ H = some (v, H1) := by with_reducible assumption) (gr : Grows H H1 := by with_reducible assumption) : OG P call (⟨d, .call { callee := .value f, args := args, argTypes := ats }, ty, pos, af, none⟩ :: l) fr H r := OG.call0 hf ha h1 gr t
theorem RU.dr {id : Nat} {n0 : Nat} {g : FuncId} {as_ : List AV} {Hc : Heap} {rc : AV × Heap} (hcall : ∀ k, n0 ≤ k → run P S k g as_ Hc = some rc) (hok : drawOk P ops = true := by kernel_rfl) (h : ∀ k, run P S k g as_ Hc = some rc → OG P (run P S k) ops.toList fr H (fr1, H1) := by intro k hcall; repeat (first | with_reducible exact OG.nil | (refine OG.st rfl rfl ?_; dsimp only [AV.cells, putA, List.set_cons_zero, List.set_cons_succ]) | (refine OG.cl rfl rfl ?_; dsimp only [AV.cells, putA, List.set_cons_zero, List.set_cons_succ]))) : RU P S (.region id ops true) fr H (.normal, fr1, H1) := RU.drawn hok (n0 := n0) fun k hk => h k (hcall k hk)
theorem RU.d0 {id : Nat} (hok : drawOk P ops = true := by kernel_rfl) (h : ∀ k, OG P (run P S k) ops.toList fr H (fr1, H1) := by intro k; repeat (first | with_reducible exact OG.nil | (refine OG.st rfl rfl ?_; dsimp only [AV.cells, putA, List.set_cons_zero, List.set_cons_succ]))) : RU P S (.region id ops true) fr H (.normal, fr1, H1) := RU.drawn hok (n0 := 0) fun k _ => h k
end
end Go.Proofs.YtiifcfngbbhgoaaGreatDoor.Rd

namespace Go.Proofs.YtiifcfngbbhgoaaGreatDoor.Rd
open Go Go.Proofs.YtiifcfngbbhgoaaGreatDoor.Ax Go.Proofs.YtiifcfngbbhgoaaGreatDoor.Wire
set_option maxRecDepth 100000
theorem or_add {w a b n : Nat} (hb : b < 2 ^ n) (h : a * 2 ^ n + b < 2 ^ w) : (BitVec.ofInt w (b : Int) ||| BitVec.ofInt w ((a * 2 ^ n : Nat) : Int)).toNat = a * 2 ^ n + b := by
  have h1 : BitVec.ofInt w ((b : Nat) : Int) = BitVec.ofNat w b := BitVec.ofInt_natCast w b
  have h2 : BitVec.ofInt w ((a * 2 ^ n : Nat) : Int) = BitVec.ofNat w (a * 2 ^ n) := BitVec.ofInt_natCast w _
  rw [h1, h2, BitVec.toNat_or, BitVec.toNat_ofNat, BitVec.toNat_ofNat, Nat.mod_eq_of_lt (by omega), Nat.mod_eq_of_lt (by omega), Nat.or_comm, ← Nat.shiftLeft_eq, ← Nat.shiftLeft_add_eq_or_of_lt hb]
theorem shl16 (t : TypeId) (c : Bool) (a : UInt8) : binA P .shl t c (.i .u16 (a.toNat : Int)) (.i .u64 8) = some (.i .u16 ((a.toNat * 2 ^ 8 : Nat) : Int)) := by
  have := u8_lt a
  have e : IntKind.u16.wrap ((a.toNat : Int) * 2 ^ 8) = ((a.toNat * 2 ^ 8 : Nat) : Int) := by simp [IntKind.wrap, IntKind.signed, IntKind.bits]; omega
  show ofSem (Op.shift .shl .u16 (a.toNat : Int) .u64 8) = _
  rw [show Op.shift .shl .u16 (a.toNat : Int) .u64 8 = pure (.int .u16 (IntKind.u16.wrap ((a.toNat : Int) * 2 ^ 8))) from rfl, e]
  rfl
theorem or16 (t : TypeId) (c : Bool) (a b : UInt8) : binA P .or t c (.i .u16 (b.toNat : Int)) (.i .u16 ((a.toNat * 2 ^ 8 : Nat) : Int)) = some (.i .u16 ((a.toNat * 2 ^ 8 + b.toNat : Nat) : Int)) := by
  have h1 := u8_lt a
  have h2 := u8_lt b
  have h := or_add (w := 16) (a := a.toNat) (b := b.toNat) (n := 8) (by omega) (by omega)
  show ofSem (Op.intBits .or .u16 (b.toNat : Int) ((a.toNat * 2 ^ 8 : Nat) : Int)) = _
  rw [show Op.intBits .or .u16 (b.toNat : Int) ((a.toNat * 2 ^ 8 : Nat) : Int) = pure (.int .u16 (IntKind.u16.wrap ((BitVec.ofInt 16 (b.toNat : Int) ||| BitVec.ofInt 16 ((a.toNat * 2 ^ 8 : Nat) : Int)).toNat : Int))) from rfl, h]
  have e : IntKind.u16.wrap ((a.toNat * 2 ^ 8 + b.toNat : Nat) : Int) = ((a.toNat * 2 ^ 8 + b.toNat : Nat) : Int) := by simp [IntKind.wrap, IntKind.signed, IntKind.bits]; omega
  rw [e]
  rfl
theorem conv8_16 (a : UInt8) : convA P 5 27 (U8 a) = some (.i .u16 (a.toNat : Int)) := by
  have := u8_lt a
  have e : convA P 5 27 (U8 a) = some (.i .u16 (IntKind.u16.wrap (a.toNat : Int))) := by kernel_rfl
  rw [e]
  simp [IntKind.wrap, IntKind.signed, IntKind.bits]; omega
theorem conv8_32 (a : UInt8) : convA P 5 53 (U8 a) = some (.i .u32 (a.toNat : Int)) := by
  have := u8_lt a
  have e : convA P 5 53 (U8 a) = some (.i .u32 (IntKind.u32.wrap (a.toNat : Int))) := by kernel_rfl
  rw [e]
  simp [IntKind.wrap, IntKind.signed, IntKind.bits]; omega
theorem conv8_64 (a : UInt8) : convA P 5 69 (U8 a) = some (.i .u64 (a.toNat : Int)) := by
  have := u8_lt a
  have e : convA P 5 69 (U8 a) = some (.i .u64 (IntKind.u64.wrap (a.toNat : Int))) := by kernel_rfl
  rw [e]
  simp [IntKind.wrap, IntKind.signed, IntKind.bits]; omega
theorem shl32 (t : TypeId) (c : Bool) (n : Nat) (hn : n = 8 ∨ n = 16 ∨ n = 24) (a : UInt8) : binA P .shl t c (.i .u32 (a.toNat : Int)) (.i .u64 (n : Int)) = some (.i .u32 ((a.toNat * 2 ^ n : Nat) : Int)) := by
  have := u8_lt a
  have e : IntKind.u32.wrap ((a.toNat : Int) * 2 ^ n) = ((a.toNat * 2 ^ n : Nat) : Int) := by
    rcases hn with rfl | rfl | rfl <;> simp [IntKind.wrap, IntKind.signed, IntKind.bits] <;> omega
  have e2 : Op.shift .shl .u32 (a.toNat : Int) .u64 (n : Int) = pure (.int .u32 (IntKind.u32.wrap ((a.toNat : Int) * 2 ^ n))) := by
    rcases hn with rfl | rfl | rfl <;> rfl
  show ofSem (Op.shift .shl .u32 (a.toNat : Int) .u64 (n : Int)) = _
  rw [e2, e]
  rfl
theorem or32 (t : TypeId) (c : Bool) {x a n : Nat} (hn : n ≤ 24) (hx : x < 2 ^ n) (ha : a < 256) : binA P .or t c (.i .u32 (x : Int)) (.i .u32 ((a * 2 ^ n : Nat) : Int)) = some (.i .u32 ((a * 2 ^ n + x : Nat) : Int)) := by
  have hp : 2 ^ n ≤ 2 ^ 24 := Nat.pow_le_pow_right (by omega) hn
  have hm : a * 2 ^ n ≤ 255 * 2 ^ n := Nat.mul_le_mul_right _ (by omega)
  have hlt : a * 2 ^ n + x < 2 ^ 32 := by
    have : 256 * 2 ^ n ≤ 256 * 2 ^ 24 := Nat.mul_le_mul_left _ hp
    omega
  have h := or_add (w := 32) (a := a) (b := x) (n := n) hx hlt
  have e : IntKind.u32.wrap ((a * 2 ^ n + x : Nat) : Int) = ((a * 2 ^ n + x : Nat) : Int) := by
    generalize a * 2 ^ n + x = y at hlt
    simp [IntKind.wrap, IntKind.signed, IntKind.bits]; omega
  show ofSem (Op.intBits .or .u32 (x : Int) ((a * 2 ^ n : Nat) : Int)) = _
  rw [show Op.intBits .or .u32 (x : Int) ((a * 2 ^ n : Nat) : Int) = pure (.int .u32 (IntKind.u32.wrap ((BitVec.ofInt 32 (x : Int) ||| BitVec.ofInt 32 ((a * 2 ^ n : Nat) : Int)).toNat : Int))) from rfl, h, e]
  rfl
theorem BytesAt.idxG {A : Nat → Prop} {H H' : Heap} {av : AV} {bs : B} (h : BytesAt A H av bs) (g : Grows H H') {n : Nat} {b : UInt8} (hn : bs[n]? = some b) :
    ∃ p, indexAddrA P tB av (.i .i64 n) = some p ∧ loadA P H' tU p = some (U8 b) := by
  obtain ⟨p, h1, h2⟩ := h.idx bty .i64 hn
  exact ⟨p, h1, loadA_grows g h2⟩
theorem at_box {A : Nat → Prop} {H : Heap} {av : AV} {bs : B} (h : BytesAt A H av bs) (K : Heap) {n : Nat} {b : UInt8} (hn : bs[n]? = some b) :
    ∃ p, indexAddrA P tB av (.i .i64 n) = some p ∧ loadA P (H ++ K) tU p = some (U8 b) := BytesAt.idxG h (.app _ _) hn
theorem be16 {A : Nat → Prop} {H : Heap} {src : AV} {b0 b1 : UInt8} {r : B} (h : BytesAt A H src (b0 :: b1 :: r)) :
    CA P NS 83 [.g [], src] H (.i .u16 ((b0.toNat * 2 ^ 8 + b1.toNat : Nat) : Int), H ++ [.cells 118 .vr []]) := by
  obtain ⟨q0, i0, l0⟩ := at_box h [.cells 118 .vr []] (n := 0) (b := b0) rfl
  obtain ⟨q1, i1, l1⟩ := at_box h [.cells 118 .vr []] (n := 1) (b := b1) rfl
  have i0' : indexAddrA P tB src (.i .i64 0) = some q0 := i0
  have i1' : indexAddrA P tB src (.i .i64 1) = some q1 := i1
  have s0 : binA P .shl 27 true (.i .u16 (b0.toNat : Int)) (.i .u64 8) = some (.i .u16 ((b0.toNat * 2 ^ 8 : Nat) : Int)) := shl16 _ _ b0
  have o0 : binA P .or 27 false (.i .u16 (b1.toNat : Int)) (.i .u16 ((b0.toNat * 2 ^ 8 : Nat) : Int)) = some (.i .u16 ((b0.toNat * 2 ^ 8 + b1.toNat : Nat) : Int)) := or16 _ _ b0 b1
  refine CA.go (fn := Tryz.f83) (vs := [_]) (by kernel_rfl) rfl (.inr rfl) ?_
  apply Exists.intro
  apply And.intro
  · dsimp only [Tryz.f83]
    dsimp only [List.length_cons, List.length_nil, List.cons_append, List.nil_append, Nat.reduceSub, Nat.reduceAdd, List.replicate]
    apply RU.seq
    · exact RU.rg
    apply RU.seq
    · exact RU.rg
    apply RU.seq
    · exact RU.d0
    exact RU.ret
  · rfl
theorem be32_run {A : Nat → Prop} {H : Heap} {src : AV} {b0 b1 b2 b3 : UInt8} {r : B} (h : BytesAt A H src (b0 :: b1 :: b2 :: b3 :: r)) {y0 y1 y2 z0 z1 z2 : Int}
    (s0 : binA P .shl 53 true (.i .u32 (b0.toNat : Int)) (.i .u64 24) = some (.i .u32 y0))
    (s1 : binA P .shl 53 true (.i .u32 (b1.toNat : Int)) (.i .u64 16) = some (.i .u32 y1))
    (s2 : binA P .shl 53 true (.i .u32 (b2.toNat : Int)) (.i .u64 8) = some (.i .u32 y2))
    (o2 : binA P .or 53 false (.i .u32 (b3.toNat : Int)) (.i .u32 y2) = some (.i .u32 z2))
    (o1 : binA P .or 53 false (.i .u32 z2) (.i .u32 y1) = some (.i .u32 z1))
    (o0 : binA P .or 53 false (.i .u32 z1) (.i .u32 y0) = some (.i .u32 z0))
    : CA P NS 82 [.g [], src] H (.i .u32 z0, H ++ [.cells 118 .vr []]) := by
  obtain ⟨q0, i0, l0⟩ := at_box h [.cells 118 .vr []] (n := 0) (b := b0) rfl
  have i0' : indexAddrA P tB src (.i .i64 0) = some q0 := i0
  obtain ⟨q1, i1, l1⟩ := at_box h [.cells 118 .vr []] (n := 1) (b := b1) rfl
  have i1' : indexAddrA P tB src (.i .i64 1) = some q1 := i1
  obtain ⟨q2, i2, l2⟩ := at_box h [.cells 118 .vr []] (n := 2) (b := b2) rfl
  have i2' : indexAddrA P tB src (.i .i64 2) = some q2 := i2
  obtain ⟨q3, i3, l3⟩ := at_box h [.cells 118 .vr []] (n := 3) (b := b3) rfl
  have i3' : indexAddrA P tB src (.i .i64 3) = some q3 := i3
  refine CA.go (fn := Tryz.f82) (vs := [_]) (by kernel_rfl) rfl (.inr rfl) ?_
  apply Exists.intro
  apply And.intro
  · dsimp only [Tryz.f82]
    dsimp only [List.length_cons, List.length_nil, List.cons_append, List.nil_append, Nat.reduceSub, Nat.reduceAdd, List.replicate]
    apply RU.seq
    · exact RU.rg
    apply RU.seq
    · exact RU.rg
    apply RU.seq
    · exact RU.d0
    exact RU.ret
  · rfl
theorem be32 {A : Nat → Prop} {H : Heap} {src : AV} {b0 b1 b2 b3 : UInt8} {r : B} (h : BytesAt A H src (b0 :: b1 :: b2 :: b3 :: r)) :
    CA P NS 82 [.g [], src] H (.i .u32 ((b0.toNat * 2 ^ 24 + (b1.toNat * 2 ^ 16 + (b2.toNat * 2 ^ 8 + b3.toNat)) : Nat) : Int), H ++ [.cells 118 .vr []]) :=
  be32_run h (shl32 _ _ 24 (by simp) b0) (shl32 _ _ 16 (by simp) b1) (shl32 _ _ 8 (by simp) b2)
    (or32 _ _ (x := b3.toNat) (a := b2.toNat) (n := 8) (by omega) (u8_lt b3) (u8_lt b2))
    (or32 _ _ (x := b2.toNat * 2 ^ 8 + b3.toNat) (a := b1.toNat) (n := 16) (by omega) (by have := u8_lt b2; have := u8_lt b3; omega) (u8_lt b1))
    (or32 _ _ (x := b1.toNat * 2 ^ 16 + (b2.toNat * 2 ^ 8 + b3.toNat)) (a := b0.toNat) (n := 24) (by omega) (by have := u8_lt b1; have := u8_lt b2; have := u8_lt b3; omega) (u8_lt b0))
end Go.Proofs.YtiifcfngbbhgoaaGreatDoor.Rd

namespace Go.Proofs.YtiifcfngbbhgoaaGreatDoor.Rd
open Go Go.Proofs.YtiifcfngbbhgoaaGreatDoor.Ax Go.Proofs.YtiifcfngbbhgoaaGreatDoor.Wire
set_option maxRecDepth 100000
def RH (H : Heap) (rb : Nat) (src : AV) (bad : Bool) : Heap := H.set rb (.cells tR .vr [src, .b bad])
theorem RH_at {H : Heap} {rb : Nat} {b : Blk} (h : H[rb]? = some b) (src : AV) (bad : Bool) : (RH H rb src bad)[rb]? = some (.cells tR .vr [src, .b bad]) := by
  unfold RH
  rw [List.getElem?_set_self (List.getElem?_eq_some_iff.1 h).1]
theorem RH_RH (H : Heap) (rb : Nat) (s : AV) (b : Bool) (s' : AV) (b' : Bool) : RH (RH H rb s b) rb s' b' = RH H rb s' b' := by
  unfold RH
  rw [List.set_set]
theorem RH_keep {A : Nat → Prop} {H : Heap} {rb : Nat} (h : ¬ A rb) (s : AV) (b : Bool) : Keep A H (RH H rb s b) := Keep.set h _
section
variable {H : Heap} {rb : Nat} {src : AV} {bad : Bool}
theorem rd_src (h : H[rb]? = some (.cells tR .vr [src, .b bad])) : loadA P H 22 (.p rb 0) = some src := by simp [loadA, loadAt, h, aggB]
theorem rd_bad (h : H[rb]? = some (.cells tR .vr [src, .b bad])) : loadA P H 4 (.p rb 1) = some (.b bad) := by simp [loadA, loadAt, h, aggb]
theorem st_src (h : H[rb]? = some (.cells tR .vr [src, .b bad])) {v : AV} (hc : v.cells = [v]) (h1 : v.one = true) : storeA P H 22 (.p rb 0) v = some (RH H rb v bad) := by
  simp [storeA, h, sizeB, Kn.own, hc, h1, over, RH]
theorem st_bad (h : H[rb]? = some (.cells tR .vr [src, .b bad])) : storeA P H 4 (.p rb 1) (.b true) = some (RH H rb src true) := by
  simp [storeA, h, sizeb, Kn.own, AV.cells, AV.one, over, RH]
end
theorem BytesAt.one' {A : Nat → Prop} {H : Heap} {av : AV} {bs : B} (h : BytesAt A H av bs) : av.cells = [av] ∧ av.one = true := by cases h <;> exact ⟨rfl, rfl⟩
structure Room (A : Nat → Prop) (H : Heap) (rb : Nat) : Prop where
  no : ¬ A rb
  new : ∀ i, H.length ≤ i → A i
  be : A 1 ∧ ∃ ty, H[1]? = some (.cells ty .ro [])
  err : A 0 ∧ ∃ ty, H[0]? = some (.cells ty .ro [.e])
theorem Room.keep {A : Nat → Prop} {H H' : Heap} {rb : Nat} (h : Room A H rb) (k : Keep A H H') : Room A H' rb where
  no := h.no
  new := fun i hi => h.new i (Nat.le_trans k.1 hi)
  be := ⟨h.be.1, h.be.2.elim fun ty x => ⟨ty, k.2 _ _ h.be.1 x⟩⟩
  err := ⟨h.err.1, h.err.2.elim fun ty x => ⟨ty, k.2 _ _ h.err.1 x⟩⟩
theorem Room.app {A : Nat → Prop} {H : Heap} {rb : Nat} (h : Room A H rb) (K : Heap) : Room A (H ++ K) rb := h.keep (Keep.app A H K)
theorem Room.ldBE {A : Nat → Prop} {H : Heap} {rb : Nat} (h : Room A H rb) : loadA P H 118 (.gp 1) = some (.g []) := by
  obtain ⟨_, ty, x⟩ := h.be
  have a : aggA P 118 = some true := by kernel_rfl
  have b : sizeA P 118 = some 0 := by kernel_rfl
  simp [loadA, isRo, loadAt, x, a, b]
theorem Room.ldErr {A : Nat → Prop} {H : Heap} {rb : Nat} (h : Room A H rb) : loadA P H 50 (.gp 0) = some .e := by
  obtain ⟨_, ty, x⟩ := h.err
  have a : aggA P 50 = some false := by kernel_rfl
  simp [loadA, isRo, loadAt, x, a]
theorem RdAt.cell {A : Nat → Prop} {H : Heap} {rb : Nat} {nn : Bool} {st : Option B} (h : RdAt A tR H rb nn st) : ∃ src bad, H[rb]? = some (.cells tR .vr [src, .b bad]) ∧ lenA P 22 src = some (.i .i64 ((st.getD []).length : Nat)) ∧ (st = none → src = .s0) := by
  cases st with
  | none => exact ⟨.s0, true, h, by kernel_rfl, fun _ => rfl⟩
  | some bs =>
    obtain ⟨src, h1, h2, _⟩ := h
    exact ⟨src, false, h1, h2.len bty, fun h => by cases h⟩
theorem RdAt.bad {A : Nat → Prop} {H : Heap} {rb : Nat} {b : Blk} (h : H[rb]? = some b) : RdAt A tR (RH H rb .s0 true) rb true none := RH_at h _ _
theorem RdAt.good {A : Nat → Prop} {H : Heap} {rb : Nat} {b : Blk} {src : AV} {bs : B} {nn : Bool} (hA : ¬ A rb) (h : H[rb]? = some b) (hb : BytesAt A H src bs) (hn : nn = true → src ≠ .s0) : RdAt A tR (RH H rb src false) rb nn (some bs) :=
  ⟨src, RH_at h _ _, hb.keep (RH_keep hA _ _), hn⟩
structure RdN (f : FuncId) (kd : IntKind) (d : B → Option (Int × B)) : Prop where
  good : ∀ (A : Nat → Prop) (H : Heap) (rb : Nat) (nn : Bool) (bs : B) (n : Int) (r : B), Room A H rb → RdAt A tR H rb nn (some bs) → d bs = some (n, r) →
    ∃ H', CA P NS f [.p rb 0] H (.i kd n, H') ∧ RdAt A tR H' rb true (some r) ∧ Keep A H H'
  bad : ∀ (A : Nat → Prop) (H : Heap) (rb : Nat) (nn : Bool) (st : Option B), Room A H rb → RdAt A tR H rb nn st → st.bind d = none →
    ∃ H', CA P NS f [.p rb 0] H (.i kd 0, H') ∧ RdAt A tR H' rb true none ∧ Keep A H H'
theorem cut_none {n : Nat} {bs : B} (h : cut n bs = none) : bs.length < n := by
  unfold cut at h
  split at h
  · cases h
  · omega
theorem rdI_none {s : Nat} {st : Option B} (hs : 0 < s) (h : st.bind (rdI s) = none) : (st.getD []).length < s := by
  cases st with
  | none => simpa using hs
  | some bs =>
    simp only [Option.bind_some, rdI, Option.map_eq_none_iff] at h
    simpa using cut_none h
theorem rdS_some {l : Int} {bs h r : B} (e : rdS l bs = some (h, r)) : ∃ n : Nat, l = n ∧ n ≤ bs.length ∧ h = bs.take n ∧ r = bs.drop n := by
  unfold rdS cut at e
  split at e
  · cases e
  · split at e
    · simp at e
      exact ⟨l.toNat, by omega, by assumption, e.1.symm, e.2.symm⟩
    · cases e
theorem rdS_none {l : Int} {bs : B} (e : rdS l bs = none) : ((bs.length : Nat) : Int) < l ∨ l < 0 := by
  unfold rdS cut at e
  split at e
  · right; assumption
  · split at e
    · cases e
    · left; omega
theorem cut1 {bs h r : B} (e : cut 1 bs = some (h, r)) : ∃ b0, h = [b0] ∧ bs = b0 :: r := by
  obtain ⟨hl, rfl⟩ := cut_len e
  rcases h with _ | ⟨b0, _ | ⟨b1, h⟩⟩ <;> simp at hl
  exact ⟨b0, rfl, rfl⟩
theorem cut2 {bs h r : B} (e : cut 2 bs = some (h, r)) : ∃ b0 b1, h = [b0, b1] ∧ bs = b0 :: b1 :: r := by
  obtain ⟨hl, rfl⟩ := cut_len e
  rcases h with _ | ⟨b0, _ | ⟨b1, _ | ⟨b2, h⟩⟩⟩ <;> simp at hl
  exact ⟨b0, b1, rfl, rfl⟩
theorem cut4 {bs h r : B} (e : cut 4 bs = some (h, r)) : ∃ b0 b1 b2 b3, h = [b0, b1, b2, b3] ∧ bs = b0 :: b1 :: b2 :: b3 :: r := by
  obtain ⟨hl, rfl⟩ := cut_len e
  rcases h with _ | ⟨b0, _ | ⟨b1, _ | ⟨b2, _ | ⟨b3, _ | ⟨b4, h⟩⟩⟩⟩⟩ <;> simp at hl
  exact ⟨b0, b1, b2, b3, rfl, rfl⟩
theorem rdI_some {s : Nat} {bs r : B} {n : Int} (h : rdI s bs = some (n, r)) : ∃ h, cut s bs = some (h, r) ∧ n = sgn s (nat h) := by
  unfold rdI at h
  cases hc : cut s bs with
  | none => rw [hc] at h; cases h
  | some x => rw [hc] at h; simp at h; exact ⟨x.1, by rw [← h.2], h.1.symm⟩
theorem wrap_sgn2 {n : Nat} (h : n < 65536) : IntKind.i16.wrap (n : Int) = sgn 2 n := by
  unfold sgn
  split <;> simp [IntKind.wrap, IntKind.signed, IntKind.bits] <;> omega
theorem wrap_sgn4 {n : Nat} (h : n < 4294967296) : IntKind.i32.wrap (n : Int) = sgn 4 n := by
  unfold sgn
  split <;> simp [IntKind.wrap, IntKind.signed, IntKind.bits] <;> omega
theorem nat_lt2 (b0 b1 : UInt8) : nat [b0, b1] < 65536 := by have := nat_lt [b0, b1]; simpa using this
theorem nat_lt4 (b0 b1 b2 b3 : UInt8) : nat [b0, b1, b2, b3] < 4294967296 := by have := nat_lt [b0, b1, b2, b3]; simpa using this
theorem nat2 (b0 b1 : UInt8) : b0.toNat * 2 ^ 8 + b1.toNat = nat [b0, b1] := by simp [nat]
theorem nat4 (b0 b1 b2 b3 : UInt8) : b0.toNat * 2 ^ 24 + (b1.toNat * 2 ^ 16 + (b2.toNat * 2 ^ 8 + b3.toNat)) = nat [b0, b1, b2, b3] := by simp [nat]
end Go.Proofs.YtiifcfngbbhgoaaGreatDoor.Rd

namespace Go.Proofs.YtiifcfngbbhgoaaGreatDoor.Wire
inductive Ev where
  | leaf (k : K) (null : Bool)
  | list (sz : Nat) (null : Bool) (e : F)
  | tags
  deriving DecidableEq, Repr
def Ev.wide : Ev → Nat
  | .leaf k _ => k.wide
  | _ => 1
def Ev.node : Ev → Nat → F → F
  | .leaf k n, o, r => .leaf o k n r
  | .list sz n e, o, r => .list o sz n e r
  | .tags, o, r => .tags o r
def Ev.dec (flex : Bool) : Ev → B → Option (V × B)
  | .leaf k n, bs => decK flex k n bs
  | .list _ n e, bs => (rdL flex bs).bind fun (l, bs) => if n && l < 0 then some (V.nul, bs) else (many (Wire.dec flex e) l.toNat bs).map fun (vs, bs) => (V.l vs, bs)
  | .tags, bs => (rdV bs).bind fun (n, bs) => (decT n [] bs).map fun (ts, bs) => (V.t ts, bs)
def Ev.enc (flex : Bool) : Ev → V → B
  | .leaf k _, v => encK flex k v
  | .list _ _ e, .l vs => cnt flex 4 vs.length ++ vs.flatMap (Wire.enc flex e)
  | .list _ _ _, _ => cnt0 flex 4
  | .tags, .t ts => uv ts.length ++ encT ts
  | .tags, _ => []
def nodes : List (Ev × Nat) → F
  | [] => .nil
  | (e, o) :: r => e.node o (nodes r)
def packV : List V → V
  | [] => .u
  | v :: r => .c v (packV r)
def runE (flex : Bool) : List Ev → B → Option (List V × B)
  | [], bs => some ([], bs)
  | e :: r, bs => (e.dec flex bs).bind fun (v, bs) => (runE flex r bs).map fun (vs, bs) => (v :: vs, bs)
theorem dec_node (flex : Bool) (e : Ev) (o : Nat) (r : F) (bs : B) : dec flex (e.node o r) bs = (e.dec flex bs).bind fun (v, bs) => (dec flex r bs).map fun (w, bs) => (V.c v w, bs) := by
  cases e with
  | leaf k n => rfl
  | list sz n f => simp only [Ev.node, dec, Ev.dec, Option.bind_assoc]
  | tags =>
    simp only [Ev.node, dec, Ev.dec]
    cases rdV bs with
    | none => rfl
    | some p =>
      simp only [Option.bind_some]
      cases decT p.1 [] p.2 <;> rfl
theorem dec_nodes (flex : Bool) : ∀ (l : List (Ev × Nat)) (bs : B), dec flex (nodes l) bs = (runE flex (l.map (·.1)) bs).map fun (vs, r) => (packV vs, r)
  | [], bs => rfl
  | (e, o) :: r, bs => by
    simp only [nodes, dec_node, List.map_cons, runE]
    cases e.dec flex bs with
    | none => rfl
    | some p =>
      simp only [Option.bind_some, dec_nodes flex r, Option.map_map]
      rfl
theorem runE_app (flex : Bool) : ∀ (a b : List Ev) (bs : B), runE flex (a ++ b) bs = (runE flex a bs).bind fun (vs, r) => (runE flex b r).map fun (us, r) => (vs ++ us, r)
  | [], b, bs => by simp [runE]
  | e :: a, b, bs => by
    simp only [List.cons_append, runE]
    cases e.dec flex bs with
    | none => rfl
    | some p =>
      simp only [Option.bind_some, runE_app flex a b]
      cases runE flex a p.2 with
      | none => rfl
      | some q =>
        simp only [Option.bind_some, Option.map_some, Option.map_map]
        rfl
theorem runE_length {flex : Bool} : ∀ {l : List Ev} {bs r : B} {vs : List V}, runE flex l bs = some (vs, r) → vs.length = l.length
  | [], bs, r, vs, h => by simp [runE] at h; rw [h.1]; rfl
  | e :: l, bs, r, vs, h => by
    simp only [runE] at h
    cases hd : e.dec flex bs with
    | none => rw [hd] at h; cases h
    | some p =>
      rw [hd] at h
      simp only [Option.bind_some, Option.map_eq_some_iff] at h
      obtain ⟨⟨us, r1⟩, h1, h2⟩ := h
      simp at h2
      rw [← h2.1, List.length_cons, List.length_cons, runE_length h1]
theorem runE_snoc (flex : Bool) (a : List Ev) (e : Ev) (bs : B) : runE flex (a ++ [e]) bs = (runE flex a bs).bind fun (vs, r) => (e.dec flex r).map fun (v, r) => (vs ++ [v], r) := by
  rw [runE_app]
  cases runE flex a bs with
  | none => rfl
  | some q =>
    simp only [Option.bind_some, runE]
    cases e.dec flex q.2 <;> simp [runE]
theorem enc_node {flex : Bool} (e : Ev) (o : Nat) (r : F) (v w : V) (h : ∀ (_ : e = .tags), ∃ ts, v = .t ts) : enc flex (e.node o r) (.c v w) = e.enc flex v ++ enc flex r w := by
  cases e with
  | leaf k n => rfl
  | list sz n f => cases v <;> rfl
  | tags =>
    obtain ⟨ts, rfl⟩ := h rfl
    rfl
theorem many_snoc {d : B → Option (V × B)} : ∀ (n : Nat) (bs : B), many d (n + 1) bs = (many d n bs).bind fun (us, r) => (d r).map fun (v, r) => (us ++ [v], r)
  | 0, bs => by
    simp only [many, Option.bind_some]
    cases d bs <;> simp
  | n + 1, bs => by
    conv => lhs; unfold many
    conv => rhs; unfold many
    cases hd : d bs with
    | none => rfl
    | some p =>
      simp only [Option.bind_some, many_snoc n]
      cases many d n p.2 with
      | none => rfl
      | some q =>
        simp only [Option.bind_some, Option.map_some]
        cases d q.2 <;> simp
theorem many_none {d : B → Option (V × B)} {n : Nat} {bs : B} (h : many d n bs = none) : ∀ k, many d (n + k) bs = none
  | 0 => h
  | k + 1 => by
    have := many_none h k
    show many d ((n + k) + 1) bs = none
    rw [many_snoc, this]; rfl
theorem many_length {d : B → Option (V × B)} : ∀ (n : Nat) {bs r : B} {vs : List V}, many d n bs = some (vs, r) → vs.length = n := fun n _ _ _ h => (many_ok n h).1
theorem runE_more {flex : Bool} {a : List Ev} {bs : B} (h : runE flex a bs = none) (b : List Ev) : runE flex (a ++ b) bs = none := by rw [runE_app, h]; rfl
end Go.Proofs.YtiifcfngbbhgoaaGreatDoor.Wire

