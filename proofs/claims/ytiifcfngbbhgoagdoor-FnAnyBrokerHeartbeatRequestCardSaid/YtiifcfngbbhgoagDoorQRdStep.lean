/-
  STEPS, each found by the tactic that its law bears.
-/
import Derived.Test.YtiifcfngbbhgoagDoorQRdNs
set_option linter.constructorNameAsVariable false
set_option linter.unusedVariables false
set_option linter.unusedSimpArgs false
namespace Go.Proofs.YtiifcfngbbhgoagDoor.Rd
open Go Go.Proofs.YtiifcfngbbhgoagDoor.Ax Go.Proofs.YtiifcfngbbhgoagDoor.Wire
theorem elemBs : (elemA P 22).isSome = true := by kernel_rfl
theorem strU : P.underlying 9 = some .string := by kernel_rfl
section
variable {S : CallA} {fr fr1 : List AV} {H H1 : Heap} {ops : Array Oper} {l : List Oper} {v : AV}
theorem opx {o : Op} (h : opA P o fr H = some (v, H1) := by first | exact op_move rfl | exact op_assign rfl | exact op_nilCheck rfl | exact op_fieldAddr rfl (fr0 _ _) | exact op_fieldAddr rfl (fr1' _) | exact op_fieldAddr rfl (by with_reducible assumption) | exact op_load rfl (by with_reducible assumption) | exact op_indexAddr rfl rfl (by with_reducible assumption) | exact op_conv rfl (by first | with_reducible assumption | exact conv8_16 _ | exact conv8_32 _ | exact conv8_64 _) | exact op_len rfl (by with_reducible assumption) | exact op_lenM rfl rfl (by with_reducible assumption) | exact op_bin (c := true) rfl rfl rfl (by with_reducible assumption) | exact op_bin (c := false) rfl rfl rfl (by with_reducible assumption) | exact op_box rfl rfl | exact op_alloc (by with_reducible assumption) rfl | exact op_store rfl rfl (by with_reducible assumption) | exact op_un rfl rfl | exact op_pickT rfl rfl | exact op_pickF rfl rfl | exact op_extract rfl rfl | exact op_sliceLo rfl rfl (by with_reducible assumption) | exact op_sliceHi rfl rfl (by with_reducible assumption) | exact op_sliceMax rfl rfl rfl (by with_reducible assumption) | exact op_sliceArr rfl (by with_reducible assumption) | exact op_buildSlice rfl (by with_reducible assumption) | exact op_append rfl rfl rfl elemBs rfl (by with_reducible assumption) | exact op_append rfl rfl rfl elemBs (by with_reducible assumption) (by with_reducible assumption) | exact op_appendS rfl rfl strU (by with_reducible assumption) | exact op_copy rfl rfl (by with_reducible assumption) | exact op_makeMap (by with_reducible assumption) | exact op_mapUpdate rfl rfl rfl (by with_reducible assumption) | exact op_func rfl rfl | exact op_field rfl (by with_reducible assumption) | exact op_index rfl rfl (by with_reducible assumption) | exact op_index rfl rfl (by assumption) | exact op_convS rfl (by with_reducible assumption) (by with_reducible assumption)) : opA P o fr H = some (v, H1) := h
theorem OS.st {o : Oper} {r : List AV × Heap} (hg : wantA ops fr o.guard = some true) (hc : isCall o.op = false) (h2 : OS P S ops l (putA fr o.dst v) H1 r) (h1 : opA P o.op fr H = some (v, H1) := by exact opx) : OS P S ops (o :: l) fr H r := OS.opg hg hc h1 h2
theorem OS.cl {d : Option Tmp} {f : Operand} {args : Array Operand} {ats : Array TypeId} {ty : TypeId} {pos : String} {af : Array Edge} {gd : Option (Nat × Bool)} {r : List AV × Heap} {g : FuncId} {as_ : List AV} (hg : wantA ops fr gd = some true) (hf : ev fr f = some (.fn g [])) (ha : evl fr args.toList = some as_)
    (h2 : OS P S ops l (putA fr d v) H1 r) (h1 : CA P S g as_ H (v, H1) := by with_reducible assumption) : OS P S ops (⟨d, .call { callee := .value f, args := args, argTypes := ats }, ty, pos, af, gd⟩ :: l) fr H r := by
  obtain ⟨n1, k1⟩ := h1
  obtain ⟨n2, k2⟩ := h2
  refine ⟨max n1 n2, fun n hn => ?_⟩
  have k1' := k1 n (by omega)
  rw [← List.append_nil as_] at k1'
  simp only [opsA, hg, oneOp, hf, ha, k1', k2 n (by omega)]
theorem OS.iv {d : Option Tmp} {x : Operand} {name : String} {args : Array Operand} {ats : Array TypeId} {ty : TypeId} {pos : String} {af : Array Edge} {r : List AV × Heap} {g : FuncId} {t : TypeId} {i o : Nat} {as_ : List AV} (hx : ev fr x = some (.ip t i o)) (ha : evl fr args.toList = some as_)
    (h2 : OS P S ops l (putA fr d v) H1 r) (hm : metA P t name = some g := by with_reducible assumption) (h1 : CA P S g (.p i o :: as_) H (v, H1) := by with_reducible assumption) : OS P S ops (⟨d, .call { callee := .invoke x name, args := args, argTypes := ats }, ty, pos, af, none⟩ :: l) fr H r := OS.inv hx ha hm h1 h2
theorem RU.rg {id : Nat} (h : OS P S ops ops.toList fr H (fr1, H1) := by repeat (first | with_reducible exact OS.nil | (refine OS.st rfl rfl ?_; dsimp only [AV.cells, putA, List.set_cons_zero, List.set_cons_succ]) | (refine OS.skip rfl ?_; dsimp only [AV.cells, putA, List.set_cons_zero, List.set_cons_succ]) | (refine OS.cl rfl rfl rfl ?_; dsimp only [AV.cells, putA, List.set_cons_zero, List.set_cons_succ]) | (refine OS.iv rfl rfl ?_; dsimp only [AV.cells, putA, List.set_cons_zero, List.set_cons_succ]))) : RU P S (.region id ops false) fr H (.normal, fr1, H1) := RU.region h
theorem OG.st {call : CallA} {o : Oper} {r : List AV × Heap} (hg : o.guard = none) (hc : isCall o.op = false) (t : OG P call l (putA fr o.dst v) H1 r) (h : opA P o.op fr H = some (v, H1) := by exact opx) (g : Grows H H1 := by first | exact .refl _ | exact .app _ _ | with_reducible assumption) : OG P call (o :: l) fr H r := OG.pure hg hc h g t
theorem OG.cl {call : CallA} {d : Option Tmp} {f : Operand} {args : Array Operand} {ats : Array TypeId} {ty : TypeId} {pos : String} {af : Array Edge} {r : List AV × Heap} {g : FuncId} {as_ : List AV}
    (hf : ev fr f = some (.fn g [])) (ha : evl fr args.toList = some as_) (t : OG P call l (putA fr d v) H1 r) (h1 : call g as_ H = some (v, H1) := by with_reducible assumption) (gr : Grows H H1 := by with_reducible assumption) : OG P call (⟨d, .call { callee := .value f, args := args, argTypes := ats }, ty, pos, af, none⟩ :: l) fr H r := OG.call0 hf ha h1 gr t
theorem RU.dr {id : Nat} {n0 : Nat} {g : FuncId} {as_ : List AV} {Hc : Heap} {rc : AV × Heap} (hcall : ∀ k, n0 ≤ k → run P S k g as_ Hc = some rc) (hok : drawOk P ops = true := by kernel_rfl) (h : ∀ k, run P S k g as_ Hc = some rc → OG P (run P S k) ops.toList fr H (fr1, H1) := by intro k hcall; repeat (first | with_reducible exact OG.nil | (refine OG.st rfl rfl ?_; dsimp only [AV.cells, putA, List.set_cons_zero, List.set_cons_succ]) | (refine OG.cl rfl rfl ?_; dsimp only [AV.cells, putA, List.set_cons_zero, List.set_cons_succ]))) : RU P S (.region id ops true) fr H (.normal, fr1, H1) := RU.drawn hok (n0 := n0) fun k hk => h k (hcall k hk)
theorem RU.d0 {id : Nat} (hok : drawOk P ops = true := by kernel_rfl) (h : ∀ k, OG P (run P S k) ops.toList fr H (fr1, H1) := by intro k; repeat (first | with_reducible exact OG.nil | (refine OG.st rfl rfl ?_; dsimp only [AV.cells, putA, List.set_cons_zero, List.set_cons_succ]))) : RU P S (.region id ops true) fr H (.normal, fr1, H1) := RU.drawn hok (n0 := 0) fun k _ => h k
end
end Go.Proofs.YtiifcfngbbhgoagDoor.Rd

namespace Go.Proofs.YtiifcfngbbhgoagDoor.Rd
open Go Go.Proofs.YtiifcfngbbhgoagDoor.Ax Go.Proofs.YtiifcfngbbhgoagDoor.Wire
set_option maxRecDepth 100000
theorem or_add {w a b n : Nat} (hb : b < 2 ^ n) (h : a * 2 ^ n + b < 2 ^ w) : (BitVec.ofInt w (b : Int) ||| BitVec.ofInt w ((a * 2 ^ n : Nat) : Int)).toNat = a * 2 ^ n + b := by
  have h1 : BitVec.ofInt w ((b : Nat) : Int) = BitVec.ofNat w b := BitVec.ofInt_natCast w b
  have h2 : BitVec.ofInt w ((a * 2 ^ n : Nat) : Int) = BitVec.ofNat w (a * 2 ^ n) := BitVec.ofInt_natCast w _
  rw [h1, h2, BitVec.toNat_or, BitVec.toNat_ofNat, BitVec.toNat_ofNat, Nat.mod_eq_of_lt (by omega), Nat.mod_eq_of_lt (by omega), Nat.or_comm, ← Nat.shiftLeft_eq, ← Nat.shiftLeft_add_eq_or_of_lt hb]
theorem shl16 (t : TypeId) (c : Bool) (a : UInt8) : binA P .shl t c (.i .u16 (a.toNat : Int)) (.i .u64 8) = some (.i .u16 ((a.toNat * 2 ^ 8 : Nat) : Int)) := by
  have := u8_lt a
  have e : IntKind.u16.wrap ((a.toNat : Int) * 2 ^ 8) = ((a.toNat * 2 ^ 8 : Nat) : Int) := by simp [IntKind.wrap, IntKind.signed, IntKind.bits]; omega
  show ofSem (Op.shift .shl .u16 (a.toNat : Int) .u64 8) = _
  rw [show Op.shift .shl .u16 (a.toNat : Int) .u64 8 = pure (.int .u16 (IntKind.u16.wrap ((a.toNat : Int) * 2 ^ 8))) from rfl, e]
  rfl
theorem conv8_32 (a : UInt8) : convA P 5 49 (U8 a) = some (.i .u32 (a.toNat : Int)) := by
  have := u8_lt a
  have e : convA P 5 49 (U8 a) = some (.i .u32 (IntKind.u32.wrap (a.toNat : Int))) := by kernel_rfl
  rw [e]
  simp [IntKind.wrap, IntKind.signed, IntKind.bits]; omega
theorem conv8_64 (a : UInt8) : convA P 5 66 (U8 a) = some (.i .u64 (a.toNat : Int)) := by
  have := u8_lt a
  have e : convA P 5 66 (U8 a) = some (.i .u64 (IntKind.u64.wrap (a.toNat : Int))) := by kernel_rfl
  rw [e]
  simp [IntKind.wrap, IntKind.signed, IntKind.bits]; omega
theorem shl32 (t : TypeId) (c : Bool) (n : Nat) (hn : n = 8 ∨ n = 16 ∨ n = 24) (a : UInt8) : binA P .shl t c (.i .u32 (a.toNat : Int)) (.i .u64 (n : Int)) = some (.i .u32 ((a.toNat * 2 ^ n : Nat) : Int)) := by
  have := u8_lt a
  have e : IntKind.u32.wrap ((a.toNat : Int) * 2 ^ n) = ((a.toNat * 2 ^ n : Nat) : Int) := by
    rcases hn with rfl | rfl | rfl <;> simp [IntKind.wrap, IntKind.signed, IntKind.bits] <;> omega
  have e2 : Op.shift .shl .u32 (a.toNat : Int) .u64 (n : Int) = pure (.int .u32 (IntKind.u32.wrap ((a.toNat : Int) * 2 ^ n))) := by
    rcases hn with rfl | rfl | rfl <;> rfl
  show ofSem (Op.shift .shl .u32 (a.toNat : Int) .u64 (n : Int)) = _
  rw [e2, e]
  rfl
theorem or32 (t : TypeId) (c : Bool) {x a n : Nat} (hn : n ≤ 24) (hx : x < 2 ^ n) (ha : a < 256) : binA P .or t c (.i .u32 (x : Int)) (.i .u32 ((a * 2 ^ n : Nat) : Int)) = some (.i .u32 ((a * 2 ^ n + x : Nat) : Int)) := by
  have hp : 2 ^ n ≤ 2 ^ 24 := Nat.pow_le_pow_right (by omega) hn
  have hm : a * 2 ^ n ≤ 255 * 2 ^ n := Nat.mul_le_mul_right _ (by omega)
  have hlt : a * 2 ^ n + x < 2 ^ 32 := by
    have : 256 * 2 ^ n ≤ 256 * 2 ^ 24 := Nat.mul_le_mul_left _ hp
    omega
  have h := or_add (w := 32) (a := a) (b := x) (n := n) hx hlt
  have e : IntKind.u32.wrap ((a * 2 ^ n + x : Nat) : Int) = ((a * 2 ^ n + x : Nat) : Int) := by
    generalize a * 2 ^ n + x = y at hlt
    simp [IntKind.wrap, IntKind.signed, IntKind.bits]; omega
  show ofSem (Op.intBits .or .u32 (x : Int) ((a * 2 ^ n : Nat) : Int)) = _
  rw [show Op.intBits .or .u32 (x : Int) ((a * 2 ^ n : Nat) : Int) = pure (.int .u32 (IntKind.u32.wrap ((BitVec.ofInt 32 (x : Int) ||| BitVec.ofInt 32 ((a * 2 ^ n : Nat) : Int)).toNat : Int))) from rfl, h, e]
  rfl
theorem BytesAt.idxG {A : Nat → Prop} {H H' : Heap} {av : AV} {bs : B} (h : BytesAt A H av bs) (g : Grows H H') {n : Nat} {b : UInt8} (hn : bs[n]? = some b) :
    ∃ p, indexAddrA P tB av (.i .i64 n) = some p ∧ loadA P H' tU p = some (U8 b) := by
  obtain ⟨p, h1, h2⟩ := h.idx bty .i64 hn
  exact ⟨p, h1, loadA_grows g h2⟩
theorem at_box {A : Nat → Prop} {H : Heap} {av : AV} {bs : B} (h : BytesAt A H av bs) (K : Heap) {n : Nat} {b : UInt8} (hn : bs[n]? = some b) :
    ∃ p, indexAddrA P tB av (.i .i64 n) = some p ∧ loadA P (H ++ K) tU p = some (U8 b) := BytesAt.idxG h (.app _ _) hn
theorem be32_run {A : Nat → Prop} {H : Heap} {src : AV} {b0 b1 b2 b3 : UInt8} {r : B} (h : BytesAt A H src (b0 :: b1 :: b2 :: b3 :: r)) {y0 y1 y2 z0 z1 z2 : Int}
    (s0 : binA P .shl 49 true (.i .u32 (b0.toNat : Int)) (.i .u64 24) = some (.i .u32 y0))
    (s1 : binA P .shl 49 true (.i .u32 (b1.toNat : Int)) (.i .u64 16) = some (.i .u32 y1))
    (s2 : binA P .shl 49 true (.i .u32 (b2.toNat : Int)) (.i .u64 8) = some (.i .u32 y2))
    (o2 : binA P .or 49 false (.i .u32 (b3.toNat : Int)) (.i .u32 y2) = some (.i .u32 z2))
    (o1 : binA P .or 49 false (.i .u32 z2) (.i .u32 y1) = some (.i .u32 z1))
    (o0 : binA P .or 49 false (.i .u32 z1) (.i .u32 y0) = some (.i .u32 z0))
    : CA P NS 42 [.g [], src] H (.i .u32 z0, H ++ [.cells 73 .vr []]) := by
  obtain ⟨q0, i0, l0⟩ := at_box h [.cells 73 .vr []] (n := 0) (b := b0) rfl
  have i0' : indexAddrA P tB src (.i .i64 0) = some q0 := i0
  obtain ⟨q1, i1, l1⟩ := at_box h [.cells 73 .vr []] (n := 1) (b := b1) rfl
  have i1' : indexAddrA P tB src (.i .i64 1) = some q1 := i1
  obtain ⟨q2, i2, l2⟩ := at_box h [.cells 73 .vr []] (n := 2) (b := b2) rfl
  have i2' : indexAddrA P tB src (.i .i64 2) = some q2 := i2
  obtain ⟨q3, i3, l3⟩ := at_box h [.cells 73 .vr []] (n := 3) (b := b3) rfl
  have i3' : indexAddrA P tB src (.i .i64 3) = some q3 := i3
  refine CA.go (fn := Tryd.f42) (vs := [_]) (by kernel_rfl) rfl (.inr rfl) ?_
  apply Exists.intro
  apply And.intro
  · dsimp only [Tryd.f42]
    dsimp only [List.length_cons, List.length_nil, List.cons_append, List.nil_append, Nat.reduceSub, Nat.reduceAdd, List.replicate]
    apply RU.seq
    · exact RU.rg
    apply RU.seq
    · exact RU.rg
    apply RU.seq
    · exact RU.d0
    exact RU.ret
  · rfl
theorem be32 {A : Nat → Prop} {H : Heap} {src : AV} {b0 b1 b2 b3 : UInt8} {r : B} (h : BytesAt A H src (b0 :: b1 :: b2 :: b3 :: r)) :
    CA P NS 42 [.g [], src] H (.i .u32 ((b0.toNat * 2 ^ 24 + (b1.toNat * 2 ^ 16 + (b2.toNat * 2 ^ 8 + b3.toNat)) : Nat) : Int), H ++ [.cells 73 .vr []]) :=
  be32_run h (shl32 _ _ 24 (by simp) b0) (shl32 _ _ 16 (by simp) b1) (shl32 _ _ 8 (by simp) b2)
    (or32 _ _ (x := b3.toNat) (a := b2.toNat) (n := 8) (by omega) (u8_lt b3) (u8_lt b2))
    (or32 _ _ (x := b2.toNat * 2 ^ 8 + b3.toNat) (a := b1.toNat) (n := 16) (by omega) (by have := u8_lt b2; have := u8_lt b3; omega) (u8_lt b1))
    (or32 _ _ (x := b1.toNat * 2 ^ 16 + (b2.toNat * 2 ^ 8 + b3.toNat)) (a := b0.toNat) (n := 24) (by omega) (by have := u8_lt b1; have := u8_lt b2; have := u8_lt b3; omega) (u8_lt b0))
end Go.Proofs.YtiifcfngbbhgoagDoor.Rd

namespace Go.Proofs.YtiifcfngbbhgoagDoor.Rd
open Go Go.Proofs.YtiifcfngbbhgoagDoor.Ax Go.Proofs.YtiifcfngbbhgoagDoor.Wire
set_option maxRecDepth 100000
def RH (H : Heap) (rb : Nat) (src : AV) (bad : Bool) : Heap := H.set rb (.cells tR .vr [src, .b bad])
theorem RH_at {H : Heap} {rb : Nat} {b : Blk} (h : H[rb]? = some b) (src : AV) (bad : Bool) : (RH H rb src bad)[rb]? = some (.cells tR .vr [src, .b bad]) := by
  unfold RH
  rw [List.getElem?_set_self (List.getElem?_eq_some_iff.1 h).1]
theorem RH_RH (H : Heap) (rb : Nat) (s : AV) (b : Bool) (s' : AV) (b' : Bool) : RH (RH H rb s b) rb s' b' = RH H rb s' b' := by
  unfold RH
  rw [List.set_set]
theorem RH_keep {A : Nat → Prop} {H : Heap} {rb : Nat} (h : ¬ A rb) (s : AV) (b : Bool) : Keep A H (RH H rb s b) := Keep.set h _
section
variable {H : Heap} {rb : Nat} {src : AV} {bad : Bool}
theorem rd_src (h : H[rb]? = some (.cells tR .vr [src, .b bad])) : loadA P H 22 (.p rb 0) = some src := by simp [loadA, loadAt, h, aggB]
theorem rd_bad (h : H[rb]? = some (.cells tR .vr [src, .b bad])) : loadA P H 4 (.p rb 1) = some (.b bad) := by simp [loadA, loadAt, h, aggb]
theorem st_src (h : H[rb]? = some (.cells tR .vr [src, .b bad])) {v : AV} (hc : v.cells = [v]) (h1 : v.one = true) : storeA P H 22 (.p rb 0) v = some (RH H rb v bad) := by
  simp [storeA, h, sizeB, Kn.own, hc, h1, over, RH]
theorem st_bad (h : H[rb]? = some (.cells tR .vr [src, .b bad])) : storeA P H 4 (.p rb 1) (.b true) = some (RH H rb src true) := by
  simp [storeA, h, sizeb, Kn.own, AV.cells, AV.one, over, RH]
end
theorem BytesAt.one' {A : Nat → Prop} {H : Heap} {av : AV} {bs : B} (h : BytesAt A H av bs) : av.cells = [av] ∧ av.one = true := by cases h <;> exact ⟨rfl, rfl⟩
structure Room (A : Nat → Prop) (H : Heap) (rb : Nat) : Prop where
  no : ¬ A rb
  new : ∀ i, H.length ≤ i → A i
  be : A 0 ∧ ∃ ty, H[0]? = some (.cells ty .ro [])
  err : A 1 ∧ ∃ ty, H[1]? = some (.cells ty .ro [.e])
theorem Room.keep {A : Nat → Prop} {H H' : Heap} {rb : Nat} (h : Room A H rb) (k : Keep A H H') : Room A H' rb where
  no := h.no
  new := fun i hi => h.new i (Nat.le_trans k.1 hi)
  be := ⟨h.be.1, h.be.2.elim fun ty x => ⟨ty, k.2 _ _ h.be.1 x⟩⟩
  err := ⟨h.err.1, h.err.2.elim fun ty x => ⟨ty, k.2 _ _ h.err.1 x⟩⟩
theorem Room.app {A : Nat → Prop} {H : Heap} {rb : Nat} (h : Room A H rb) (K : Heap) : Room A (H ++ K) rb := h.keep (Keep.app A H K)
theorem Room.ldBE {A : Nat → Prop} {H : Heap} {rb : Nat} (h : Room A H rb) : loadA P H 73 (.gp 0) = some (.g []) := by
  obtain ⟨_, ty, x⟩ := h.be
  have a : aggA P 73 = some true := by kernel_rfl
  have b : sizeA P 73 = some 0 := by kernel_rfl
  simp [loadA, isRo, loadAt, x, a, b]
theorem Room.ldErr {A : Nat → Prop} {H : Heap} {rb : Nat} (h : Room A H rb) : loadA P H 35 (.gp 1) = some .e := by
  obtain ⟨_, ty, x⟩ := h.err
  have a : aggA P 35 = some false := by kernel_rfl
  simp [loadA, isRo, loadAt, x, a]
theorem RdAt.cell {A : Nat → Prop} {H : Heap} {rb : Nat} {nn : Bool} {st : Option B} (h : RdAt A tR H rb nn st) : ∃ src bad, H[rb]? = some (.cells tR .vr [src, .b bad]) ∧ lenA P 22 src = some (.i .i64 ((st.getD []).length : Nat)) ∧ (st = none → src = .s0) := by
  cases st with
  | none => exact ⟨.s0, true, h, by kernel_rfl, fun _ => rfl⟩
  | some bs =>
    obtain ⟨src, h1, h2, _⟩ := h
    exact ⟨src, false, h1, h2.len bty, fun h => by cases h⟩
theorem RdAt.bad {A : Nat → Prop} {H : Heap} {rb : Nat} {b : Blk} (h : H[rb]? = some b) : RdAt A tR (RH H rb .s0 true) rb true none := RH_at h _ _
theorem RdAt.good {A : Nat → Prop} {H : Heap} {rb : Nat} {b : Blk} {src : AV} {bs : B} {nn : Bool} (hA : ¬ A rb) (h : H[rb]? = some b) (hb : BytesAt A H src bs) (hn : nn = true → src ≠ .s0) : RdAt A tR (RH H rb src false) rb nn (some bs) :=
  ⟨src, RH_at h _ _, hb.keep (RH_keep hA _ _), hn⟩
structure RdN (f : FuncId) (kd : IntKind) (d : B → Option (Int × B)) : Prop where
  good : ∀ (A : Nat → Prop) (H : Heap) (rb : Nat) (nn : Bool) (bs : B) (n : Int) (r : B), Room A H rb → RdAt A tR H rb nn (some bs) → d bs = some (n, r) →
    ∃ H', CA P NS f [.p rb 0] H (.i kd n, H') ∧ RdAt A tR H' rb true (some r) ∧ Keep A H H'
  bad : ∀ (A : Nat → Prop) (H : Heap) (rb : Nat) (nn : Bool) (st : Option B), Room A H rb → RdAt A tR H rb nn st → st.bind d = none →
    ∃ H', CA P NS f [.p rb 0] H (.i kd 0, H') ∧ RdAt A tR H' rb true none ∧ Keep A H H'
theorem cut_none {n : Nat} {bs : B} (h : cut n bs = none) : bs.length < n := by
  unfold cut at h
  split at h
  · cases h
  · omega
theorem rdI_none {s : Nat} {st : Option B} (hs : 0 < s) (h : st.bind (rdI s) = none) : (st.getD []).length < s := by
  cases st with
  | none => simpa using hs
  | some bs =>
    simp only [Option.bind_some, rdI, Option.map_eq_none_iff] at h
    simpa using cut_none h
theorem rdU_none {s : Nat} {st : Option B} (hs : 0 < s) (h : st.bind (rdU s) = none) : (st.getD []).length < s := by
  cases st with
  | none => simpa using hs
  | some bs =>
    simp only [Option.bind_some, rdU, Option.map_eq_none_iff] at h
    simpa using cut_none h
theorem rdS_some {l : Int} {bs h r : B} (e : rdS l bs = some (h, r)) : ∃ n : Nat, l = n ∧ n ≤ bs.length ∧ h = bs.take n ∧ r = bs.drop n := by
  unfold rdS cut at e
  split at e
  · cases e
  · split at e
    · simp at e
      exact ⟨l.toNat, by omega, by assumption, e.1.symm, e.2.symm⟩
    · cases e
theorem rdS_none {l : Int} {bs : B} (e : rdS l bs = none) : ((bs.length : Nat) : Int) < l ∨ l < 0 := by
  unfold rdS cut at e
  split at e
  · right; assumption
  · split at e
    · cases e
    · left; omega
theorem cut1 {bs h r : B} (e : cut 1 bs = some (h, r)) : ∃ b0, h = [b0] ∧ bs = b0 :: r := by
  obtain ⟨hl, rfl⟩ := cut_len e
  rcases h with _ | ⟨b0, _ | ⟨b1, h⟩⟩ <;> simp at hl
  exact ⟨b0, rfl, rfl⟩
theorem cut4 {bs h r : B} (e : cut 4 bs = some (h, r)) : ∃ b0 b1 b2 b3, h = [b0, b1, b2, b3] ∧ bs = b0 :: b1 :: b2 :: b3 :: r := by
  obtain ⟨hl, rfl⟩ := cut_len e
  rcases h with _ | ⟨b0, _ | ⟨b1, _ | ⟨b2, _ | ⟨b3, _ | ⟨b4, h⟩⟩⟩⟩⟩ <;> simp at hl
  exact ⟨b0, b1, b2, b3, rfl, rfl⟩
theorem cut8 {bs h r : B} (e : cut 8 bs = some (h, r)) : ∃ b0 b1 b2 b3 b4 b5 b6 b7, h = [b0, b1, b2, b3, b4, b5, b6, b7] ∧ bs = b0 :: b1 :: b2 :: b3 :: b4 :: b5 :: b6 :: b7 :: r := by
  obtain ⟨hl, rfl⟩ := cut_len e
  rcases h with _ | ⟨b0, _ | ⟨b1, _ | ⟨b2, _ | ⟨b3, _ | ⟨b4, _ | ⟨b5, _ | ⟨b6, _ | ⟨b7, _ | ⟨b8, h⟩⟩⟩⟩⟩⟩⟩⟩⟩ <;> simp at hl
  exact ⟨b0, b1, b2, b3, b4, b5, b6, b7, rfl, rfl⟩
theorem rdI_some {s : Nat} {bs r : B} {n : Int} (h : rdI s bs = some (n, r)) : ∃ h, cut s bs = some (h, r) ∧ n = sgn s (nat h) := by
  unfold rdI at h
  cases hc : cut s bs with
  | none => rw [hc] at h; cases h
  | some x => rw [hc] at h; simp at h; exact ⟨x.1, by rw [← h.2], h.1.symm⟩
theorem rdU_some {s : Nat} {bs r : B} {n : Int} (h : rdU s bs = some (n, r)) : ∃ h, cut s bs = some (h, r) ∧ n = (nat h : Nat) := by
  unfold rdU at h
  cases hc : cut s bs with
  | none => rw [hc] at h; cases h
  | some x => rw [hc] at h; simp at h; exact ⟨x.1, by rw [← h.2], h.1.symm⟩
theorem wrap_sgn4 {n : Nat} (h : n < 4294967296) : IntKind.i32.wrap (n : Int) = sgn 4 n := by
  unfold sgn
  split <;> simp [IntKind.wrap, IntKind.signed, IntKind.bits] <;> omega
theorem wrap_sgn8 {n : Nat} (h : n < 18446744073709551616) : IntKind.i64.wrap (n : Int) = sgn 8 n := by
  unfold sgn
  split <;> simp [IntKind.wrap, IntKind.signed, IntKind.bits] <;> omega
theorem nat_lt4 (b0 b1 b2 b3 : UInt8) : nat [b0, b1, b2, b3] < 4294967296 := by have := nat_lt [b0, b1, b2, b3]; simpa using this
theorem nat4 (b0 b1 b2 b3 : UInt8) : b0.toNat * 2 ^ 24 + (b1.toNat * 2 ^ 16 + (b2.toNat * 2 ^ 8 + b3.toNat)) = nat [b0, b1, b2, b3] := by simp [nat]
end Go.Proofs.YtiifcfngbbhgoagDoor.Rd

namespace Go.Proofs.YtiifcfngbbhgoagDoor.Rd
open Go Go.Proofs.YtiifcfngbbhgoagDoor.Ax Go.Proofs.YtiifcfngbbhgoagDoor.Wire
set_option maxRecDepth 100000
set_option maxHeartbeats 1000000
theorem int32_short {H : Heap} {rb : Nat} {src : AV} {bad : Bool} {n : Nat} (hH : H[rb]? = some (.cells tR .vr [src, .b bad])) (hlen : lenA P 22 src = some (.i .i64 n)) (hl : n < 4) :
    CA P NS 26 [.p rb 0] H (.i .i32 0, RH H rb .s0 true) := by
  have hc : binA P .lss 3 true (.i .i64 (n : Int)) (.i .i64 4) = some (.b true) := by rw [lss]; simp; omega
  have l0 := rd_src hH
  have s1 := st_bad hH
  have s2 : storeA P (RH H rb src true) 22 (.p rb 0) .s0 = some (RH H rb .s0 true) := by rw [st_src (RH_at hH _ _) rfl rfl, RH_RH]
  refine CA.go (fn := Tryd.f26) (vs := [_]) (by kernel_rfl) rfl (.inr rfl) ?_
  apply Exists.intro
  apply And.intro
  · dsimp only [Tryd.f26]
    dsimp only [List.length_cons, List.length_nil, List.cons_append, List.nil_append, Nat.reduceSub, Nat.reduceAdd, List.replicate]
    refine RU.seq RU.rg ?_
    (apply RU.seqx; rotate_left; focus (simp)); refine RU.seq RU.rg ?_; apply RU.condT rfl
    refine RU.seq RU.rg ?_
    refine RU.seq RU.rg ?_
    refine RU.seq RU.rg ?_
    exact RU.ret
  · rfl
theorem cv_int32 (n : Int) : convA P 49 21 (.i .u32 n) = some (.i .i32 (IntKind.i32.wrap n)) := by kernel_rfl
theorem int32_good {A : Nat → Prop} {H : Heap} {rb : Nat} {src src' : AV} {b0 b1 b2 b3 : UInt8} {r : B} (R : Room A H rb) (hH : H[rb]? = some (.cells tR .vr [src, .b false])) (hb : BytesAt A H src (b0 :: b1 :: b2 :: b3 :: r)) (hs : sliceA P 22 src (some (.i .i64 4)) none = some src') (hs1 : src'.cells = [src']) (hs2 : src'.one = true) :
    CA P NS 26 [.p rb 0] H (.i .i32 (sgn 4 (nat [b0, b1, b2, b3])), RH (H ++ [.cells 73 .vr []]) rb src' false) := by
  have hlen := hb.len bty
  have hc : binA P .lss 3 true (.i .i64 ((b0 :: b1 :: b2 :: b3 :: r).length : Int)) (.i .i64 4) = some (.b false) := by rw [lss]; simp; omega
  generalize ((b0 :: b1 :: b2 :: b3 :: r).length : Int) = n at hlen hc
  have l0 := rd_src hH
  have lg := R.ldBE
  obtain ⟨n1, hcall⟩ := be32 hb
  rw [nat4] at hcall
  have hgr : Grows H (H ++ [.cells 73 .vr []]) := .app _ _
  have hH1 := hgr.at hH
  have l1 := rd_src hH1
  have s1 := st_src hH1 hs1 hs2
  have hcv : convA P 49 21 (.i .u32 ((nat [b0, b1, b2, b3] : Nat) : Int)) = some (.i .i32 (sgn 4 (nat [b0, b1, b2, b3]))) := (cv_int32 _).trans (congrArg (fun x => some (AV.i .i32 x)) (wrap_sgn4 (nat_lt4 b0 b1 b2 b3)))
  generalize sgn 4 (nat [b0, b1, b2, b3]) = v at hcv ⊢
  generalize ((nat [b0, b1, b2, b3] : Nat) : Int) = u at *
  generalize H ++ [Blk.cells 73 Kn.vr []] = H1 at *
  refine CA.go (fn := Tryd.f26) (vs := [_]) (by kernel_rfl) rfl (.inr rfl) ?_
  apply Exists.intro
  apply And.intro
  · dsimp only [Tryd.f26]
    dsimp only [List.length_cons, List.length_nil, List.cons_append, List.nil_append, Nat.reduceSub, Nat.reduceAdd, List.replicate]
    refine RU.seq RU.rg ?_
    refine RU.seq (RU.seq RU.rg (RU.condF rfl RU.skip)) ?_
    refine RU.seq (RU.dr hcall) ?_
    refine RU.seq RU.rg ?_
    refine RU.seq RU.rg ?_
    exact RU.ret
  · rfl
theorem rd_int32 : RdN 26 .i32 (rdI 4) where
  good A H rb nn bs n r R h hd := by
    obtain ⟨src, hH, hb, hn⟩ := h
    obtain ⟨h, hc, rfl⟩ := rdI_some hd
    obtain ⟨b0, b1, b2, b3, rfl, rfl⟩ := cut4 hc
    obtain ⟨src', hs, hb', hn'⟩ := hb.lo bty .i64 (n := 4) (by simp)
    have g : Keep A H (H ++ [.cells 73 .vr []]) := .app A _ _
    have hH1 := (Grows.app H [.cells 73 .vr []]).at hH
    exact ⟨_, int32_good R hH hb hs (BytesAt.one' hb').1 (BytesAt.one' hb').2, RdAt.good R.no hH1 (hb'.keep g) (fun _ => hn' (.inl (by omega))), g.trans (RH_keep R.no _ _)⟩
  bad A H rb nn st R h hd := by
    obtain ⟨src, b, hH, hl, _⟩ := RdAt.cell h
    exact ⟨_, int32_short hH hl (rdI_none (by omega) hd), RdAt.bad hH, RH_keep R.no _ _⟩
end Go.Proofs.YtiifcfngbbhgoagDoor.Rd

namespace Go.Proofs.YtiifcfngbbhgoagDoor.Rd
open Go Go.Proofs.YtiifcfngbbhgoagDoor.Ax Go.Proofs.YtiifcfngbbhgoagDoor.Wire
set_option maxRecDepth 100000
set_option maxHeartbeats 1000000
theorem span_short {H : Heap} {rb : Nat} {src : AV} {bad : Bool} {n l : Int} (hH : H[rb]? = some (.cells tR .vr [src, .b bad])) (hlen : lenA P 22 src = some (.i .i64 n)) (hl : n < l ∨ l < 0) :
    CA P NS 31 [.p rb 0, .i .i64 l] H (.s0, RH H rb .s0 true) := by
  have l0 := rd_src hH
  have s1 := st_bad hH
  have s2 : storeA P (RH H rb src true) 22 (.p rb 0) .s0 = some (RH H rb .s0 true) := by rw [st_src (RH_at hH _ _) rfl rfl, RH_RH]
  by_cases hx : n < l
  · have hc : binA P .lss 3 false (.i .i64 n) (.i .i64 l) = some (.b true) := by rw [lss]; simp [hx]
    have hc2 : binA P .lss 3 true (.i .i64 l) (.i .i64 0) = some (.b (decide (l < 0))) := lss _ _ _ _ _
    generalize decide (l < 0) = z at hc2
    refine CA.go (fn := Tryd.f31) (vs := [_]) (by kernel_rfl) rfl (.inr rfl) ?_
    apply Exists.intro
    apply And.intro
    · dsimp only [Tryd.f31]
      dsimp only [List.length_cons, List.length_nil, List.cons_append, List.nil_append, Nat.reduceSub, Nat.reduceAdd, List.replicate]
      refine RU.seq RU.rg ?_
      (apply RU.seqx; rotate_left; focus (simp)); refine RU.seq RU.rg ?_; apply RU.condT rfl
      refine RU.seq RU.rg ?_
      refine RU.seq RU.rg ?_
      refine RU.seq RU.rg ?_
      exact RU.ret
    · rfl
  · have hc : binA P .lss 3 false (.i .i64 n) (.i .i64 l) = some (.b false) := by rw [lss]; simp [hx]
    have hc2 : binA P .lss 3 true (.i .i64 l) (.i .i64 0) = some (.b true) := by rw [lss]; simp; omega
    refine CA.go (fn := Tryd.f31) (vs := [_]) (by kernel_rfl) rfl (.inr rfl) ?_
    apply Exists.intro
    apply And.intro
    · dsimp only [Tryd.f31]
      dsimp only [List.length_cons, List.length_nil, List.cons_append, List.nil_append, Nat.reduceSub, Nat.reduceAdd, List.replicate]
      refine RU.seq RU.rg ?_
      (apply RU.seqx; rotate_left; focus (simp)); refine RU.seq RU.rg ?_; apply RU.condT rfl
      refine RU.seq RU.rg ?_
      refine RU.seq RU.rg ?_
      refine RU.seq RU.rg ?_
      exact RU.ret
    · rfl
theorem span_ok {H : Heap} {rb : Nat} {src src' av : AV} {bad : Bool} {n l : Int} (hH : H[rb]? = some (.cells tR .vr [src, .b bad])) (hlen : lenA P 22 src = some (.i .i64 n)) (hl : ¬ n < l) (hl0 : ¬ l < 0)
    (hm : sliceMaxA P 22 src (.i .i64 l) (.i .i64 l) = some av) (hs : sliceA P 22 src (some (.i .i64 l)) none = some src') (hs1 : src'.cells = [src']) (hs2 : src'.one = true) :
    CA P NS 31 [.p rb 0, .i .i64 l] H (av, RH H rb src' bad) := by
  have l0 := rd_src hH
  have s1 := st_src hH hs1 hs2
  have hc : binA P .lss 3 false (.i .i64 n) (.i .i64 l) = some (.b false) := by rw [lss]; simp [hl]
  have hc2 : binA P .lss 3 true (.i .i64 l) (.i .i64 0) = some (.b false) := by rw [lss]; simp [hl0]
  refine CA.go (fn := Tryd.f31) (vs := [_]) (by kernel_rfl) rfl (.inr rfl) ?_
  apply Exists.intro
  apply And.intro
  · dsimp only [Tryd.f31]
    dsimp only [List.length_cons, List.length_nil, List.cons_append, List.nil_append, Nat.reduceSub, Nat.reduceAdd, List.replicate]
    refine RU.seq RU.rg ?_
    refine RU.seq (RU.seq RU.rg (RU.condF rfl RU.skip)) ?_
    refine RU.seq RU.rg ?_
    refine RU.seq RU.rg ?_
    refine RU.seq RU.rg ?_
    exact RU.ret
  · rfl
theorem rd_span_good {A : Nat → Prop} {H : Heap} {rb : Nat} {nn : Bool} {bs h r : B} {l : Int} (R : Room A H rb) (h0 : RdAt A tR H rb nn (some bs)) (hd : rdS l bs = some (h, r)) :
    ∃ av H', CA P NS 31 [.p rb 0, .i .i64 l] H (av, H') ∧ BytesAt A H' av h ∧ (nn = true → av ≠ .s0) ∧ RdAt A tR H' rb nn (some r) ∧ Keep A H H' := by
  obtain ⟨src, hH, hb, hn⟩ := h0
  obtain ⟨n, rfl, hle, rfl, rfl⟩ := rdS_some hd
  obtain ⟨av, hm, hb1, hn1⟩ := hb.max bty .i64 .i64 hle
  obtain ⟨src', hs, hb2, hn2⟩ := hb.lo bty .i64 hle
  exact ⟨av, _, span_ok hH (hb.len bty) (by omega) (by omega) hm hs (BytesAt.one' hb2).1 (BytesAt.one' hb2).2, hb1.keep (RH_keep R.no _ _), fun x => hn1 (hn x), RdAt.good R.no hH hb2 (fun x => hn2 (.inr (hn x))), RH_keep R.no _ _⟩
theorem rd_span_bad {A : Nat → Prop} {H : Heap} {rb : Nat} {nn : Bool} {st : Option B} {l : Int} (R : Room A H rb) (h0 : RdAt A tR H rb nn st) (hd : st.bind (rdS l) = none) :
    ∃ H', CA P NS 31 [.p rb 0, .i .i64 l] H (.s0, H') ∧ RdAt A tR H' rb true none ∧ Keep A H H' := by
  obtain ⟨src, b, hH, hl, hn⟩ := RdAt.cell h0
  by_cases hx : ((st.getD []).length : Int) < l ∨ l < 0
  · exact ⟨_, span_short hH hl hx, RdAt.bad hH, RH_keep R.no _ _⟩
  · cases st with
    | some bs => exact absurd hd (by simp only [Option.bind_some]; intro h; exact hx (rdS_none h))
    | none =>
      simp at hx
      obtain rfl : l = 0 := by omega
      have hH' : H[rb]? = some (.cells tR .vr [.s0, .b true]) := h0
      refine ⟨_, span_ok hH' (n := 0) (by kernel_rfl) (by omega) (by omega) (av := .s0) (src' := .s0) (by kernel_rfl) (by kernel_rfl) rfl rfl, RdAt.bad hH, RH_keep R.no _ _⟩
theorem rd_ok {A : Nat → Prop} {H : Heap} {rb : Nat} {nn : Bool} {st : Option B} (h0 : RdAt A tR H rb nn st) : CA P NS 34 [.p rb 0] H (.b st.isSome, H) := by
  cases st with
  | none =>
    have hH : H[rb]? = some (.cells tR .vr [.s0, .b true]) := h0
    have l0 := rd_bad hH
    refine CA.go (fn := Tryd.f34) (vs := [_]) (by kernel_rfl) rfl (.inr rfl) ?_
    apply Exists.intro
    apply And.intro
    · dsimp only [Tryd.f34]
      dsimp only [List.length_cons, List.length_nil, List.cons_append, List.nil_append, Nat.reduceSub, Nat.reduceAdd, List.replicate]
      refine RU.seq RU.rg ?_
      refine RU.seq RU.rg ?_
      exact RU.ret
    · rfl
  | some bs =>
    obtain ⟨src, hH, _, _⟩ := h0
    have l0 := rd_bad hH
    refine CA.go (fn := Tryd.f34) (vs := [_]) (by kernel_rfl) rfl (.inr rfl) ?_
    apply Exists.intro
    apply And.intro
    · dsimp only [Tryd.f34]
      dsimp only [List.length_cons, List.length_nil, List.cons_append, List.nil_append, Nat.reduceSub, Nat.reduceAdd, List.replicate]
      refine RU.seq RU.rg ?_
      refine RU.seq RU.rg ?_
      exact RU.ret
    · rfl
theorem rd_done_good {A : Nat → Prop} {H : Heap} {rb : Nat} {nn : Bool} {bs : B} (h0 : RdAt A tR H rb nn (some bs)) : CA P NS 35 [.p rb 0] H (.n, H) := by
  obtain ⟨src, hH, _, _⟩ := h0
  have l0 := rd_bad hH
  refine CA.go (fn := Tryd.f35) (vs := [_]) (by kernel_rfl) rfl (.inr rfl) ?_
  apply Exists.intro
  apply And.intro
  · dsimp only [Tryd.f35]
    dsimp only [List.length_cons, List.length_nil, List.cons_append, List.nil_append, Nat.reduceSub, Nat.reduceAdd, List.replicate]
    refine RU.seq RU.rg ?_
    refine RU.seq (RU.seq RU.rg (RU.condF rfl RU.skip)) ?_
    refine RU.seq RU.rg ?_
    exact RU.ret
  · rfl
theorem rd_done_bad {A : Nat → Prop} {H : Heap} {rb : Nat} {nn : Bool} (R : Room A H rb) (h0 : RdAt A tR H rb nn none) : CA P NS 35 [.p rb 0] H (.e, H) := by
  have hH : H[rb]? = some (.cells tR .vr [.s0, .b true]) := h0
  have l0 := rd_bad hH
  have l1 := R.ldErr
  refine CA.go (fn := Tryd.f35) (vs := [_]) (by kernel_rfl) rfl (.inr rfl) ?_
  apply Exists.intro
  apply And.intro
  · dsimp only [Tryd.f35]
    dsimp only [List.length_cons, List.length_nil, List.cons_append, List.nil_append, Nat.reduceSub, Nat.reduceAdd, List.replicate]
    refine RU.seq RU.rg ?_
    (apply RU.seqx; rotate_left; focus (simp)); refine RU.seq RU.rg ?_; apply RU.condT rfl
    refine RU.seq RU.rg ?_
    exact RU.ret
  · rfl
end Go.Proofs.YtiifcfngbbhgoagDoor.Rd

