/-
  STEPS, each found by the tactic that its law bears.
-/
import Derived.Test.YtdoaobkfbjegpaaQRdNs
import Derived.Test.YtdoaobkfbjegpaaQWireB
set_option linter.constructorNameAsVariable false
set_option linter.unusedVariables false
set_option linter.unusedSimpArgs false
namespace Go.Proofs.Ytdoaobkfbjegpaa.Rd
open Go Go.Proofs.Ytdoaobkfbjegpaa.Ax Go.Proofs.Ytdoaobkfbjegpaa.Wire
theorem elemBs : (elemA P 28).isSome = true := by kernel_rfl
theorem strU : P.underlying 9 = some .string := by kernel_rfl
section
variable {S : CallA} {fr fr1 : List AV} {H H1 : Heap} {ops : Array Oper} {l : List Oper} {v : AV}
theorem opx {o : Op} (h : opA P o fr H = some (v, H1) := by first | exact op_move rfl | exact op_assign rfl | exact op_nilCheck rfl | exact op_fieldAddr rfl (fr0 _ _) | exact op_fieldAddr rfl (fr1' _) | exact op_fieldAddr rfl (by with_reducible assumption) | exact op_load rfl (by with_reducible assumption) | exact op_indexAddr rfl rfl (by with_reducible assumption) | exact op_conv rfl (by first | with_reducible assumption | exact conv8_16 _ | exact conv8_32 _ | exact conv8_64 _) | exact op_len rfl (by with_reducible assumption) | exact op_lenM rfl rfl (by with_reducible assumption) | exact op_bin (c := true) rfl rfl rfl (by with_reducible assumption) | exact op_bin (c := false) rfl rfl rfl (by with_reducible assumption) | exact op_box rfl rfl | exact op_alloc (by with_reducible assumption) rfl | exact op_store rfl rfl (by with_reducible assumption) | exact op_un rfl rfl | exact op_pickT rfl rfl | exact op_pickF rfl rfl | exact op_extract rfl rfl | exact op_sliceLo rfl rfl (by with_reducible assumption) | exact op_sliceHi rfl rfl (by with_reducible assumption) | exact op_sliceMax rfl rfl rfl (by with_reducible assumption) | exact op_sliceArr rfl (by with_reducible assumption) | exact op_buildSlice rfl (by with_reducible assumption) | exact op_append rfl rfl rfl elemBs rfl (by with_reducible assumption) | exact op_append rfl rfl rfl elemBs (by with_reducible assumption) (by with_reducible assumption) | exact op_appendS rfl rfl strU (by with_reducible assumption) | exact op_copy rfl rfl (by with_reducible assumption) | exact op_makeMap (by with_reducible assumption) | exact op_mapUpdate rfl rfl rfl (by with_reducible assumption) | exact op_func rfl rfl | exact op_field rfl (by with_reducible assumption) | exact op_index rfl rfl (by with_reducible assumption) | exact op_index rfl rfl (by assumption) | exact op_convS rfl (by with_reducible assumption) (by with_reducible assumption)) : opA P o fr H = some (v, H1) := h
theorem OS.st {o : Oper} {r : List AV × Heap} (hg : wantA ops fr o.guard = some true) (hc : isCall o.op = false) (h2 : OS P S ops l (putA fr o.dst v) H1 r) (h1 : opA P o.op fr H = some (v, H1) := by exact opx) : OS P S ops (o :: l) fr H r := OS.opg hg hc h1 h2
theorem OS.cl {d : Option Tmp} {f : Operand} {args : Array Operand} {ats : Array TypeId} {ty : TypeId} {pos : String} {af : Array Edge} {gd : Option (Nat × Bool)} {r : List AV × Heap} {g : FuncId} {as_ : List AV} (hg : wantA ops fr gd = some true) (hf : ev fr f = some (.fn g [])) (ha : evl fr args.toList = some as_)
    (h2 : OS P S ops l (putA fr d v) H1 r) (h1 : CA P S g as_ H (v, H1) := by with_reducible assumption) : OS P S ops (⟨d, .call { callee := .value f, args := args, argTypes := ats }, ty, pos, af, gd⟩ :: l) fr H r := by
  obtain ⟨n1, k1⟩ := h1
  obtain ⟨n2, k2⟩ := h2
  refine ⟨max n1 n2, fun n hn => ?_⟩
  have k1' := k1 n (by omega)
  rw [← List.append_nil as_] at k1'
  simp only [opsA, hg, oneOp, hf, ha, k1', k2 n (by omega)]
theorem OS.iv {d : Option Tmp} {x : Operand} {name : String} {args : Array Operand} {ats : Array TypeId} {ty : TypeId} {pos : String} {af : Array Edge} {r : List AV × Heap} {g : FuncId} {t : TypeId} {i o : Nat} {as_ : List AV} (hx : ev fr x = some (.ip t i o)) (ha : evl fr args.toList = some as_)
    (h2 : OS P S ops l (putA fr d v) H1 r) (hm : metA P t name = some g := by with_reducible assumption) (h1 : CA P S g (.p i o :: as_) H (v, H1) := by with_reducible assumption) : OS P S ops (⟨d, .call { callee := .invoke x name, args := args, argTypes := ats }, ty, pos, af, none⟩ :: l) fr H r := OS.inv hx ha hm h1 h2
theorem RU.rg {id : Nat} (h : OS P S ops ops.toList fr H (fr1, H1) := by repeat (first | with_reducible exact OS.nil | (refine OS.st rfl rfl ?_; dsimp only [AV.cells, putA, List.set_cons_zero, List.set_cons_succ]) | (refine OS.skip rfl ?_; dsimp only [AV.cells, putA, List.set_cons_zero, List.set_cons_succ]) | (refine OS.cl rfl rfl rfl ?_; dsimp only [AV.cells, putA, List.set_cons_zero, List.set_cons_succ]) | (refine OS.iv rfl rfl ?_; dsimp only [AV.cells, putA, List.set_cons_zero, List.set_cons_succ]))) : RU P S (.region id ops false) fr H (.normal, fr1, H1) := RU.region h
theorem OG.st {call : CallA} {o : Oper} {r : List AV × Heap} (hg : o.guard = none) (hc : isCall o.op = false) (t : OG P call l (putA fr o.dst v) H1 r) (h : opA P o.op fr H = some (v, H1) := by exact opx) (g : Grows H H1 := by first | exact .refl _ | exact .app _ _ | with_reducible assumption) : OG P call (o :: l) fr H r := OG.pure hg hc h g t
theorem OG.cl {call : CallA} {d : Option Tmp} {f : Operand} {args : Array Operand} {ats : Array TypeId} {ty : TypeId} {pos : String} {af : Array Edge} {r : List AV × Heap} {g : FuncId} {as_ : List AV}
    (hf : ev fr f = some (.fn g [])) (ha : evl fr args.toList = some as_) (t : OG P call l (putA fr d v) H1 r) (h1 : call g as_ H = some (v, H1) := by with_reducible assumption) (gr : Grows H H1 := by with_reducible assumption) : OG P call (⟨d, .call { callee := .value f, args := args, argTypes := ats }, ty, pos, af, none⟩ :: l) fr H r := OG.call0 hf ha h1 gr t
theorem RU.dr {id : Nat} {n0 : Nat} {g : FuncId} {as_ : List AV} {Hc : Heap} {rc : AV × Heap} (hcall : ∀ k, n0 ≤ k → run P S k g as_ Hc = some rc) (hok : drawOk P ops = true := by kernel_rfl) (h : ∀ k, run P S k g as_ Hc = some rc → OG P (run P S k) ops.toList fr H (fr1, H1) := by intro k hcall; repeat (first | with_reducible exact OG.nil | (refine OG.st rfl rfl ?_; dsimp only [AV.cells, putA, List.set_cons_zero, List.set_cons_succ]) | (refine OG.cl rfl rfl ?_; dsimp only [AV.cells, putA, List.set_cons_zero, List.set_cons_succ]))) : RU P S (.region id ops true) fr H (.normal, fr1, H1) := RU.drawn hok (n0 := n0) fun k hk => h k (hcall k hk)
theorem RU.d0 {id : Nat} (hok : drawOk P ops = true := by kernel_rfl) (h : ∀ k, OG P (run P S k) ops.toList fr H (fr1, H1) := by intro k; repeat (first | with_reducible exact OG.nil | (refine OG.st rfl rfl ?_; dsimp only [AV.cells, putA, List.set_cons_zero, List.set_cons_succ]))) : RU P S (.region id ops true) fr H (.normal, fr1, H1) := RU.drawn hok (n0 := 0) fun k _ => h k
end
end Go.Proofs.Ytdoaobkfbjegpaa.Rd

namespace Go.Proofs.Ytdoaobkfbjegpaa.Rd
open Go Go.Proofs.Ytdoaobkfbjegpaa.Ax Go.Proofs.Ytdoaobkfbjegpaa.Wire
set_option maxRecDepth 100000
theorem or_add {w a b n : Nat} (hb : b < 2 ^ n) (h : a * 2 ^ n + b < 2 ^ w) : (BitVec.ofInt w (b : Int) ||| BitVec.ofInt w ((a * 2 ^ n : Nat) : Int)).toNat = a * 2 ^ n + b := by
  have h1 : BitVec.ofInt w ((b : Nat) : Int) = BitVec.ofNat w b := BitVec.ofInt_natCast w b
  have h2 : BitVec.ofInt w ((a * 2 ^ n : Nat) : Int) = BitVec.ofNat w (a * 2 ^ n) := BitVec.ofInt_natCast w _
  rw [h1, h2, BitVec.toNat_or, BitVec.toNat_ofNat, BitVec.toNat_ofNat, Nat.mod_eq_of_lt (by omega), Nat.mod_eq_of_lt (by omega), Nat.or_comm, ← Nat.shiftLeft_eq, ← Nat.shiftLeft_add_eq_or_of_lt hb]
theorem shl16 (t : TypeId) (c : Bool) (a : UInt8) : binA P .shl t c (.i .u16 (a.toNat : Int)) (.i .u64 8) = some (.i .u16 ((a.toNat * 2 ^ 8 : Nat) : Int)) := by
  have := u8_lt a
  have e : IntKind.u16.wrap ((a.toNat : Int) * 2 ^ 8) = ((a.toNat * 2 ^ 8 : Nat) : Int) := by simp [IntKind.wrap, IntKind.signed, IntKind.bits]; omega
  show ofSem (Op.shift .shl .u16 (a.toNat : Int) .u64 8) = _
  rw [show Op.shift .shl .u16 (a.toNat : Int) .u64 8 = pure (.int .u16 (IntKind.u16.wrap ((a.toNat : Int) * 2 ^ 8))) from rfl, e]
  rfl
theorem conv8_16 (a : UInt8) : convA P 5 23 (U8 a) = some (.i .u16 (a.toNat : Int)) := by
  have := u8_lt a
  have e : convA P 5 23 (U8 a) = some (.i .u16 (IntKind.u16.wrap (a.toNat : Int))) := by kernel_rfl
  rw [e]
  simp [IntKind.wrap, IntKind.signed, IntKind.bits]; omega
theorem conv8_32 (a : UInt8) : convA P 5 37 (U8 a) = some (.i .u32 (a.toNat : Int)) := by
  have := u8_lt a
  have e : convA P 5 37 (U8 a) = some (.i .u32 (IntKind.u32.wrap (a.toNat : Int))) := by kernel_rfl
  rw [e]
  simp [IntKind.wrap, IntKind.signed, IntKind.bits]; omega
theorem conv8_64 (a : UInt8) : convA P 5 30 (U8 a) = some (.i .u64 (a.toNat : Int)) := by
  have := u8_lt a
  have e : convA P 5 30 (U8 a) = some (.i .u64 (IntKind.u64.wrap (a.toNat : Int))) := by kernel_rfl
  rw [e]
  simp [IntKind.wrap, IntKind.signed, IntKind.bits]; omega
end Go.Proofs.Ytdoaobkfbjegpaa.Rd

namespace Go.Proofs.Ytdoaobkfbjegpaa.Rd
open Go Go.Proofs.Ytdoaobkfbjegpaa.Ax Go.Proofs.Ytdoaobkfbjegpaa.Wire
set_option maxRecDepth 100000
def RH (H : Heap) (rb : Nat) (src : AV) (bad : Bool) : Heap := H.set rb (.cells tR .vr [src, .b bad])
theorem RH_at {H : Heap} {rb : Nat} {b : Blk} (h : H[rb]? = some b) (src : AV) (bad : Bool) : (RH H rb src bad)[rb]? = some (.cells tR .vr [src, .b bad]) := by
  unfold RH
  rw [List.getElem?_set_self (List.getElem?_eq_some_iff.1 h).1]
theorem RH_RH (H : Heap) (rb : Nat) (s : AV) (b : Bool) (s' : AV) (b' : Bool) : RH (RH H rb s b) rb s' b' = RH H rb s' b' := by
  unfold RH
  rw [List.set_set]
theorem RH_keep {A : Nat → Prop} {H : Heap} {rb : Nat} (h : ¬ A rb) (s : AV) (b : Bool) : Keep A H (RH H rb s b) := Keep.set h _
section
variable {H : Heap} {rb : Nat} {src : AV} {bad : Bool}
theorem rd_src (h : H[rb]? = some (.cells tR .vr [src, .b bad])) : loadA P H 28 (.p rb 0) = some src := by simp [loadA, loadAt, h, aggB]
theorem rd_bad (h : H[rb]? = some (.cells tR .vr [src, .b bad])) : loadA P H 4 (.p rb 1) = some (.b bad) := by simp [loadA, loadAt, h, aggb]
theorem st_src (h : H[rb]? = some (.cells tR .vr [src, .b bad])) {v : AV} (hc : v.cells = [v]) (h1 : v.one = true) : storeA P H 28 (.p rb 0) v = some (RH H rb v bad) := by
  simp [storeA, h, sizeB, Kn.own, hc, h1, over, RH]
theorem st_bad (h : H[rb]? = some (.cells tR .vr [src, .b bad])) : storeA P H 4 (.p rb 1) (.b true) = some (RH H rb src true) := by
  simp [storeA, h, sizeb, Kn.own, AV.cells, AV.one, over, RH]
end
theorem BytesAt.one' {A : Nat → Prop} {H : Heap} {av : AV} {bs : B} (h : BytesAt A H av bs) : av.cells = [av] ∧ av.one = true := by cases h <;> exact ⟨rfl, rfl⟩
structure Room (A : Nat → Prop) (H : Heap) (rb : Nat) : Prop where
  no : ¬ A rb
  new : ∀ i, H.length ≤ i → A i
theorem Room.keep {A : Nat → Prop} {H H' : Heap} {rb : Nat} (h : Room A H rb) (k : Keep A H H') : Room A H' rb where
  no := h.no
  new := fun i hi => h.new i (Nat.le_trans k.1 hi)
theorem Room.app {A : Nat → Prop} {H : Heap} {rb : Nat} (h : Room A H rb) (K : Heap) : Room A (H ++ K) rb := h.keep (Keep.app A H K)
theorem RdAt.cell {A : Nat → Prop} {H : Heap} {rb : Nat} {nn : Bool} {st : Option B} (h : RdAt A tR H rb nn st) : ∃ src bad, H[rb]? = some (.cells tR .vr [src, .b bad]) ∧ lenA P 28 src = some (.i .i64 ((st.getD []).length : Nat)) ∧ (st = none → src = .s0) := by
  cases st with
  | none => exact ⟨.s0, true, h, by kernel_rfl, fun _ => rfl⟩
  | some bs =>
    obtain ⟨src, h1, h2, _⟩ := h
    exact ⟨src, false, h1, h2.len bty, fun h => by cases h⟩
theorem RdAt.bad {A : Nat → Prop} {H : Heap} {rb : Nat} {b : Blk} (h : H[rb]? = some b) : RdAt A tR (RH H rb .s0 true) rb true none := RH_at h _ _
theorem RdAt.good {A : Nat → Prop} {H : Heap} {rb : Nat} {b : Blk} {src : AV} {bs : B} {nn : Bool} (hA : ¬ A rb) (h : H[rb]? = some b) (hb : BytesAt A H src bs) (hn : nn = true → src ≠ .s0) : RdAt A tR (RH H rb src false) rb nn (some bs) :=
  ⟨src, RH_at h _ _, hb.keep (RH_keep hA _ _), hn⟩
structure RdN (f : FuncId) (kd : IntKind) (d : B → Option (Int × B)) : Prop where
  good : ∀ (A : Nat → Prop) (H : Heap) (rb : Nat) (nn : Bool) (bs : B) (n : Int) (r : B), Room A H rb → RdAt A tR H rb nn (some bs) → d bs = some (n, r) →
    ∃ H', CA P NS f [.p rb 0] H (.i kd n, H') ∧ RdAt A tR H' rb true (some r) ∧ Keep A H H'
  bad : ∀ (A : Nat → Prop) (H : Heap) (rb : Nat) (nn : Bool) (st : Option B), Room A H rb → RdAt A tR H rb nn st → st.bind d = none →
    ∃ H', CA P NS f [.p rb 0] H (.i kd 0, H') ∧ RdAt A tR H' rb true none ∧ Keep A H H'
theorem rdS_some {l : Int} {bs h r : B} (e : rdS l bs = some (h, r)) : ∃ n : Nat, l = n ∧ n ≤ bs.length ∧ h = bs.take n ∧ r = bs.drop n := by
  unfold rdS cut at e
  split at e
  · cases e
  · split at e
    · simp at e
      exact ⟨l.toNat, by omega, by assumption, e.1.symm, e.2.symm⟩
    · cases e
theorem rdS_none {l : Int} {bs : B} (e : rdS l bs = none) : ((bs.length : Nat) : Int) < l ∨ l < 0 := by
  unfold rdS cut at e
  split at e
  · right; assumption
  · split at e
    · cases e
    · left; omega
end Go.Proofs.Ytdoaobkfbjegpaa.Rd

namespace Go.Proofs.Ytdoaobkfbjegpaa.Wire
inductive Ev where
  | leaf (k : K) (null : Bool)
  | list (sz : Nat) (null : Bool) (e : F)
  | tags
  deriving DecidableEq, Repr
def Ev.wide : Ev → Nat
  | .leaf k _ => k.wide
  | _ => 1
def Ev.node : Ev → Nat → F → F
  | .leaf k n, o, r => .leaf o k n r
  | .list sz n e, o, r => .list o sz n e r
  | .tags, o, r => .tags o r
def Ev.dec (flex : Bool) : Ev → B → Option (V × B)
  | .leaf k n, bs => decK flex k n bs
  | .list _ n e, bs => (rdL flex bs).bind fun (l, bs) => if n && l < 0 then some (V.nul, bs) else (many (Wire.dec flex e) l.toNat bs).map fun (vs, bs) => (V.l vs, bs)
  | .tags, bs => (rdV bs).bind fun (n, bs) => (decT n [] bs).map fun (ts, bs) => (V.t ts, bs)
def Ev.enc (flex : Bool) : Ev → V → B
  | .leaf k _, v => encK flex k v
  | .list _ _ e, .l vs => cnt flex 4 vs.length ++ vs.flatMap (Wire.enc flex e)
  | .list _ _ _, _ => cnt0 flex 4
  | .tags, .t ts => uv ts.length ++ encT ts
  | .tags, _ => []
def nodes : List (Ev × Nat) → F
  | [] => .nil
  | (e, o) :: r => e.node o (nodes r)
def packV : List V → V
  | [] => .u
  | v :: r => .c v (packV r)
def runE (flex : Bool) : List Ev → B → Option (List V × B)
  | [], bs => some ([], bs)
  | e :: r, bs => (e.dec flex bs).bind fun (v, bs) => (runE flex r bs).map fun (vs, bs) => (v :: vs, bs)
theorem dec_node (flex : Bool) (e : Ev) (o : Nat) (r : F) (bs : B) : dec flex (e.node o r) bs = (e.dec flex bs).bind fun (v, bs) => (dec flex r bs).map fun (w, bs) => (V.c v w, bs) := by
  cases e with
  | leaf k n => rfl
  | list sz n f => simp only [Ev.node, dec, Ev.dec, Option.bind_assoc]
  | tags =>
    simp only [Ev.node, dec, Ev.dec]
    cases rdV bs with
    | none => rfl
    | some p =>
      simp only [Option.bind_some]
      cases decT p.1 [] p.2 <;> rfl
theorem dec_nodes (flex : Bool) : ∀ (l : List (Ev × Nat)) (bs : B), dec flex (nodes l) bs = (runE flex (l.map (·.1)) bs).map fun (vs, r) => (packV vs, r)
  | [], bs => rfl
  | (e, o) :: r, bs => by
    simp only [nodes, dec_node, List.map_cons, runE]
    cases e.dec flex bs with
    | none => rfl
    | some p =>
      simp only [Option.bind_some, dec_nodes flex r, Option.map_map]
      rfl
theorem runE_app (flex : Bool) : ∀ (a b : List Ev) (bs : B), runE flex (a ++ b) bs = (runE flex a bs).bind fun (vs, r) => (runE flex b r).map fun (us, r) => (vs ++ us, r)
  | [], b, bs => by simp [runE]
  | e :: a, b, bs => by
    simp only [List.cons_append, runE]
    cases e.dec flex bs with
    | none => rfl
    | some p =>
      simp only [Option.bind_some, runE_app flex a b]
      cases runE flex a p.2 with
      | none => rfl
      | some q =>
        simp only [Option.bind_some, Option.map_some, Option.map_map]
        rfl
theorem runE_length {flex : Bool} : ∀ {l : List Ev} {bs r : B} {vs : List V}, runE flex l bs = some (vs, r) → vs.length = l.length
  | [], bs, r, vs, h => by simp [runE] at h; rw [h.1]; rfl
  | e :: l, bs, r, vs, h => by
    simp only [runE] at h
    cases hd : e.dec flex bs with
    | none => rw [hd] at h; cases h
    | some p =>
      rw [hd] at h
      simp only [Option.bind_some, Option.map_eq_some_iff] at h
      obtain ⟨⟨us, r1⟩, h1, h2⟩ := h
      simp at h2
      rw [← h2.1, List.length_cons, List.length_cons, runE_length h1]
theorem runE_snoc (flex : Bool) (a : List Ev) (e : Ev) (bs : B) : runE flex (a ++ [e]) bs = (runE flex a bs).bind fun (vs, r) => (e.dec flex r).map fun (v, r) => (vs ++ [v], r) := by
  rw [runE_app]
  cases runE flex a bs with
  | none => rfl
  | some q =>
    simp only [Option.bind_some, runE]
    cases e.dec flex q.2 <;> simp [runE]
theorem enc_node {flex : Bool} (e : Ev) (o : Nat) (r : F) (v w : V) (h : ∀ (_ : e = .tags), ∃ ts, v = .t ts) : enc flex (e.node o r) (.c v w) = e.enc flex v ++ enc flex r w := by
  cases e with
  | leaf k n => rfl
  | list sz n f => cases v <;> rfl
  | tags =>
    obtain ⟨ts, rfl⟩ := h rfl
    rfl
theorem many_snoc {d : B → Option (V × B)} : ∀ (n : Nat) (bs : B), many d (n + 1) bs = (many d n bs).bind fun (us, r) => (d r).map fun (v, r) => (us ++ [v], r)
  | 0, bs => by
    simp only [many, Option.bind_some]
    cases d bs <;> simp
  | n + 1, bs => by
    conv => lhs; unfold many
    conv => rhs; unfold many
    cases hd : d bs with
    | none => rfl
    | some p =>
      simp only [Option.bind_some, many_snoc n]
      cases many d n p.2 with
      | none => rfl
      | some q =>
        simp only [Option.bind_some, Option.map_some]
        cases d q.2 <;> simp
theorem many_none {d : B → Option (V × B)} {n : Nat} {bs : B} (h : many d n bs = none) : ∀ k, many d (n + k) bs = none
  | 0 => h
  | k + 1 => by
    have := many_none h k
    show many d ((n + k) + 1) bs = none
    rw [many_snoc, this]; rfl
theorem many_length {d : B → Option (V × B)} : ∀ (n : Nat) {bs r : B} {vs : List V}, many d n bs = some (vs, r) → vs.length = n := fun n _ _ _ h => (many_ok n h).1
theorem runE_more {flex : Bool} {a : List Ev} {bs : B} (h : runE flex a bs = none) (b : List Ev) : runE flex (a ++ b) bs = none := by rw [runE_app, h]; rfl
end Go.Proofs.Ytdoaobkfbjegpaa.Wire

