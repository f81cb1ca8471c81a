/-
  THE ABSTRACT MACHINE: rules for its runs, whatever the fuel.
-/
import Derived.Test.YtiifcfngbbhgoagDoorQa
import Derived.Test.YtiifcfngbbhgoagDoorQWireB
set_option linter.constructorNameAsVariable false
set_option linter.unusedVariables false
set_option linter.unusedSimpArgs false
namespace Go.Proofs.YtiifcfngbbhgoagDoor.Ax
open Go
section
variable {P : Program} {S : CallA}
def CA (P : Program) (S : CallA) (f : FuncId) (args : List AV) (H : Heap) (r : AV × Heap) : Prop := ∃ n0, ∀ n, n0 ≤ n → run P S n f args H = some r
def RU (P : Program) (S : CallA) (c : Code) (fr : List AV) (H : Heap) (r : AX × List AV × Heap) : Prop := ∃ n0, ∀ n, n0 ≤ n → exec P S (drawA P) n c fr H = some r
def OS (P : Program) (S : CallA) (ops : Array Oper) (l : List Oper) (fr : List AV) (H : Heap) (r : List AV × Heap) : Prop := ∃ n0, ∀ n, n0 ≤ n → opsA P (run P S n) ops l fr H = some r
theorem RU.of {c : Code} {fr : List AV} {H : Heap} {r : AX × List AV × Heap} (h : ∀ n, exec P S (drawA P) (n + 1) c fr H = some r) : RU P S c fr H r :=
  ⟨1, fun n hn => by obtain ⟨m, rfl⟩ : ∃ m, n = m + 1 := ⟨n - 1, by omega⟩; exact h m⟩
theorem RU.of2 {c d : Code} {fr fr1 : List AV} {H H1 : Heap} {r r1 : AX × List AV × Heap} (h1 : RU P S d fr1 H1 r1) (h : ∀ n, exec P S (drawA P) n d fr1 H1 = some r1 → exec P S (drawA P) (n + 1) c fr H = some r) : RU P S c fr H r := by
  obtain ⟨n1, k1⟩ := h1
  refine ⟨n1 + 1, fun n hn => ?_⟩
  obtain ⟨m, rfl⟩ : ∃ m, n = m + 1 := ⟨n - 1, by omega⟩
  exact h m (k1 m (by omega))
theorem RU.skip {fr : List AV} {H : Heap} : RU P S .skip fr H (.normal, fr, H) := .of fun _ => rfl
theorem RU.ret {fr : List AV} {H : Heap} : RU P S .ret fr H (.ret, fr, H) := .of fun _ => rfl
theorem RU.exit {id : Nat} {fr : List AV} {H : Heap} : RU P S (.exit id) fr H (.exit id, fr, H) := .of fun _ => rfl
theorem RU.label {id : Nat} {fr : List AV} {H : Heap} : RU P S (.label id) fr H (.normal, fr, H) := .of fun _ => rfl
theorem RU.goto {id : Nat} {fr : List AV} {H : Heap} : RU P S (.goto id) fr H (.goto id, fr, H) := .of fun _ => rfl
theorem RU.seq {a b : Code} {fr fr1 : List AV} {H H1 : Heap} {r : AX × List AV × Heap} (h1 : RU P S a fr H (.normal, fr1, H1)) (h2 : RU P S b fr1 H1 r) : RU P S (.seq a b) fr H r := by
  obtain ⟨n1, k1⟩ := h1
  obtain ⟨n2, k2⟩ := h2
  refine ⟨max n1 n2 + 1, fun n hn => ?_⟩
  obtain ⟨m, rfl⟩ : ∃ m, n = m + 1 := ⟨n - 1, by omega⟩
  simp only [exec, k1 m (by omega), k2 m (by omega)]
theorem RU.seqx {a b : Code} {fr fr1 : List AV} {H H1 : Heap} {x : AX} (h1 : RU P S a fr H (x, fr1, H1)) (hx : x ≠ .normal) : RU P S (.seq a b) fr H (x, fr1, H1) :=
  .of2 h1 fun n h => by
    simp only [exec, h]
    cases x <;> first | rfl | exact absurd rfl hx
theorem RU.condT {c : Operand} {a b : Code} {fr : List AV} {H : Heap} {r : AX × List AV × Heap} (hc : ev fr c = some (.b true)) (h : RU P S a fr H r) : RU P S (.cond c a b) fr H r :=
  .of2 h fun n h => by simp only [exec, hc, h]
theorem RU.condF {c : Operand} {a b : Code} {fr : List AV} {H : Heap} {r : AX × List AV × Heap} (hc : ev fr c = some (.b false)) (h : RU P S b fr H r) : RU P S (.cond c a b) fr H r :=
  .of2 h fun n h => by simp only [exec, hc, h]
theorem RU.block {id : Nat} {b : Code} {fr fr1 : List AV} {H H1 : Heap} {x : AX} (h : RU P S b fr H (x, fr1, H1)) : RU P S (.block id b) fr H ((match x with | .exit j => if j = id then .normal else .exit j | x => x), fr1, H1) :=
  .of2 h fun n h => by
    simp only [exec, h]
    cases x with
    | exit j => simp only; split <;> rfl
    | _ => rfl
theorem RU.block0 {id : Nat} {b : Code} {fr fr1 : List AV} {H H1 : Heap} (h : RU P S b fr H (.exit id, fr1, H1)) : RU P S (.block id b) fr H (.normal, fr1, H1) := by
  have := RU.block (id := id) h
  simpa using this
theorem RU.blockN {id : Nat} {b : Code} {fr fr1 : List AV} {H H1 : Heap} (h : RU P S b fr H (.normal, fr1, H1)) : RU P S (.block id b) fr H (.normal, fr1, H1) := RU.block (id := id) h
theorem RU.blockR {id : Nat} {b : Code} {fr fr1 : List AV} {H H1 : Heap} (h : RU P S b fr H (.ret, fr1, H1)) : RU P S (.block id b) fr H (.ret, fr1, H1) := RU.block (id := id) h
theorem RU.loop {b : Code} {fr fr1 : List AV} {H H1 : Heap} {r : AX × List AV × Heap} (h1 : RU P S b fr H (.normal, fr1, H1)) (h2 : RU P S (.loop b) fr1 H1 r) : RU P S (.loop b) fr H r := by
  obtain ⟨n1, k1⟩ := h1
  obtain ⟨n2, k2⟩ := h2
  refine ⟨max n1 n2 + 1, fun n hn => ?_⟩
  obtain ⟨m, rfl⟩ : ∃ m, n = m + 1 := ⟨n - 1, by omega⟩
  simp only [exec, k1 m (by omega), k2 m (by omega)]
theorem RU.loopx {b : Code} {fr fr1 : List AV} {H H1 : Heap} {x : AX} (h1 : RU P S b fr H (x, fr1, H1)) (hx : x ≠ .normal) : RU P S (.loop b) fr H (x, fr1, H1) :=
  .of2 h1 fun n h => by
    simp only [exec, h]
    cases x <;> first | rfl | exact absurd rfl hx
theorem RU.scope {b : Code} {fr fr1 : List AV} {H H1 : Heap} {x : AX} (h : RU P S b fr H (x, fr1, H1)) (hx : ∀ l, x ≠ .goto l) : RU P S (.scope b) fr H (x, fr1, H1) :=
  .of2 h fun n h => by
    simp only [exec, h, jumpA]
    cases x <;> first | rfl | exact absurd rfl (hx _)
theorem RU.scope1 {b rest : Code} {l : Nat} {fr fr1 fr2 : List AV} {H H1 H2 : Heap} {x : AX} (h : RU P S b fr H (.goto l, fr1, H1)) (hl : findLabel b l = some rest) (h2 : RU P S rest fr1 H1 (x, fr2, H2)) (hx : ∀ l, x ≠ .goto l) : RU P S (.scope b) fr H (x, fr2, H2) := by
  obtain ⟨n1, k1⟩ := h
  obtain ⟨n2, k2⟩ := h2
  refine ⟨max n1 n2 + 1, fun n hn => ?_⟩
  obtain ⟨m, rfl⟩ : ∃ m, n = m + 1 := ⟨n - 1, by omega⟩
  simp only [exec, k1 m (by omega), jumpA, hl, k2 m (by omega)]
  cases x <;> first | rfl | exact absurd rfl (hx _)
theorem RU.region {id : Nat} {ops : Array Oper} {fr fr1 : List AV} {H H1 : Heap} (h : OS P S ops ops.toList fr H (fr1, H1)) : RU P S (.region id ops false) fr H (.normal, fr1, H1) := by
  obtain ⟨n1, k1⟩ := h
  refine ⟨n1 + 1, fun n hn => ?_⟩
  obtain ⟨m, rfl⟩ : ∃ m, n = m + 1 := ⟨n - 1, by omega⟩
  have := k1 m (by omega)
  simp only [run] at this
  simp [exec, this]
theorem OS.nil {ops : Array Oper} {fr : List AV} {H : Heap} : OS P S ops [] fr H (fr, H) := ⟨0, fun _ _ => rfl⟩
def isCall : Op → Bool
  | .call { callee := .value _, .. } => true
  | .call { callee := .invoke _ _, .. } => true
  | _ => false
theorem oneOp_pure {call : CallA} {o : Op} {fr : List AV} {H : Heap} (h : isCall o = false) : oneOp P call o fr H = opA P o fr H := by
  unfold oneOp
  split
  · simp [isCall] at h
  · simp [isCall] at h
  · rfl
theorem OS.op {ops : Array Oper} {o : Oper} {l : List Oper} {fr : List AV} {H H1 : Heap} {v : AV} {r : List AV × Heap} (hg : o.guard = none) (hc : isCall o.op = false) (h1 : opA P o.op fr H = some (v, H1)) (h2 : OS P S ops l (putA fr o.dst v) H1 r) : OS P S ops (o :: l) fr H r := by
  obtain ⟨n1, k1⟩ := h2
  refine ⟨n1, fun n hn => ?_⟩
  simp only [opsA, hg, wantA, oneOp_pure hc, h1, k1 n hn]
theorem OS.call {ops : Array Oper} {d : Option Tmp} {f : Operand} {args : Array Operand} {ats : Array TypeId} {ty : TypeId} {pos : String} {af : Array Edge} {l : List Oper} {fr : List AV} {H H1 : Heap} {v : AV} {r : List AV × Heap} {g : FuncId} {caps as_ : List AV}
    (hf : ev fr f = some (.fn g caps)) (ha : evl fr args.toList = some as_) (h1 : CA P S g (as_ ++ caps) H (v, H1)) (h2 : OS P S ops l (putA fr d v) H1 r) : OS P S ops (⟨d, .call { callee := .value f, args := args, argTypes := ats }, ty, pos, af, none⟩ :: l) fr H r := by
  obtain ⟨n1, k1⟩ := h1
  obtain ⟨n2, k2⟩ := h2
  refine ⟨max n1 n2, fun n hn => ?_⟩
  simp only [opsA, wantA, oneOp, hf, ha, k1 n (by omega), k2 n (by omega)]
theorem OS.inv {ops : Array Oper} {d : Option Tmp} {x : Operand} {name : String} {args : Array Operand} {ats : Array TypeId} {ty : TypeId} {pos : String} {af : Array Edge} {l : List Oper} {fr : List AV} {H H1 : Heap} {v : AV} {r : List AV × Heap} {g : FuncId} {t : TypeId} {i o : Nat} {as_ : List AV}
    (hx : ev fr x = some (.ip t i o)) (ha : evl fr args.toList = some as_) (hm : metA P t name = some g) (h1 : CA P S g (.p i o :: as_) H (v, H1)) (h2 : OS P S ops l (putA fr d v) H1 r) : OS P S ops (⟨d, .call { callee := .invoke x name, args := args, argTypes := ats }, ty, pos, af, none⟩ :: l) fr H r := by
  obtain ⟨n1, k1⟩ := h1
  obtain ⟨n2, k2⟩ := h2
  refine ⟨max n1 n2, fun n hn => ?_⟩
  simp only [opsA, wantA, oneOp, hx, ha, hm, k1 n (by omega), k2 n (by omega)]
theorem CA.of {f : FuncId} {fn : Func} {c : Code} {args : List AV} {H H1 : Heap} {fr1 : List AV} {x : AX} {vs : List AV} (hS : S f args H = none) (hf : P.funcs[f]? = some fn) (hb : fn.body = some c) (hx : x = .normal ∨ x = .ret)
    (h : RU P S c (args ++ List.replicate (fn.ntmps - args.length) (.t [])) H (x, fr1, H1)) (hr : resultsA P H1 fr1 fn.results.toList = some vs) : CA P S f args H (packA vs, H1) := by
  obtain ⟨n1, k1⟩ := h
  refine ⟨n1, fun n hn => ?_⟩
  simp only [run, callWith, hS, hf, hb, k1 n hn]
  rcases hx with rfl | rfl <;> simp [hr]
theorem CA.sum {f : FuncId} {args : List AV} {H : Heap} {r : AV × Heap} (h : S f args H = some r) : CA P S f args H r := ⟨0, fun n _ => by simp only [run, callWith, h]⟩
end
end Go.Proofs.YtiifcfngbbhgoagDoor.Ax

namespace Go.Proofs.YtiifcfngbbhgoagDoor.Ax
open Go Go.Proofs.YtiifcfngbbhgoagDoor.Wire
def U8 (b : UInt8) : AV := .i .u8 (b.toNat : Int)
def u8s (bs : B) : List AV := bs.map U8
def bst (bs : B) : ByteArray := ⟨bs.toArray⟩
structure Bty (P : Program) (tB tU : TypeId) : Prop where
  elem : elemA P tB = some tU
  size : sizeA P tU = some 1
  bytes : bytesA P tU = some 1
  zero : zeroA P tU = some (.i .u8 0)
  agg : aggA P tU = some false
  u8 : P.underlying tU = some (.int .u8)
inductive BytesAt (A : Nat → Prop) (H : Heap) : AV → B → Prop
  | z : BytesAt A H .s0 []
  | e : BytesAt A H .se []
  | s {i o : Nat} {ty : TypeId} {kn : Kn} {cs : List AV} {bs : B} (hA : A i) (h : H[i]? = some (.cells ty kn cs)) (h0 : 0 < bs.length) (h1 : (cs.drop o).take bs.length = u8s bs) : BytesAt A H (.sl i o bs.length) bs
def Keep (A : Nat → Prop) (H H' : Heap) : Prop := H.length ≤ H'.length ∧ ∀ i b, A i → H[i]? = some b → H'[i]? = some b
theorem Keep.refl (A : Nat → Prop) (H : Heap) : Keep A H H := ⟨Nat.le_refl _, fun _ _ _ h => h⟩
theorem Keep.trans {A : Nat → Prop} {H H' H'' : Heap} (h : Keep A H H') (k : Keep A H' H'') : Keep A H H'' := ⟨Nat.le_trans h.1 k.1, fun i b a x => k.2 i b a (h.2 i b a x)⟩
theorem Keep.sub {A A' : Nat → Prop} (s : ∀ i, A' i → A i) {H H' : Heap} (h : Keep A H H') : Keep A' H H' := ⟨h.1, fun i b a x => h.2 i b (s i a) x⟩
theorem Keep.set {A : Nat → Prop} {H : Heap} {i : Nat} (hi : ¬ A i) (b : Blk) : Keep A H (H.set i b) := ⟨by simp, fun j c a x => by
  rw [List.getElem?_set]
  by_cases e : i = j
  · subst e; exact absurd a hi
  · rw [if_neg e]; exact x⟩
theorem Keep.app (A : Nat → Prop) (H K : Heap) : Keep A H (H ++ K) := ⟨by simp, fun i b _ x => by rw [List.getElem?_append_left (List.getElem?_eq_some_iff.1 x).1]; exact x⟩
section
variable {P : Program} {tB tU : TypeId} {A : Nat → Prop} {H H' : Heap} {av : AV} {bs : B}
theorem u8s_length (bs : B) : (u8s bs).length = bs.length := by simp [u8s]
theorem u8s_one (bs : B) : (u8s bs).all AV.one = true := by
  rw [List.all_eq_true]
  intro x hx
  obtain ⟨b, _, rfl⟩ := List.mem_map.1 hx
  rfl
theorem BytesAt.keep (h : BytesAt A H av bs) (k : Keep A H H') : BytesAt A H' av bs := by
  cases h with
  | z => exact .z
  | e => exact .e
  | s hA h h0 h1 => exact .s hA (k.2 _ _ hA h) h0 h1
theorem BytesAt.sub {A' : Nat → Prop} (s : ∀ i, A i → A' i) (h : BytesAt A H av bs) : BytesAt A' H av bs := by
  cases h with
  | z => exact .z
  | e => exact .e
  | s hA h h0 h1 => exact .s (s _ hA) h h0 h1
theorem cells_fit {cs : List AV} {o n : Nat} {bs : B} (h : (cs.drop o).take n = u8s bs) (hn : n = bs.length) (h0 : 0 < bs.length) : o + n ≤ cs.length := by
  have := congrArg List.length h
  rw [u8s_length, List.length_take, List.length_drop] at this
  omega
theorem elem_slice {t e : TypeId} (h : elemA P t = some e) : P.underlying t = some (.slice e) := run_elemA h
theorem BytesAt.len (T : Bty P tB tU) (h : BytesAt A H av bs) : lenA P tB av = some (.i .i64 bs.length) := by
  have hu := elem_slice T.elem
  unfold lenA
  cases h <;> simp [hu]
theorem BytesAt.lo (T : Bty P tB tU) (h : BytesAt A H av bs) (kd : IntKind) {n : Nat} (hn : n ≤ bs.length) :
    ∃ av', sliceA P tB av (some (.i kd n)) none = some av' ∧ BytesAt A H av' (bs.drop n) ∧ ((0 < n ∨ av ≠ .s0) → av' ≠ .s0) := by
  unfold sliceA
  simp only [T.elem, T.size]
  cases h with
  | z =>
    obtain rfl : n = 0 := by simpa using hn
    exact ⟨.s0, by simp, by simpa using BytesAt.z, fun h => by rcases h with h | h <;> simp at h⟩
  | e =>
    obtain rfl : n = 0 := by simpa using hn
    exact ⟨.se, by simp, by simpa using BytesAt.e, fun _ => by simp⟩
  | @s i o ty kn cs bs hA h h0 h1 =>
    simp only
    rw [if_pos ⟨by omega, by omega, by omega⟩]
    by_cases e0 : n = 0
    · subst e0
      refine ⟨.sl i o bs.length, by simp, ?_, fun _ => by simp⟩
      simpa using BytesAt.s hA h h0 h1
    · rw [if_neg (by omega)]
      by_cases e1 : n = bs.length
      · rw [if_pos (by omega)]
        refine ⟨.se, rfl, ?_, fun _ => by simp⟩
        rw [e1, List.drop_length]; exact .e
      · rw [if_neg (by omega)]
        have hl : (bs.drop n).length = bs.length - n := by simp
        refine ⟨.sl i (o + n) (bs.drop n).length, by simp, .s hA h (by rw [hl]; omega) ?_, fun _ => by simp⟩
        rw [hl, ← List.drop_drop, ← List.drop_take, h1]
        simp [u8s]
theorem BytesAt.max (T : Bty P tB tU) (h : BytesAt A H av bs) (kd kd2 : IntKind) {n : Nat} (hn : n ≤ bs.length) :
    ∃ av', sliceMaxA P tB av (.i kd n) (.i kd2 n) = some av' ∧ BytesAt A H av' (bs.take n) ∧ (av ≠ .s0 → av' ≠ .s0) := by
  unfold sliceMaxA
  simp only [T.elem, T.size, if_true]
  cases h with
  | z =>
    obtain rfl : n = 0 := by simpa using hn
    exact ⟨.s0, by simp, by simpa using BytesAt.z, fun h => h⟩
  | e =>
    obtain rfl : n = 0 := by simpa using hn
    exact ⟨.se, by simp, by simpa using BytesAt.e, fun h => h⟩
  | @s i o ty kn cs bs hA h h0 h1 =>
    simp only
    rw [if_pos ⟨by omega, by omega⟩]
    by_cases e0 : n = 0
    · subst e0
      exact ⟨.se, by simp, by simpa using BytesAt.e, fun _ => by simp⟩
    · rw [if_neg (by omega)]
      have hl : (bs.take n).length = n := by simp; omega
      refine ⟨.sl i o (bs.take n).length, by rw [hl]; simp, .s hA h (by omega) ?_, fun _ => by simp⟩
      rw [hl]
      have : (cs.drop o).take n = ((cs.drop o).take bs.length).take n := by rw [List.take_take]; congr 1; omega
      rw [this, h1]
      simp [u8s, List.map_take]
theorem BytesAt.idx (T : Bty P tB tU) (h : BytesAt A H av bs) (kd : IntKind) {n : Nat} {b : UInt8} (hn : bs[n]? = some b) :
    ∃ p, indexAddrA P tB av (.i kd n) = some p ∧ loadA P H tU p = some (U8 b) := by
  have hlt := (List.getElem?_eq_some_iff.1 hn).1
  cases h with
  | z => simp at hn
  | e => simp at hn
  | @s i o ty kn cs bs hA h h0 h1 =>
    refine ⟨.p i (o + n), ?_, ?_⟩
    · simp only [indexAddrA, T.elem, T.size]
      rw [if_pos ⟨by omega, by omega⟩]
      simp
    · simp only [loadA, loadAt, h, T.agg]
      have : ((cs.drop o).take bs.length)[n]? = (u8s bs)[n]? := by rw [h1]
      rw [List.getElem?_take, if_pos hlt, List.getElem?_drop] at this
      rw [this]
      simp [u8s, hn]
theorem bytesOf_u8s : ∀ (bs : B), bytesOf (u8s bs) = some bs
  | [] => rfl
  | b :: r => by
    have := bytesOf_u8s r
    simp only [u8s, List.map_cons, U8, bytesOf] at *
    rw [this]
    simp
theorem BytesAt.str (h : BytesAt A H av bs) : strOf H av = some (bst bs) := by
  cases h with
  | z => rfl
  | e => rfl
  | @s i o ty kn cs bs hA h h0 h1 =>
    simp only [strOf, h]
    rw [if_pos (cells_fit h1 rfl h0), h1, bytesOf_u8s]
    rfl
theorem BytesAt.first (h : BytesAt A H av bs) : firstA H 1 av = some (bs.length, u8s bs) := by
  cases h with
  | z => rfl
  | e => rfl
  | @s i o ty kn cs bs hA h h0 h1 =>
    simp only [firstA, h, Nat.mul_one]
    rw [if_pos ⟨cells_fit h1 rfl h0, by rw [h1]; exact u8s_one _⟩, h1]
end
def RdAt (A : Nat → Prop) (tR : TypeId) (H : Heap) (rb : Nat) (nn : Bool) : Option B → Prop
  | some bs => ∃ src, H[rb]? = some (.cells tR .vr [src, .b false]) ∧ BytesAt A H src bs ∧ (nn = true → src ≠ .s0)
  | none => H[rb]? = some (.cells tR .vr [.s0, .b true])
def Got {α : Type} (st : Option B) (d : B → Option (α × B)) (st' : Option B) (R : α → Prop) : Prop :=
  match st with
  | none => st' = none
  | some bs => match d bs with
    | none => st' = none
    | some (v, r) => st' = some r ∧ R v
def K.ik : K → IntKind
  | .i8 => .i8
  | .i16 => .i16
  | .i32 => .i32
  | .i64 => .i64
  | .u16 => .u16
  | _ => .u8
def RepK (A : Nat → Prop) (H : Heap) (k : K) (null : Bool) (av : AV) (v : V) : Prop :=
  match k, v with
  | .bool, .b x => av = .b x
  | .f64, .i n => av = .f .f64 n.toNat
  | .uuid, .s bs => av = .g (u8s bs)
  | .str, .s bs => if null then ∃ i ty, A i ∧ av = .p i 0 ∧ H[i]? = some (.cells ty .vr [.s (bst bs)]) else av = .s (bst bs)
  | .str, .nul => av = .p0
  | .pstr, .s bs => ∃ i ty, A i ∧ av = .p i 0 ∧ H[i]? = some (.cells ty .vr [.s (bst bs)])
  | .bytes, .s bs => BytesAt A H av bs ∧ (null = true → av ≠ .s0)
  | .bytes, .nul => av = .s0
  | .i8, .i n | .i16, .i n | .i32, .i n | .i64, .i n | .u16, .i n => av = .i (K.ik k) n
  | _, _ => False
def RepF (A : Nat → Prop) (H : Heap) : F → V → List AV → Prop
  | .nil, _, _ => True
  | .leaf o k n r, .c v w, cs => (∃ av, RepK A H k n av v ∧ o + k.wide ≤ cs.length ∧ (cs.drop o).take k.wide = av.cells) ∧ RepF A H r w cs
  | .list o sz n e r, .c v w, cs => (match v with
    | .l vs => (vs = [] ∧ (n = false ∧ cs[o]? = some .s0 ∨ cs[o]? = some .se)) ∨
      ∃ i ty bl, 0 < vs.length ∧ A i ∧ cs[o]? = some (.sl i 0 vs.length) ∧ H[i]? = some (.cells ty .row bl) ∧ bl.length = vs.length * sz ∧ ∀ j x, vs[j]? = some x → RepF A H e x ((bl.drop (j * sz)).take sz)
    | .nul => cs[o]? = some .s0
    | _ => False) ∧ RepF A H r w cs
  | .tags _ _, _, _ => False
  | _, _, _ => False
end Go.Proofs.YtiifcfngbbhgoagDoor.Ax

