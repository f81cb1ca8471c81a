import Derived.Test.YtopfghmpaobnnaaDoorQa
/-
  THE ABSTRACT MACHINE: rules for its runs, whatever the fuel.
-/
namespace Go.Proofs.YtopfghmpaobnnaaDoor.Ax
set_option linter.constructorNameAsVariable false
set_option linter.unusedVariables false
set_option linter.unusedSimpArgs false
open Go

section
variable {P : Program} {S : CallA}

/-- A call of the machine, from some fuel on. -/
def CA (P : Program) (S : CallA) (f : FuncId) (args : List AV) (H : Heap) (r : AV × Heap) : Prop := ∃ n0, ∀ n, n0 ≤ n → run P S n f args H = some r
/-- A run of a code, from some fuel on. -/
def RU (P : Program) (S : CallA) (c : Code) (fr : List AV) (H : Heap) (r : AX × List AV × Heap) : Prop := ∃ n0, ∀ n, n0 ≤ n → exec P S (drawA P) n c fr H = some r
/-- Operations, one behind the other, from some fuel on. -/
def OS (P : Program) (S : CallA) (ops : Array Oper) (l : List Oper) (fr : List AV) (H : Heap) (r : List AV × Heap) : Prop := ∃ n0, ∀ n, n0 ≤ n → opsA P (run P S n) ops l fr H = some r

theorem RU.of {c : Code} {fr : List AV} {H : Heap} {r : AX × List AV × Heap} (h : ∀ n, exec P S (drawA P) (n + 1) c fr H = some r) : RU P S c fr H r :=
  ⟨1, fun n hn => by obtain ⟨m, rfl⟩ : ∃ m, n = m + 1 := ⟨n - 1, by omega⟩; exact h m⟩
theorem RU.of2 {c d : Code} {fr fr1 : List AV} {H H1 : Heap} {r r1 : AX × List AV × Heap} (h1 : RU P S d fr1 H1 r1) (h : ∀ n, exec P S (drawA P) n d fr1 H1 = some r1 → exec P S (drawA P) (n + 1) c fr H = some r) : RU P S c fr H r := by
  obtain ⟨n1, k1⟩ := h1
  refine ⟨n1 + 1, fun n hn => ?_⟩
  obtain ⟨m, rfl⟩ : ∃ m, n = m + 1 := ⟨n - 1, by omega⟩
  exact h m (k1 m (by omega))
theorem RU.skip {fr : List AV} {H : Heap} : RU P S .skip fr H (.normal, fr, H) := .of fun _ => rfl
theorem RU.ret {fr : List AV} {H : Heap} : RU P S .ret fr H (.ret, fr, H) := .of fun _ => rfl
theorem RU.exit {id : Nat} {fr : List AV} {H : Heap} : RU P S (.exit id) fr H (.exit id, fr, H) := .of fun _ => rfl
theorem RU.label {id : Nat} {fr : List AV} {H : Heap} : RU P S (.label id) fr H (.normal, fr, H) := .of fun _ => rfl
theorem RU.goto {id : Nat} {fr : List AV} {H : Heap} : RU P S (.goto id) fr H (.goto id, fr, H) := .of fun _ => rfl
theorem RU.seq {a b : Code} {fr fr1 : List AV} {H H1 : Heap} {r : AX × List AV × Heap} (h1 : RU P S a fr H (.normal, fr1, H1)) (h2 : RU P S b fr1 H1 r) : RU P S (.seq a b) fr H r := by
  obtain ⟨n1, k1⟩ := h1
  obtain ⟨n2, k2⟩ := h2
  refine ⟨max n1 n2 + 1, fun n hn => ?_⟩
  obtain ⟨m, rfl⟩ : ∃ m, n = m + 1 := ⟨n - 1, by omega⟩
  simp only [exec, k1 m (by omega), k2 m (by omega)]
theorem RU.seqx {a b : Code} {fr fr1 : List AV} {H H1 : Heap} {x : AX} (h1 : RU P S a fr H (x, fr1, H1)) (hx : x ≠ .normal) : RU P S (.seq a b) fr H (x, fr1, H1) :=
  .of2 h1 fun n h => by
    simp only [exec, h]
    cases x <;> first | rfl | exact absurd rfl hx
theorem RU.condT {c : Operand} {a b : Code} {fr : List AV} {H : Heap} {r : AX × List AV × Heap} (hc : ev fr c = some (.b true)) (h : RU P S a fr H r) : RU P S (.cond c a b) fr H r :=
  .of2 h fun n h => by simp only [exec, hc, h]
theorem RU.condF {c : Operand} {a b : Code} {fr : List AV} {H : Heap} {r : AX × List AV × Heap} (hc : ev fr c = some (.b false)) (h : RU P S b fr H r) : RU P S (.cond c a b) fr H r :=
  .of2 h fun n h => by simp only [exec, hc, h]
theorem RU.block {id : Nat} {b : Code} {fr fr1 : List AV} {H H1 : Heap} {x : AX} (h : RU P S b fr H (x, fr1, H1)) : RU P S (.block id b) fr H ((match x with | .exit j => if j = id then .normal else .exit j | x => x), fr1, H1) :=
  .of2 h fun n h => by
    simp only [exec, h]
    cases x with
    | exit j => simp only; split <;> rfl
    | _ => rfl
theorem RU.block0 {id : Nat} {b : Code} {fr fr1 : List AV} {H H1 : Heap} (h : RU P S b fr H (.exit id, fr1, H1)) : RU P S (.block id b) fr H (.normal, fr1, H1) := by
  have := RU.block (id := id) h
  simpa using this
theorem RU.blockN {id : Nat} {b : Code} {fr fr1 : List AV} {H H1 : Heap} (h : RU P S b fr H (.normal, fr1, H1)) : RU P S (.block id b) fr H (.normal, fr1, H1) := RU.block (id := id) h
theorem RU.blockR {id : Nat} {b : Code} {fr fr1 : List AV} {H H1 : Heap} (h : RU P S b fr H (.ret, fr1, H1)) : RU P S (.block id b) fr H (.ret, fr1, H1) := RU.block (id := id) h
theorem RU.loop {b : Code} {fr fr1 : List AV} {H H1 : Heap} {r : AX × List AV × Heap} (h1 : RU P S b fr H (.normal, fr1, H1)) (h2 : RU P S (.loop b) fr1 H1 r) : RU P S (.loop b) fr H r := by
  obtain ⟨n1, k1⟩ := h1
  obtain ⟨n2, k2⟩ := h2
  refine ⟨max n1 n2 + 1, fun n hn => ?_⟩
  obtain ⟨m, rfl⟩ : ∃ m, n = m + 1 := ⟨n - 1, by omega⟩
  simp only [exec, k1 m (by omega), k2 m (by omega)]
theorem RU.loopx {b : Code} {fr fr1 : List AV} {H H1 : Heap} {x : AX} (h1 : RU P S b fr H (x, fr1, H1)) (hx : x ≠ .normal) : RU P S (.loop b) fr H (x, fr1, H1) :=
  .of2 h1 fun n h => by
    simp only [exec, h]
    cases x <;> first | rfl | exact absurd rfl hx
theorem RU.scope {b : Code} {fr fr1 : List AV} {H H1 : Heap} {x : AX} (h : RU P S b fr H (x, fr1, H1)) (hx : ∀ l, x ≠ .goto l) : RU P S (.scope b) fr H (x, fr1, H1) :=
  .of2 h fun n h => by
    simp only [exec, h, jumpA]
    cases x <;> first | rfl | exact absurd rfl (hx _)
theorem RU.scope1 {b rest : Code} {l : Nat} {fr fr1 fr2 : List AV} {H H1 H2 : Heap} {x : AX} (h : RU P S b fr H (.goto l, fr1, H1)) (hl : findLabel b l = some rest) (h2 : RU P S rest fr1 H1 (x, fr2, H2)) (hx : ∀ l, x ≠ .goto l) : RU P S (.scope b) fr H (x, fr2, H2) := by
  obtain ⟨n1, k1⟩ := h
  obtain ⟨n2, k2⟩ := h2
  refine ⟨max n1 n2 + 1, fun n hn => ?_⟩
  obtain ⟨m, rfl⟩ : ∃ m, n = m + 1 := ⟨n - 1, by omega⟩
  simp only [exec, k1 m (by omega), jumpA, hl, k2 m (by omega)]
  cases x <;> first | rfl | exact absurd rfl (hx _)
theorem RU.region {id : Nat} {ops : Array Oper} {fr fr1 : List AV} {H H1 : Heap} (h : OS P S ops ops.toList fr H (fr1, H1)) : RU P S (.region id ops false) fr H (.normal, fr1, H1) := by
  obtain ⟨n1, k1⟩ := h
  refine ⟨n1 + 1, fun n hn => ?_⟩
  obtain ⟨m, rfl⟩ : ∃ m, n = m + 1 := ⟨n - 1, by omega⟩
  have := k1 m (by omega)
  simp only [run] at this
  simp [exec, this]

theorem OS.nil {ops : Array Oper} {fr : List AV} {H : Heap} : OS P S ops [] fr H (fr, H) := ⟨0, fun _ _ => rfl⟩
/-- Is the operation a call of a value? -/
def isCall : Op → Bool
  | .call { callee := .value _, .. } => true
  | _ => false
theorem oneOp_pure {call : CallA} {o : Op} {fr : List AV} {H : Heap} (h : isCall o = false) : oneOp P call o fr H = opA P o fr H := by
  unfold oneOp
  split
  · simp [isCall] at h
  · rfl
theorem OS.op {ops : Array Oper} {o : Oper} {l : List Oper} {fr : List AV} {H H1 : Heap} {v : AV} {r : List AV × Heap} (hg : o.guard = none) (hc : isCall o.op = false) (h1 : opA P o.op fr H = some (v, H1)) (h2 : OS P S ops l (putA fr o.dst v) H1 r) : OS P S ops (o :: l) fr H r := by
  obtain ⟨n1, k1⟩ := h2
  refine ⟨n1, fun n hn => ?_⟩
  simp only [opsA, hg, wantA, oneOp_pure hc, h1, k1 n hn]
theorem OS.call {ops : Array Oper} {d : Option Tmp} {f : Operand} {args : Array Operand} {ats : Array TypeId} {ty : TypeId} {pos : String} {af : Array Edge} {l : List Oper} {fr : List AV} {H H1 : Heap} {v : AV} {r : List AV × Heap} {g : FuncId} {caps as_ : List AV}
    (hf : ev fr f = some (.fn g caps)) (ha : evl fr args.toList = some as_) (h1 : CA P S g (as_ ++ caps) H (v, H1)) (h2 : OS P S ops l (putA fr d v) H1 r) : OS P S ops (⟨d, .call { callee := .value f, args := args, argTypes := ats }, ty, pos, af, none⟩ :: l) fr H r := by
  obtain ⟨n1, k1⟩ := h1
  obtain ⟨n2, k2⟩ := h2
  refine ⟨max n1 n2, fun n hn => ?_⟩
  simp only [opsA, wantA, oneOp, hf, ha, k1 n (by omega), k2 n (by omega)]

theorem CA.of {f : FuncId} {fn : Func} {c : Code} {args : List AV} {H H1 : Heap} {fr1 : List AV} {x : AX} {vs : List AV} (hS : S f args H = none) (hf : P.funcs[f]? = some fn) (hb : fn.body = some c) (hx : x = .normal ∨ x = .ret)
    (h : RU P S c (args ++ List.replicate (fn.ntmps - args.length) (.t [])) H (x, fr1, H1)) (hr : resultsA P H1 fr1 fn.results.toList = some vs) : CA P S f args H (packA vs, H1) := by
  obtain ⟨n1, k1⟩ := h
  refine ⟨n1, fun n hn => ?_⟩
  simp only [run, callWith, hS, hf, hb, k1 n hn]
  rcases hx with rfl | rfl <;> simp [hr]
theorem CA.sum {f : FuncId} {args : List AV} {H : Heap} {r : AV × Heap} (h : S f args H = some r) : CA P S f args H r := ⟨0, fun n _ => by simp only [run, callWith, h]⟩
end
end Go.Proofs.YtopfghmpaobnnaaDoor.Ax

