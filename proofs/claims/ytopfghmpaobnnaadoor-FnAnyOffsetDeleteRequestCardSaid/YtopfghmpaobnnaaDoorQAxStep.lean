import Derived.Test.YtopfghmpaobnnaaDoorQAxCon
import Derived.Test.YtopfghmpaobnnaaDoorQAxDraw2
/-
  THE ABSTRACT MACHINE: its operations, a law each, for proofs that go step by step.
-/
namespace Go.Proofs.YtopfghmpaobnnaaDoor.Ax
set_option linter.constructorNameAsVariable false
set_option linter.unusedVariables false
set_option linter.unusedSimpArgs false
open Go
section
variable {P : Program} {fr : List AV} {H H1 : Heap}
theorem op_move {x : Operand} {v : AV} (h : ev fr x = some v) : opA P (.move x) fr H = some (v, H) := by simp [opA, h]
theorem op_assign {x : Operand} {v : AV} (h : ev fr x = some v) : opA P (.assign x) fr H = some (v, H) := by simp [opA, h]
theorem op_pickT {c a b : Operand} {v : AV} (hc : ev fr c = some (.b true)) (h : ev fr a = some v) : opA P (.pick c a b) fr H = some (v, H) := by simp [opA, h, hc]
theorem op_pickF {c a b : Operand} {v : AV} (hc : ev fr c = some (.b false)) (h : ev fr b = some v) : opA P (.pick c a b) fr H = some (v, H) := by simp [opA, h, hc]
theorem op_nilCheck {x : Operand} {i o : Nat} (h : ev fr x = some (.p i o)) : opA P (.nilCheck x) fr H = some (.p i o, H) := by simp [opA, h, nilCheckA]
theorem op_fieldAddr {t : TypeId} {x : Operand} {k : Nat} {a v : AV} (h : ev fr x = some a) (hv : fieldAddrA P t a k = some v) : opA P (.fieldAddr t x k) fr H = some (v, H) := by simp [opA, h, hv]
theorem op_load {t : TypeId} {x : Operand} {a v : AV} (h : ev fr x = some a) (hv : loadA P H t a = some v) : opA P (.load t x) fr H = some (v, H) := by simp [opA, h, hv]
theorem op_store {t : TypeId} {x y : Operand} {a v : AV} (h : ev fr x = some a) (h2 : ev fr y = some v) (hv : storeA P H t a v = some H1) : opA P (.store t x y) fr H = some (.u, H1) := by simp [opA, h, h2, hv]
theorem op_bin {op : BinOp} {t s : TypeId} {x y : Operand} {a b v : AV} {c : Bool} (h : ev fr x = some a) (h2 : ev fr y = some b) (hc : (isC x || isC y) = c) (hv : binA P op t c a b = some v) : opA P (.binOp op t x y s) fr H = some (v, H) := by simp [opA, h, h2, hc, hv]
theorem op_un {op : UnOp} {t : TypeId} {x : Operand} {a v : AV} (h : ev fr x = some a) (hv : unA op a = some v) : opA P (.unOp op t x) fr H = some (v, H) := by simp [opA, h, hv]
theorem op_conv {s d : TypeId} {x : Operand} {a v : AV} (h : ev fr x = some a) (hv : convA P s d a = some v) : opA P (.convert s d x) fr H = some (v, H) := by simp [opA, h, hv]
theorem op_convS {s d : TypeId} {x : Operand} {a v : AV} (h : ev fr x = some a) (h0 : convA P s d a = none) (hv : strA P H s d a = some v) : opA P (.convert s d x) fr H = some (v, H) := by simp [opA, h, h0, hv]
theorem op_len {x : Operand} {t : TypeId} {a v : AV} (h : ev fr x = some a) (hv : lenA P t a = some v) : opA P (.call { callee := .builtin .len, args := #[x], argTypes := #[t] }) fr H = some (v, H) := by simp [opA, h, hv]
theorem op_indexAddr {t : TypeId} {x k : Operand} {a b v : AV} (h : ev fr x = some a) (h2 : ev fr k = some b) (hv : indexAddrA P t a b = some v) : opA P (.indexAddr t x k) fr H = some (v, H) := by simp [opA, h, h2, hv]
theorem op_index {t : TypeId} {x k : Operand} {a b v : AV} (h : ev fr x = some a) (h2 : ev fr k = some b) (hv : indexA P t a b = some v) : opA P (.index t x k) fr H = some (v, H) := by simp [opA, h, h2, hv]
theorem op_sliceLo {t : TypeId} {x l : Operand} {a b v : AV} (h : ev fr x = some a) (h2 : ev fr l = some b) (hv : sliceA P t a (some b) none = some v) : opA P (.slice t x (some l) none none) fr H = some (v, H) := by simp [opA, h, h2, hv]
theorem op_sliceHi {t : TypeId} {x l : Operand} {a b v : AV} (h : ev fr x = some a) (h2 : ev fr l = some b) (hv : sliceA P t a none (some b) = some v) : opA P (.slice t x none (some l) none) fr H = some (v, H) := by simp [opA, h, h2, hv]
theorem op_sliceMax {t : TypeId} {x l m : Operand} {a b c v : AV} (h : ev fr x = some a) (h2 : ev fr l = some b) (h3 : ev fr m = some c) (hv : sliceMaxA P t a b c = some v) : opA P (.slice t x none (some l) (some m)) fr H = some (v, H) := by simp [opA, h, h2, h3, hv]
theorem op_sliceArr {t : TypeId} {x : Operand} {a v : AV} (h : ev fr x = some a) (hv : sliceArrA P H t a = some v) : opA P (.slice t x none none none) fr H = some (v, H) := by simp [opA, h, hv]
theorem op_extract {x : Operand} {k : Nat} {vs : List AV} {v : AV} (h : ev fr x = some (.t vs)) (hv : vs[k]? = some v) : opA P (.extract x k) fr H = some (v, H) := by simp [opA, h, hv]
theorem op_field {t : TypeId} {x : Operand} {k : Nat} {a v : AV} (h : ev fr x = some a) (hv : fieldA P t a k = some v) : opA P (.field t x k) fr H = some (v, H) := by simp [opA, h, hv]
theorem op_alloc {e : TypeId} {z : AV} (hz : zeroA P e = some z) (h1 : z.cells.all AV.one = true) : opA P (.alloc e) fr H = some (.p H.length 0, H ++ [.cells e .vr z.cells]) := by simp only [opA, hz, newBlk, h1, Option.bind_some, if_true, Option.map_some]
theorem op_box {e : TypeId} {x : Operand} {v : AV} (h : ev fr x = some v) (h1 : v.cells.all AV.one = true) : opA P (.box e x) fr H = some (.p H.length 0, H ++ [.cells e .vr v.cells]) := by simp only [opA, h, newBlk, h1, Option.bind_some, if_true, Option.map_some]
theorem op_buildSlice {t : TypeId} {n : Nat} {parts : Array (Nat × Operand)} {ps : List (Nat × AV)} {v : AV} (h : evs fr parts.toList = some ps) (hv : buildSliceA P H t n ps = some (v, H1)) : opA P (.buildSlice t n parts) fr H = some (v, H1) := by simp [opA, h, hv]
theorem op_append {t t2 : TypeId} {s x : Operand} {a b v : AV} (h : ev fr s = some a) (h2 : ev fr x = some b) (ht : t = t2) (hu : (elemA P t2).isSome = true) (hb : b.isS = false) (hv : appendA P H t false a b = some (v, H1)) :
    opA P (.call { callee := .builtin .append, args := #[s, x], argTypes := #[t, t2] }) fr H = some (v, H1) := by
  subst ht
  have : ∃ e, P.underlying t = some (.slice e) := by
    unfold elemA at hu
    split at hu
    · rename_i e he; exact ⟨e, he⟩
    · simp at hu
  obtain ⟨e, he⟩ := this
  simp [opA, h, h2, he, hb, hv]
theorem op_appendS {t t2 : TypeId} {s x : Operand} {a b v : AV} (h : ev fr s = some a) (h2 : ev fr x = some b) (hu : P.underlying t2 = some .string) (hv : appendA P H t true a b = some (v, H1)) :
    opA P (.call { callee := .builtin .append, args := #[s, x], argTypes := #[t, t2] }) fr H = some (v, H1) := by
  simp [opA, h, h2, hu, hv]
theorem op_copy {t t2 : TypeId} {d x : Operand} {a b v : AV} (h : ev fr d = some a) (h2 : ev fr x = some b) (hv : copyA P H t a b = some (v, H1)) :
    opA P (.call { callee := .builtin .copy, args := #[d, x], argTypes := #[t, t2] }) fr H = some (v, H1) := by
  simp [opA, h, h2, hv]
theorem op_func {f : FuncId} {caps : Array Operand} {cs : List AV} (h : evl fr caps.toList = some cs) (h1 : cs.all AV.one = true) : opA P (.makeFunc (.func f) #[] caps) fr H = some (.fn f cs, H) := by
  simp only [opA, h, h1, Option.bind_some, if_true, Option.map_some, Array.size_empty]
end
/-- Operations that only add to the heap; what they come to as a pair. -/
def OG (P : Program) (call : CallA) (l : List Oper) (fr : List AV) (H : Heap) (r : List AV × Heap) : Prop := OpsG P call l fr H r.1 r.2
theorem OG.nil {P : Program} {call : CallA} {fr : List AV} {H : Heap} : OG P call [] fr H (fr, H) := OpsG.nil _ _
theorem OG.pure {P : Program} {call : CallA} {o : Oper} {l : List Oper} {fr : List AV} {H H1 : Heap} {v : AV} {r : List AV × Heap} (hg : o.guard = none) (hc : isCall o.op = false) (h : opA P o.op fr H = some (v, H1)) (g : Grows H H1) (t : OG P call l (putA fr o.dst v) H1 r) : OG P call (o :: l) fr H r :=
  OpsG.op hg ((oneOp_pure hc).trans h) g t
theorem OG.call {P : Program} {call : CallA} {d : Option Tmp} {f : Operand} {args : Array Operand} {ats : Array TypeId} {ty : TypeId} {pos : String} {af : Array Edge} {l : List Oper} {fr : List AV} {H H1 : Heap} {v : AV} {r : List AV × Heap} {g : FuncId} {caps as_ : List AV}
    (hf : ev fr f = some (.fn g caps)) (ha : evl fr args.toList = some as_) (h1 : call g (as_ ++ caps) H = some (v, H1)) (gr : Grows H H1) (t : OG P call l (putA fr d v) H1 r) : OG P call (⟨d, .call { callee := .value f, args := args, argTypes := ats }, ty, pos, af, none⟩ :: l) fr H r :=
  OpsG.op rfl (by simp only [oneOp, hf, ha, h1]) gr t
theorem OG.call0 {P : Program} {call : CallA} {d : Option Tmp} {f : Operand} {args : Array Operand} {ats : Array TypeId} {ty : TypeId} {pos : String} {af : Array Edge} {l : List Oper} {fr : List AV} {H H1 : Heap} {v : AV} {r : List AV × Heap} {g : FuncId} {as_ : List AV}
    (hf : ev fr f = some (.fn g [])) (ha : evl fr args.toList = some as_) (h1 : call g as_ H = some (v, H1)) (gr : Grows H H1) (t : OG P call l (putA fr d v) H1 r) : OG P call (⟨d, .call { callee := .value f, args := args, argTypes := ats }, ty, pos, af, none⟩ :: l) fr H r :=
  OG.call hf ha (by rw [List.append_nil]; exact h1) gr t
theorem OS.call0 {P : Program} {S : CallA} {ops : Array Oper} {d : Option Tmp} {f : Operand} {args : Array Operand} {ats : Array TypeId} {ty : TypeId} {pos : String} {af : Array Edge} {l : List Oper} {fr : List AV} {H H1 : Heap} {v : AV} {r : List AV × Heap} {g : FuncId} {as_ : List AV}
    (hf : ev fr f = some (.fn g [])) (ha : evl fr args.toList = some as_) (h1 : CA P S g as_ H (v, H1)) (h2 : OS P S ops l (putA fr d v) H1 r) : OS P S ops (⟨d, .call { callee := .value f, args := args, argTypes := ats }, ty, pos, af, none⟩ :: l) fr H r :=
  OS.call hf ha (by rw [List.append_nil]; exact h1) h2
theorem OS.opg {P : Program} {S : CallA} {ops : Array Oper} {o : Oper} {l : List Oper} {fr : List AV} {H H1 : Heap} {v : AV} {r : List AV × Heap} (hg : wantA ops fr o.guard = some true) (hc : isCall o.op = false) (h1 : opA P o.op fr H = some (v, H1)) (h2 : OS P S ops l (putA fr o.dst v) H1 r) : OS P S ops (o :: l) fr H r := by
  obtain ⟨n1, k1⟩ := h2
  refine ⟨n1, fun n hn => ?_⟩
  simp only [opsA, hg, oneOp_pure hc, h1, k1 n hn]
theorem OS.skip {P : Program} {S : CallA} {ops : Array Oper} {o : Oper} {l : List Oper} {fr : List AV} {H : Heap} {r : List AV × Heap} (hg : wantA ops fr o.guard = some false) (h2 : OS P S ops l (putA fr o.dst (.t [])) H r) : OS P S ops (o :: l) fr H r := by
  obtain ⟨n1, k1⟩ := h2
  refine ⟨n1, fun n hn => ?_⟩
  simp only [opsA, hg, k1 n hn]
theorem RU.drawn {P : Program} {S : CallA} {id : Nat} {ops : Array Oper} {fr fr1 : List AV} {H H1 : Heap} (hok : drawOk P ops = true) {n0 : Nat} (h : ∀ n, n0 ≤ n → OG P (run P S n) ops.toList fr H (fr1, H1)) : RU P S (.region id ops true) fr H (.normal, fr1, H1) := RU.draw hok h
abbrev NS : CallA := fun _ _ _ => none
theorem CA.go {P : Program} {f : FuncId} {fn : Func} {c : Code} {args : List AV} {H H1 : Heap} {x : AX} {vs : List AV} (hf : P.funcs[f]? = some fn) (hb : fn.body = some c) (hx : x = .normal ∨ x = .ret)
    (h : ∃ fr1, RU P NS c (args ++ List.replicate (fn.ntmps - args.length) (.t [])) H (x, fr1, H1) ∧ resultsA P H1 fr1 fn.results.toList = some vs) : CA P NS f args H (packA vs, H1) := by
  obtain ⟨fr1, h1, h2⟩ := h
  exact CA.of rfl hf hb hx h1 h2
end Go.Proofs.YtopfghmpaobnnaaDoor.Ax

