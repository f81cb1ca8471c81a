import Derived.Test.YtopfghmpaobnnaaDoorQApStr
import Derived.Test.YtopfghmpaobnnaaDoorQRdStr
import Derived.Test.YtopfghmpaobnnaaDoorQWireL
/-
  ABOVE THE MESSAGES: what the thin package's functions do of them.
-/
namespace Go.Proofs.YtopfghmpaobnnaaDoor.Rd
set_option linter.constructorNameAsVariable false
set_option linter.unusedVariables false
set_option linter.unusedSimpArgs false
open Go Go.Proofs.YtopfghmpaobnnaaDoor.Ax Go.Proofs.YtopfghmpaobnnaaDoor.Wire
set_option linter.unusedVariables false
set_option linter.unusedSimpArgs false
set_option maxRecDepth 100000

/-- The variables that are read; one block more. -/
structure Globs (H : Heap) (rb0 : Nat) : Prop where
  be : ∃ ty, H[0]? = some (.cells ty .ro [])
  nbe : rb0 ≠ 0
  err : ∃ ty, H[1]? = some (.cells ty .ro [.e])
  nerr : rb0 ≠ 1
  lt : rb0 < H.length
theorem Globs.room {H H' : Heap} {rb0 mb : Nat} (h : Globs H rb0) (hm : H.length ≤ mb) (hl : H.length ≤ H'.length) (hmb : mb < H'.length) (hk : ∀ i b, i < H.length → H[i]? = some b → H'[i]? = some b) : Room (fun i => i ∉ [rb0, mb]) H' rb0 where
  no := by simp
  new := fun i hi => by have := h.lt; simp; omega
  be := by
    obtain ⟨ty, x⟩ := h.be
    have hlt := (List.getElem?_eq_some_iff.1 x).1
    have := h.nbe
    exact ⟨by simp; omega, ty, hk _ _ hlt x⟩
  err := by
    obtain ⟨ty, x⟩ := h.err
    have hlt := (List.getElem?_eq_some_iff.1 x).1
    have := h.nerr
    exact ⟨by simp; omega, ty, hk _ _ hlt x⟩
theorem Globs.keep {H H' : Heap} {rb0 : Nat} (h : Globs H rb0) (hl : H.length ≤ H'.length) (hk : ∀ i b, i < H.length → H[i]? = some b → H'[i]? = some b) : Globs H' rb0 where
  be := h.be.elim fun ty x => ⟨ty, hk _ _ (List.getElem?_eq_some_iff.1 x).1 x⟩
  nbe := h.nbe
  err := h.err.elim fun ty x => ⟨ty, hk _ _ (List.getElem?_eq_some_iff.1 x).1 x⟩
  nerr := h.nerr
  lt := Nat.lt_of_lt_of_le h.lt hl
theorem OutAt.bytes {L0 : Nat} {H : Heap} {out : AV} {bs : B} (h : OutAt L0 H out bs) : BytesAt (fun i => L0 ≤ i) H out bs := by
  rcases h with ⟨rfl, rfl⟩ | ⟨i, hi, rfl, hb, h0⟩
  · exact .z
  · exact .s hi hb h0 (by rw [List.drop_zero, ← u8s_length bs, List.take_length])
theorem BytesAt.noS {A : Nat → Prop} {H : Heap} {av : AV} {bs : B} (h : BytesAt A H av bs) : av.isS = false := by cases h <;> rfl
theorem neq_e : binA P .neq 66 true .e .n = some (.b true) := by kernel_rfl
theorem neq_n : binA P .neq 66 true .n .n = some (.b false) := by kernel_rfl
theorem OS.callg {P : Program} {S : CallA} {ops : Array Oper} {d : Option Tmp} {f : Operand} {args : Array Operand} {ats : Array TypeId} {ty : TypeId} {pos : String} {af : Array Edge} {gd : Option (Nat × Bool)} {l : List Oper} {fr : List AV} {H H1 : Heap} {v : AV} {r : List AV × Heap} {g : FuncId} {as_ : List AV}
    (hg : wantA ops fr gd = some true) (hf : ev fr f = some (.fn g [])) (ha : evl fr args.toList = some as_) (h1 : CA P S g as_ H (v, H1)) (h2 : OS P S ops l (putA fr d v) H1 r) : OS P S ops (⟨d, .call { callee := .value f, args := args, argTypes := ats }, ty, pos, af, gd⟩ :: l) fr H r := by
  obtain ⟨n1, k1⟩ := h1
  obtain ⟨n2, k2⟩ := h2
  refine ⟨max n1 n2, fun n hn => ?_⟩
  have k1' := k1 n (by omega)
  rw [← List.append_nil as_] at k1'
  simp only [opsA, hg, oneOp, hf, ha, k1', k2 n (by omega)]
theorem OutAt.below {L0 : Nat} {H : Heap} {out : AV} {bs : B} (h : OutAt L0 H out bs) : BytesAt (fun i => i < H.length) H out bs := by
  rcases h with ⟨rfl, rfl⟩ | ⟨i, hi, rfl, hb, h0⟩
  · exact .z
  · exact .s (List.getElem?_eq_some_iff.1 hb).1 hb h0 (by rw [List.drop_zero, ← u8s_length bs, List.take_length])
theorem gtrI (a b : Int) (h : ¬ b < a) : binA P .gtr 3 true (.i .i64 a) (.i .i64 b) = some (.b false) := by rw [gtr]; simp [h]
theorem gtrT (a b : Int) (h : b < a) : binA P .gtr 3 true (.i .i64 a) (.i .i64 b) = some (.b true) := by rw [gtr]; simp [h]
theorem unF_nodes : ∀ (pl : List (Ev × Nat)), unF (nodes pl) = pl
  | [] => rfl
  | (e, o) :: r => by cases e <;> simp [nodes, Ev.node, unF, unF_nodes r]
end Go.Proofs.YtopfghmpaobnnaaDoor.Rd

