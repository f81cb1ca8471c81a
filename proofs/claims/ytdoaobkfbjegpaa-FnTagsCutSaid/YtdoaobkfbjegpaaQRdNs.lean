/-
  THE CALLS THAT ARE ANSWERED BY A CONTRACT: the writing of unknown tags, whose order a sort makes.
-/
import Derived.Test.YtdoaobkfbjegpaaQAxDraw2
set_option linter.constructorNameAsVariable false
set_option linter.unusedVariables false
set_option linter.unusedSimpArgs false
namespace Go.Proofs.Ytdoaobkfbjegpaa.Rd
open Go Go.Proofs.Ytdoaobkfbjegpaa.Ax Go.Proofs.Ytdoaobkfbjegpaa.Wire
def nsEach : CallA := fun _ _ _ => none
def isEach (f : FuncId) : Bool := false
theorem nsEach_none {f : FuncId} (h : isEach f = false) (args : List AV) (H : Heap) : nsEach f args H = none := rfl
inductive TgRun (box : Nat) (K : List Nat) : Heap → List (Int × AV) → Heap → Prop
  | nil (H : Heap) : TgRun box K H [] H
  | cons {H H1 H2 : Heap} {k : Int} {v : AV} {r : List (Int × AV)} (h : CA P noS 19 [.i .u32 k, v, .p box 0] H (.t [], H1)) (hk : ∀ j ∈ K, H1[j]? = H[j]?) (t : TgRun box K H1 r H2) : TgRun box K H ((k, v) :: r) H2
def tgHeap (H : Heap) (x : AV) (es : List (Int × AV)) : Heap := H ++ [.cells 49 .vr [x], .cells 22 .vr [.s0], .cells 37 .row (es.map fun e => .i .u32 e.1), .cells 61 .vr [.sl (H.length + 2) 0 es.length]]
def TgRel (args : List AV) (H : Heap) (r : AV × Heap) : Prop :=
  ∃ x, args = [.g [x]] ∧ x.one = true ∧
    (((x = .m0 ∨ ∃ i, x = .mp i ∧ H[i]? = some (.map .u32 [])) ∧ r = (.s0, H)) ∨
      ∃ i es es', x = .mp i ∧ H[i]? = some (.map .u32 es) ∧ List.Perm es' es ∧ (es'.map (·.1)).Pairwise (· < ·) ∧ 0 < es.length ∧ es.length ≤ 1099511627776 ∧
        TgRun (H.length + 1) [H.length, i, H.length + 2, H.length + 3] (tgHeap H x es') es' r.2 ∧ loadA P r.2 22 (.p (H.length + 1) 0) = some r.1)
open Classical in
noncomputable def tgS : CallA := fun _ args H => if h : ∃ r, TgRel args H r then some h.choose else none
noncomputable def nsTg : CallA := fun f args H => cond (Nat.beq f 14) (tgS f args H) none
def isTg (f : FuncId) : Bool := Nat.beq f 14
theorem nsTg_none {f : FuncId} (h : isTg f = false) (args : List AV) (H : Heap) : nsTg f args H = none := by
  have h : (Nat.beq f 14) = false := h
  unfold nsTg; rw [h]; rfl
def nsLow : CallA := fun _ _ _ => none
def isLow (f : FuncId) : Bool := false
theorem nsLow_none {f : FuncId} (h : isLow f = false) (args : List AV) (H : Heap) : nsLow f args H = none := rfl
def nsTrim : CallA := fun _ _ _ => none
def isTrim (f : FuncId) : Bool := false
theorem nsTrim_none {f : FuncId} (h : isTrim f = false) (args : List AV) (H : Heap) : nsTrim f args H = none := rfl
def nsF64 : CallA := fun _ _ _ => none
def nsO64 : CallA := fun _ _ _ => none
def isF64 (f : FuncId) : Bool := false
theorem nsF64_none {f : FuncId} (h : isF64 f = false) (args : List AV) (H : Heap) : nsF64 f args H = none ∧ nsO64 f args H = none := ⟨rfl, rfl⟩
def orS (a b : CallA) : CallA := fun f args H => match a f args H with
  | some r => some r
  | none => b f args H
theorem orS_none {a b : CallA} {f : FuncId} {args : List AV} {H : Heap} (h : a f args H = none) (k : b f args H = none) : orS a b f args H = none := by
  unfold orS; rw [h]; exact k
noncomputable def NS : CallA := orS nsEach (orS (orS nsLow nsTrim) (orS nsF64 (orS nsO64 nsTg)))
def noNS (f : FuncId) : Bool := !(isEach f || ((isLow f || isTrim f) || (isF64 f || isTg f)))
theorem NS_none {f : FuncId} (h : noNS f = true) (args : List AV) (H : Heap) : NS f args H = none := by
  simp only [noNS, Bool.not_eq_true', Bool.or_eq_false_iff] at h
  exact orS_none (nsEach_none h.1 _ _) (orS_none (orS_none (nsLow_none h.2.1.1 _ _) (nsTrim_none h.2.1.2 _ _)) (orS_none (nsF64_none h.2.2.1 _ _).1 (orS_none (nsF64_none h.2.2.1 _ _).2 (nsTg_none h.2.2.2 _ _))))
theorem CA.go {P : Program} {f : FuncId} {fn : Func} {c : Code} {args : List AV} {H H1 : Heap} {x : AX} {vs : List AV} (hf : P.funcs[f]? = some fn) (hb : fn.body = some c) (hx : x = .normal ∨ x = .ret)
    (h : ∃ fr1, RU P NS c (args ++ List.replicate (fn.ntmps - args.length) (.t [])) H (x, fr1, H1) ∧ resultsA P H1 fr1 fn.results.toList = some vs) (hs : NS f args H = none := by exact NS_none rfl _ _) : CA P NS f args H (packA vs, H1) := by
  obtain ⟨fr1, h1, h2⟩ := h
  exact CA.of hs hf hb hx h1 h2
structure Emp (S : CallA) : Prop where
  none : ∀ f args H, noNS f = true → S f args H = none
theorem emp_noS : Emp noS := ⟨fun f args H h => rfl⟩
theorem CA.goS {S : CallA} {P : Program} {f : FuncId} {fn : Func} {c : Code} {args : List AV} {H H1 : Heap} {x : AX} {vs : List AV} (E : Emp S) (hf : P.funcs[f]? = some fn) (hb : fn.body = some c) (hx : x = .normal ∨ x = .ret)
    (h : ∃ fr1, RU P S c (args ++ List.replicate (fn.ntmps - args.length) (.t [])) H (x, fr1, H1) ∧ resultsA P H1 fr1 fn.results.toList = some vs) (hs : noNS f = true := by rfl) : CA P S f args H (packA vs, H1) := by
  obtain ⟨fr1, h1, h2⟩ := h
  exact CA.of (E.none _ _ _ hs) hf hb hx h1 h2
end Go.Proofs.Ytdoaobkfbjegpaa.Rd

