/-
  THE CALLS THAT ARE ANSWERED BY A CONTRACT: the writing of unknown tags, whose order a sort makes.
-/
import Derived.Test.YtiifcfngbbhgoagDoorQAxDraw2
set_option linter.constructorNameAsVariable false
set_option linter.unusedVariables false
set_option linter.unusedSimpArgs false
namespace Go.Proofs.YtiifcfngbbhgoagDoor.Rd
open Go Go.Proofs.YtiifcfngbbhgoagDoor.Ax Go.Proofs.YtiifcfngbbhgoagDoor.Wire
inductive EachRun (box : Nat) (K : List Nat) : Heap → List (Int × AV) → Heap → Prop
  | nil (H : Heap) : EachRun box K H [] H
  | cons {H H1 H2 : Heap} {k : Int} {v : AV} {r : List (Int × AV)} (h : CA P noS 41 [.i .u32 k, v, .p box 0] H (.t [], H1)) (hk : ∀ j ∈ K, H1[j]? = H[j]?) (t : EachRun box K H1 r H2) : EachRun box K H ((k, v) :: r) H2
def eachHeap (H : Heap) (dst : AV) (es : List (Int × AV)) : Heap := H ++ [.cells tB .vr [dst], .cells 49 .row (es.map fun e => .i .u32 e.1), .cells 48 .vr [.sl (H.length + 1) 0 es.length]]
def EachRel (args : List AV) (H : Heap) (r : AV × Heap) : Prop :=
  ∃ b o dst x ty kn cs, args = [.p b o, dst] ∧ H[b]? = some (.cells ty kn cs) ∧ cs[o]? = some x ∧ dst.one = true ∧
    (((x = .m0 ∨ ∃ i, x = .mp i ∧ H[i]? = some (.map .u32 [])) ∧ r = (dst, H)) ∨
      ∃ i es es', x = .mp i ∧ H[i]? = some (.map .u32 es) ∧ List.Perm es' es ∧ (es'.map (·.1)).Pairwise (· < ·) ∧ 0 < es.length ∧ es.length ≤ 1099511627776 ∧
        EachRun H.length [b, i, H.length + 1, H.length + 2] (eachHeap H dst es') es' r.2 ∧ loadA P r.2 tB (.p H.length 0) = some r.1)
open Classical in
noncomputable def eachS : CallA := fun _ args H => if h : ∃ r, EachRel args H r then some h.choose else none
noncomputable def nsEach : CallA := fun f args H => cond (Nat.beq f 25) (eachS f args H) none
def isEach (f : FuncId) : Bool := Nat.beq f 25
theorem nsEach_none {f : FuncId} (h : isEach f = false) (args : List AV) (H : Heap) : nsEach f args H = none := by
  have h : (Nat.beq f 25) = false := h
  unfold nsEach; rw [h]; rfl
def nsTg : CallA := fun _ _ _ => none
def isTg (f : FuncId) : Bool := false
theorem nsTg_none {f : FuncId} (h : isTg f = false) (args : List AV) (H : Heap) : nsTg f args H = none := rfl
def nsLow : CallA := fun _ _ _ => none
def isLow (f : FuncId) : Bool := false
theorem nsLow_none {f : FuncId} (h : isLow f = false) (args : List AV) (H : Heap) : nsLow f args H = none := rfl
def nsTrim : CallA := fun _ _ _ => none
def isTrim (f : FuncId) : Bool := false
theorem nsTrim_none {f : FuncId} (h : isTrim f = false) (args : List AV) (H : Heap) : nsTrim f args H = none := rfl
def nsF64 : CallA := fun _ _ _ => none
def nsO64 : CallA := fun _ _ _ => none
def isF64 (f : FuncId) : Bool := false
theorem nsF64_none {f : FuncId} (h : isF64 f = false) (args : List AV) (H : Heap) : nsF64 f args H = none ∧ nsO64 f args H = none := ⟨rfl, rfl⟩
def orS (a b : CallA) : CallA := fun f args H => match a f args H with
  | some r => some r
  | none => b f args H
theorem orS_none {a b : CallA} {f : FuncId} {args : List AV} {H : Heap} (h : a f args H = none) (k : b f args H = none) : orS a b f args H = none := by
  unfold orS; rw [h]; exact k
theorem orS_left {a b : CallA} {f : FuncId} {args : List AV} {H : Heap} {r : AV × Heap} (h : a f args H = some r) : orS a b f args H = some r := by
  unfold orS; rw [h]
noncomputable def NS : CallA := orS nsEach (orS (orS nsLow nsTrim) (orS nsF64 (orS nsO64 nsTg)))
def noNS (f : FuncId) : Bool := !(isEach f || ((isLow f || isTrim f) || (isF64 f || isTg f)))
theorem NS_none {f : FuncId} (h : noNS f = true) (args : List AV) (H : Heap) : NS f args H = none := by
  simp only [noNS, Bool.not_eq_true', Bool.or_eq_false_iff] at h
  exact orS_none (nsEach_none h.1 _ _) (orS_none (orS_none (nsLow_none h.2.1.1 _ _) (nsTrim_none h.2.1.2 _ _)) (orS_none (nsF64_none h.2.2.1 _ _).1 (orS_none (nsF64_none h.2.2.1 _ _).2 (nsTg_none h.2.2.2 _ _))))
theorem CA.go {P : Program} {f : FuncId} {fn : Func} {c : Code} {args : List AV} {H H1 : Heap} {x : AX} {vs : List AV} (hf : P.funcs[f]? = some fn) (hb : fn.body = some c) (hx : x = .normal ∨ x = .ret)
    (h : ∃ fr1, RU P NS c (args ++ List.replicate (fn.ntmps - args.length) (.t [])) H (x, fr1, H1) ∧ resultsA P H1 fr1 fn.results.toList = some vs) (hs : NS f args H = none := by exact NS_none rfl _ _) : CA P NS f args H (packA vs, H1) := by
  obtain ⟨fr1, h1, h2⟩ := h
  exact CA.of hs hf hb hx h1 h2
structure Emp (S : CallA) : Prop where
  none : ∀ f args H, noNS f = true → S f args H = none
theorem emp_ns : Emp NS := ⟨fun f args H h => NS_none h args H⟩
theorem emp_noS : Emp noS := ⟨fun f args H h => rfl⟩
theorem CA.goS {S : CallA} {P : Program} {f : FuncId} {fn : Func} {c : Code} {args : List AV} {H H1 : Heap} {x : AX} {vs : List AV} (E : Emp S) (hf : P.funcs[f]? = some fn) (hb : fn.body = some c) (hx : x = .normal ∨ x = .ret)
    (h : ∃ fr1, RU P S c (args ++ List.replicate (fn.ntmps - args.length) (.t [])) H (x, fr1, H1) ∧ resultsA P H1 fr1 fn.results.toList = some vs) (hs : noNS f = true := by rfl) : CA P S f args H (packA vs, H1) := by
  obtain ⟨fr1, h1, h2⟩ := h
  exact CA.of (E.none _ _ _ hs) hf hb hx h1 h2
end Go.Proofs.YtiifcfngbbhgoagDoor.Rd

