import Derived.Test.YtopfghmpaobnnaaDoorQWireB
/-
  FORMATS BY PARTS: a format is a row of parts, each with its place. Plain Lean: no program here.
-/
namespace Go.Proofs.YtopfghmpaobnnaaDoor.Wire
set_option linter.constructorNameAsVariable false
set_option linter.unusedVariables false
set_option linter.unusedSimpArgs false

inductive Ev where
  | leaf (k : K) (null : Bool)
  | list (sz : Nat) (null : Bool) (e : F)
  | tags
  deriving DecidableEq, Repr

def Ev.wide : Ev → Nat
  | .leaf k _ => k.wide
  | _ => 1
def Ev.node : Ev → Nat → F → F
  | .leaf k n, o, r => .leaf o k n r
  | .list sz n e, o, r => .list o sz n e r
  | .tags, o, r => .tags o r
def Ev.dec (flex : Bool) : Ev → B → Option (V × B)
  | .leaf k n, bs => decK flex k n bs
  | .list _ n e, bs => (rdL flex bs).bind fun (l, bs) => if n && l < 0 then some (V.nul, bs) else (many (Wire.dec flex e) l.toNat bs).map fun (vs, bs) => (V.l vs, bs)
  | .tags, bs => (rdV bs).bind fun (n, bs) => (decT n [] bs).map fun (ts, bs) => (V.t ts, bs)
def Ev.enc (flex : Bool) : Ev → V → B
  | .leaf k _, v => encK flex k v
  | .list _ _ e, .l vs => cnt flex 4 vs.length ++ vs.flatMap (Wire.enc flex e)
  | .list _ _ _, _ => cnt0 flex 4
  | .tags, .t ts => uv ts.length ++ encT ts
  | .tags, _ => []
/-- A row of parts, and what they say. -/
def nodes : List (Ev × Nat) → F
  | [] => .nil
  | (e, o) :: r => e.node o (nodes r)
def packV : List V → V
  | [] => .u
  | v :: r => .c v (packV r)
def runE (flex : Bool) : List Ev → B → Option (List V × B)
  | [], bs => some ([], bs)
  | e :: r, bs => (e.dec flex bs).bind fun (v, bs) => (runE flex r bs).map fun (vs, bs) => (v :: vs, bs)

theorem dec_node (flex : Bool) (e : Ev) (o : Nat) (r : F) (bs : B) : dec flex (e.node o r) bs = (e.dec flex bs).bind fun (v, bs) => (dec flex r bs).map fun (w, bs) => (V.c v w, bs) := by
  cases e with
  | leaf k n => rfl
  | list sz n f => simp only [Ev.node, dec, Ev.dec, Option.bind_assoc]
  | tags =>
    simp only [Ev.node, dec, Ev.dec]
    cases rdV bs with
    | none => rfl
    | some p =>
      simp only [Option.bind_some]
      cases decT p.1 [] p.2 <;> rfl
theorem dec_nodes (flex : Bool) : ∀ (l : List (Ev × Nat)) (bs : B), dec flex (nodes l) bs = (runE flex (l.map (·.1)) bs).map fun (vs, r) => (packV vs, r)
  | [], bs => rfl
  | (e, o) :: r, bs => by
    simp only [nodes, dec_node, List.map_cons, runE]
    cases e.dec flex bs with
    | none => rfl
    | some p =>
      simp only [Option.bind_some, dec_nodes flex r, Option.map_map]
      rfl
theorem runE_app (flex : Bool) : ∀ (a b : List Ev) (bs : B), runE flex (a ++ b) bs = (runE flex a bs).bind fun (vs, r) => (runE flex b r).map fun (us, r) => (vs ++ us, r)
  | [], b, bs => by simp [runE]
  | e :: a, b, bs => by
    simp only [List.cons_append, runE]
    cases e.dec flex bs with
    | none => rfl
    | some p =>
      simp only [Option.bind_some, runE_app flex a b]
      cases runE flex a p.2 with
      | none => rfl
      | some q =>
        simp only [Option.bind_some, Option.map_some, Option.map_map]
        rfl
theorem runE_length {flex : Bool} : ∀ {l : List Ev} {bs r : B} {vs : List V}, runE flex l bs = some (vs, r) → vs.length = l.length
  | [], bs, r, vs, h => by simp [runE] at h; rw [h.1]; rfl
  | e :: l, bs, r, vs, h => by
    simp only [runE] at h
    cases hd : e.dec flex bs with
    | none => rw [hd] at h; cases h
    | some p =>
      rw [hd] at h
      simp only [Option.bind_some, Option.map_eq_some_iff] at h
      obtain ⟨⟨us, r1⟩, h1, h2⟩ := h
      simp at h2
      rw [← h2.1, List.length_cons, List.length_cons, runE_length h1]
theorem runE_snoc (flex : Bool) (a : List Ev) (e : Ev) (bs : B) : runE flex (a ++ [e]) bs = (runE flex a bs).bind fun (vs, r) => (e.dec flex r).map fun (v, r) => (vs ++ [v], r) := by
  rw [runE_app]
  cases runE flex a bs with
  | none => rfl
  | some q =>
    simp only [Option.bind_some, runE]
    cases e.dec flex q.2 <;> simp [runE]
theorem enc_node {flex : Bool} (e : Ev) (o : Nat) (r : F) (v w : V) (h : ∀ (_ : e = .tags), ∃ ts, v = .t ts) : enc flex (e.node o r) (.c v w) = e.enc flex v ++ enc flex r w := by
  cases e with
  | leaf k n => rfl
  | list sz n f => cases v <;> rfl
  | tags =>
    obtain ⟨ts, rfl⟩ := h rfl
    rfl
theorem many_snoc {d : B → Option (V × B)} : ∀ (n : Nat) (bs : B), many d (n + 1) bs = (many d n bs).bind fun (us, r) => (d r).map fun (v, r) => (us ++ [v], r)
  | 0, bs => by
    simp only [many, Option.bind_some]
    cases d bs <;> simp
  | n + 1, bs => by
    conv => lhs; unfold many
    conv => rhs; unfold many
    cases hd : d bs with
    | none => rfl
    | some p =>
      simp only [Option.bind_some, many_snoc n]
      cases many d n p.2 with
      | none => rfl
      | some q =>
        simp only [Option.bind_some, Option.map_some]
        cases d q.2 <;> simp
theorem many_none {d : B → Option (V × B)} {n : Nat} {bs : B} (h : many d n bs = none) : ∀ k, many d (n + k) bs = none
  | 0 => h
  | k + 1 => by
    have := many_none h k
    show many d ((n + k) + 1) bs = none
    rw [many_snoc, this]; rfl
theorem many_length {d : B → Option (V × B)} : ∀ (n : Nat) {bs r : B} {vs : List V}, many d n bs = some (vs, r) → vs.length = n := fun n _ _ _ h => (many_ok n h).1
theorem runE_more {flex : Bool} {a : List Ev} {bs : B} (h : runE flex a bs = none) (b : List Ev) : runE flex (a ++ b) bs = none := by rw [runE_app, h]; rfl
end Go.Proofs.YtopfghmpaobnnaaDoor.Wire

