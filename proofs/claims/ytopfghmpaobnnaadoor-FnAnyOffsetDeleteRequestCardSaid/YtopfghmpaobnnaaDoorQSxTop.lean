import Derived.Test.YtopfghmpaobnnaaDoorQSxFin
/-
  THE CHECKER: a whole reading function.
-/
namespace Go.Proofs.YtopfghmpaobnnaaDoor.Rd
set_option linter.constructorNameAsVariable false
set_option linter.unusedVariables false
set_option linter.unusedSimpArgs false
open Go Go.Proofs.YtopfghmpaobnnaaDoor.Ax Go.Proofs.YtopfghmpaobnnaaDoor.Wire
set_option linter.unusedVariables false
set_option linter.unusedSimpArgs false
set_option maxRecDepth 100000

def psIs : List (Nat × Operand) → Nat → Bool
  | [(0, .tmp a')], a => a' == a
  | _, _ => false
/-- The reader's own making. -/
def mkOp : List Oper → Option (Nat × Nat × Nat)
  | [⟨some a, .move (.tmp 1), _, _, _, none⟩, ⟨some b, .build t ps, _, _, _, none⟩, ⟨some c, .alloc t', _, _, _, none⟩, ⟨none, .store t'' (.tmp c') (.tmp b'), _, _, _, none⟩] =>
    if t = tR ∧ t' = tR ∧ t'' = tR ∧ c' = c ∧ b' = b ∧ psIs ps.toList a = true ∧ a ≠ b ∧ b ≠ c then some (a, b, c) else none
  | _ => none
def oneRes : List ResultVar → Option Nat
  | [.tmp t] => some t
  | _ => none
/-- The state ahead of the reader's making. -/
def topS (ntmps : Nat) (w0 : SF) : SS := { fr := [.ptr 0 0, .pt 0, .b false] ++ List.replicate (ntmps - 3) .u, win := [w0], zs := [none], live := 1, base := 1, evs := [], rdy := false }
/-- A reading function: what it reads of a message's bytes. -/
noncomputable def chkTop (C : Cfg) (fn : Func) (w0 : SF) : Option (List (Ev × Nat) × SF) :=
  match fn.body with
  | some c =>
    let l := flat c
    match l.drop 2, runL C (some true) (inlS C 6) fuelI (l.take 2) (topS fn.ntmps w0) with
    | .region _ ops false :: rest, some (.normal, s1) => match mkOp ops.toList with
      | some (a, b, r) =>
        let body := rest.take (rest.length - 2)
        let tl := rest.drop (rest.length - 2)
        if s1.fr[1]? = some (.pt 0) ∧ s1.evs = [] ∧ s1.win.length = 1 ∧ a < s1.fr.length ∧ b < s1.fr.length ∧ r < s1.fr.length ∧ s1.zs = [none] ∧ s1.rdy = false ∧ s1.fr.contains .rd = false ∧ (s1.win.all fun w => w.all SV.still) = true ∧ oneRes fn.results.toList = some C.res then
          match chk C 400 body { s1 with fr := ((s1.fr.set a .u).set b .u).set r .rd, rdy := true } with
          | some s2 => match runL C (some true) (inlS C 6) fuelI tl s2, runL C (some false) (inlS C 6) fuelI tl s2, s2.win with
            | some (.ret, sg), some (.ret, sb), [w] => if sg.fr[C.res]? = some (.z .n) ∧ sb.fr[C.res]? = some (.z .e) ∧ sg.win = s2.win ∧ (w.all SV.still) = true then (places w 1 s2.evs).map fun pl => (pl, w) else none
            | _, _, _ => none
          | none => none
        else none
      | none => none
    | _, _ => none
  | none => none
end Go.Proofs.YtopfghmpaobnnaaDoor.Rd

