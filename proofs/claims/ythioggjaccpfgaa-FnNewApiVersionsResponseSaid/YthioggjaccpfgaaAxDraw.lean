/-
  THE ABSTRACT MACHINE: a region that draws its order. It is run in the text's order; then it is asked whether every order that the edges allow comes to the same.
-/
import Derived.Test.YthioggjaccpfgaaAxDef
namespace Go.Proofs.Ythioggjaccpfgaa.Ax
open Go

structure Ent where
  o : Oper
  wanted : Bool
  eff : Bool
  no : Nat
  lo : Nat
  val : AV
  fr : List AV

def depOf (es : List Ent) (i : Nat) : Nat :=
  match es[i]? with
  | some e => if e.eff then e.no + 1 else e.lo
  | none => 0
def loOf (es : List Ent) : List Edge → Nat
  | [] => 0
  | d :: r => if Region.binds .any d then max (depOf es d.on) (loOf es r) else loOf es r
def countEff (es : List Ent) : Nat := (es.filter (·.eff)).length

/-- A frame of which these slots alone are known. -/
def restr (ts : List Tmp) (fr : List AV) : List AV := fr.zipIdx.map fun (x, t) => if ts.contains t then x else .u

/-- The run in the text's order: what each op came to; the heaps behind 0, 1, .. effects. -/
def lexA (P : Program) (call : CallA) (ops : Array Oper) : List Oper → List Ent → List Heap → List AV → Heap → Option (List Ent × List Heap × List AV × Heap)
  | [], es, Hs, fr, H => some (es, Hs, fr, H)
  | o :: rest, es, Hs, fr, H =>
    match wantA ops (restr (o.looksAt ops) fr) o.guard with
    | some true =>
      if isEff o.op then
        match oneOp P call o.op (restr (o.looksAt ops) fr) H with
        | some (v, H') => lexA P call ops rest (es ++ [⟨o, true, true, countEff es, loOf es o.after.toList, v, restr (o.looksAt ops) fr⟩]) (Hs ++ [H']) (putA fr o.dst v) H'
        | none => none
      else
        match opA P o.op (restr (o.looksAt ops) fr) H with
        | some (v, _) => lexA P call ops rest (es ++ [⟨o, true, false, countEff es, loOf es o.after.toList, v, restr (o.looksAt ops) fr⟩]) Hs (putA fr o.dst v) H
        | none => none
    | some false => lexA P call ops rest (es ++ [⟨o, false, false, countEff es, loOf es o.after.toList, .t [], restr (o.looksAt ops) fr⟩]) Hs (putA fr o.dst (.t [])) H
    | none => none

/-- Does the edge list hold a binding edge on i? -/
def behind (o : Oper) (i : Nat) : Bool := o.after.toList.any fun e => Region.binds .any e && e.on == i

mutual
/-- Two abstract values, the same as written. -/
def sameV : AV → AV → Bool
  | .u, .u | .p0, .p0 | .s0, .s0 | .se, .se | .m0, .m0 | .n, .n | .e, .e => true
  | .mp a, .mp b => a == b
  | .gp a, .gp b => a == b
  | .k a, .k b => a == b
  | .b a, .b b => a == b
  | .i k a, .i l b => k == l && a == b
  | .f k a, .f l b => k == l && a == b
  | .s a, .s b => a.toList == b.toList
  | .p a b, .p c d => a == c && b == d
  | .sl a b n, .sl c d m => a == c && b == d && n == m
  | .fn f a, .fn g b => f == g && sameVs a b
  | .g a, .g b => sameVs a b
  | .t a, .t b => sameVs a b
  | _, _ => false
def sameVs : List AV → List AV → Bool
  | [], [] => true
  | a :: r, b :: s => sameV a b && sameVs r s
  | _, _ => false
end

/-- An op that is no effect gives its value at every heap that it may meet. -/
def floatOk (P : Program) (e : Ent) (Hs : List Heap) : Bool :=
  (Hs.drop e.lo).all fun H => match opA P e.o.op e.fr H with
    | some (v, _) => sameV v e.val
    | none => false

/-- Every reading of a slot that an op of the region writes stands in order with the writing. -/
def slotsOk (ops : Array Oper) (l : List Oper) : Bool :=
  l.zipIdx.all fun (o, k) => (o.looksAt ops).all fun t => l.zipIdx.all fun (o', i) => o'.dst != some t || i == k || behind o i || behind o' k
def edgesOk (l : List Oper) : Bool :=
  l.zipIdx.all fun (o, k) => o.after.toList.all fun e => !Region.binds .any e || e.on < k
def dstsOk (l : List Oper) : Bool :=
  l.zipIdx.all fun (o, k) => l.zipIdx.all fun (o', i) => i == k || o.dst == none || o'.dst != o.dst

def drawA (P : Program) (call : CallA) (ops : Array Oper) (fr : List AV) (H : Heap) : Option (List AV × Heap) :=
  if P.follows .mixedOrders && edgesOk ops.toList && slotsOk ops ops.toList && dstsOk ops.toList then
    match lexA P call ops ops.toList [] [H] fr H with
    | some (es, Hs, fr', H') =>
      if es.all (fun e => if e.eff then e.no ≤ e.lo else !e.wanted || floatOk P e Hs) then some (fr', H') else none
    | none => none
  else none

def run (P : Program) (S : CallA) (n : Nat) : CallA := callWith P S (exec P S (drawA P) n)

end Go.Proofs.Ythioggjaccpfgaa.Ax
