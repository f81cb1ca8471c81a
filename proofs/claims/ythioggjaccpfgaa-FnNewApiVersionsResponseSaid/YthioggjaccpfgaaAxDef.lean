/-
  AN ABSTRACT MACHINE for the program's code: definitions. Values without capacities and without addresses; a heap of its own. What it computes, the program's own run computes, in whatever memory (the texts behind). No Go text and no dump here.
-/
import Derived.WalkKit
import Derived.Orders
namespace Go.Proofs.Ythioggjaccpfgaa.Ax
open Go

/-- An abstract value. 'u': not known; 'k j': the j-th outside value; 'p i o': a pointer to cell o of block i; 'sl i o n': a slice of n elements that begins there; 'se': an empty slice that is not nil. -/
inductive AV where
  | u
  | k (j : Nat)
  | b (x : Bool)
  | i (kd : IntKind) (n : Int)
  | f (kd : FloatKind) (bits : Nat)
  | s (x : ByteArray)
  | p0
  | p (i o : Nat)
  | s0
  | se
  | sl (i o n : Nat)
  | m0
  | mp (i : Nat)
  | n
  | e
  | gp (g : Nat)
  | fn (f : FuncId) (caps : List AV)
  | g (cs : List AV)
  | t (vs : List AV)
  deriving Inhabited

/-- Not an aggregate, not a tuple, and known: what may lie in one cell. -/
def AV.one : AV → Bool
  | .u | .g _ | .t _ => false
  | _ => true
def AV.isS : AV → Bool
  | .s _ => true
  | _ => false
def AV.cells : AV → List AV
  | .g cs => cs
  | v => [v]

/-- What a block is: it came in, and is only read; a variable; the row of a slice. -/
inductive Kn where
  | ro | vr | row
def Kn.own : Kn → Bool
  | .ro => false
  | _ => true

/-- An abstract block: cells of a type. -/
inductive Blk where
  | cells (ty : TypeId) (kn : Kn) (cs : List AV)
  | dead
  deriving Inhabited
abbrev Heap := List Blk

/-- The exits that the machine knows. -/
inductive AX where
  | normal
  | ret
  | exit (id : Nat)
  | goto (l : Nat)

/-- A value of the program that names no address. -/
def ofV1 : Value → Option AV
  | .bool x => some (.b x)
  | .int k n => some (.i k n)
  | .float k x => some (.f k x)
  | .string x => some (.s x)
  | .pointer none => some .p0
  | .slice none 0 0 => some .s0
  | .map none => some .m0
  | .nilIface => some .n
  | _ => none
def ofVs : List Value → Option (List AV)
  | [] => some []
  | v :: vs => match ofV1 v, ofVs vs with
    | some x, some xs => some (x :: xs)
    | _, _ => none
def ofV : Value → Option AV
  | .agg cs => (ofVs cs.toList).map .g
  | .tuple cs => (ofVs cs.toList).map .t
  | v => ofV1 v

def ev (fr : List AV) : Operand → Option AV
  | .tmp t => fr[t]?
  | .const v => ofV v
  | .global g => some (.gp g)
  | .func f => some (.fn f [])

def ofSem : Sem Value → Option AV
  | .pure v => ofV1 v
  | _ => none

def sizeA (P : Program) (t : TypeId) : Option Nat := (P.info? t).map (·.size)
def bytesA (P : Program) (t : TypeId) : Option Nat := (P.info? t).map (·.bytes)
def zeroA (P : Program) (t : TypeId) : Option AV := ((P.info? t).bind (·.zero)).bind ofV
def aggA (P : Program) (t : TypeId) : Option Bool :=
  match P.underlying t with
  | some (.struct _) | some (.array _ _) => some true
  | some _ => some false
  | none => none
def elemA (P : Program) (t : TypeId) : Option TypeId :=
  match P.underlying t with
  | some (.slice e) => some e
  | _ => none

def newBlk (H : Heap) (ty : TypeId) (kn : Kn) (cs : List AV) : Option (Nat × Heap) :=
  if cs.all AV.one then some (H.length, H ++ [.cells ty kn cs]) else none

def loadAt (P : Program) (H : Heap) (t : TypeId) (i o : Nat) : Option AV :=
  match H[i]?, aggA P t, sizeA P t with
  | some (.cells _ _ cs), some true, some sz =>
    if o + sz ≤ cs.length then some (.g ((cs.drop o).take sz)) else none
  | some (.cells _ _ cs), some false, _ => cs[o]?
  | _, _, _ => none
/-- Is the block one that came in? -/
def isRo (H : Heap) (i : Nat) : Bool :=
  match H[i]? with
  | some (.cells _ .ro _) => true
  | _ => false
def loadA (P : Program) (H : Heap) (t : TypeId) : AV → Option AV
  | .p i o => loadAt P H t i o
  | .gp g => if isRo H g then loadAt P H t g 0 else none
  | _ => none

/-- Cells written over others, from place o on. -/
def over (cs new : List AV) (o : Nat) : List AV := cs.take o ++ new ++ cs.drop (o + new.length)

def storeA (P : Program) (H : Heap) (t : TypeId) (a v : AV) : Option Heap :=
  match a with
  | .p i o => match H[i]?, sizeA P t with
    | some (.cells ty kn cs), some sz =>
      if kn.own = true ∧ v.cells.length = sz ∧ o + sz ≤ cs.length ∧ v.cells.all AV.one then some (H.set i (.cells ty kn (over cs v.cells o))) else none
    | _, _ => none
  | _ => none

def fillA (place : Nat → Option (Nat × Nat)) (cells : List AV) : List (Nat × AV) → Option (List AV)
  | [] => some cells
  | (i, v) :: rest =>
    match place i with
    | some (off, size) =>
      if v.cells.length = size ∧ off + size ≤ cells.length ∧ v.cells.all AV.one then fillA place (over cells v.cells off) rest else none
    | none => none
def evs (fr : List AV) : List (Nat × Operand) → Option (List (Nat × AV))
  | [] => some []
  | (i, x) :: r => match ev fr x, evs fr r with
    | some v, some vs => some ((i, v) :: vs)
    | _, _ => none
def evl (fr : List AV) : List Operand → Option (List AV)
  | [] => some []
  | x :: r => match ev fr x, evl fr r with
    | some v, some vs => some (v :: vs)
    | _, _ => none

def fieldPlaceA (P : Program) (fields : Array Field) (i : Nat) : Option (Nat × Nat) :=
  match fields[i]? with
  | some f => (sizeA P f.type).map fun s => (f.offset, s)
  | none => none

def buildA (P : Program) (t : TypeId) (parts : List (Nat × AV)) : Option AV :=
  match P.underlying t, zeroA P t with
  | some (.struct fields), some z => if fields.toList.all (fun f => (sizeA P f.type).isSome) && z.cells.all AV.one then (fillA (fieldPlaceA P fields) z.cells parts).map .g else none
  | _, _ => none

def zerosA (z : List AV) : Nat → List AV
  | 0 => []
  | n + 1 => z ++ zerosA z n

def buildSliceA (P : Program) (H : Heap) (t : TypeId) (len : Nat) (parts : List (Nat × AV)) : Option (AV × Heap) :=
  match elemA P t with
  | some e => match sizeA P e, zeroA P e with
    | some sz, some z =>
      if 0 < sz ∧ z.cells.length = sz ∧ z.cells.all AV.one ∧ len * sz ≤ 16777216 ∧ 0 < len then
        match fillA (fun i => some (i * sz, sz)) (zerosA z.cells len) parts with
        | some cs => (newBlk H e .row cs).map fun (i, H') => (.sl i 0 len, H')
        | none => none
      else none
    | _, _ => none
  | none => none

def makeSliceA (P : Program) (H : Heap) (t : TypeId) (len cap : AV) : Option (AV × Heap) :=
  match len, cap with
  | .i .i64 l, .i .i64 c => match elemA P t with
    | some e => match sizeA P e, bytesA P e, zeroA P e with
      | some sz, some by_, some z =>
        if 0 < sz ∧ z.cells.length = sz ∧ z.cells.all AV.one ∧ l = c ∧ 0 < l ∧ l ≤ 1048576 ∧ by_ ≤ 65536 then
          (newBlk H e .row (zerosA z.cells l.toNat)).map fun (i, H') => (.sl i 0 l.toNat, H')
        else none
      | _, _, _ => none
    | none => none
  | _, _ => none

def nilCheckA : AV → Option AV
  | .p i o => some (.p i o)
  | _ => none

def fieldAddrA (P : Program) (t : TypeId) (x : AV) (k : Nat) : Option AV :=
  match x, P.underlying t with
  | .p i o, some (.struct fields) => match fields[k]? with
    | some f => match sizeA P f.type with
      | some (_ + 1) => some (.p i (o + f.offset))
      | _ => none
    | none => none
  | _, _ => none

def fieldA (P : Program) (t : TypeId) (x : AV) (k : Nat) : Option AV :=
  match x, P.underlying t with
  | .g cs, some (.struct fields) => match fields[k]? with
    | some f => match aggA P f.type, sizeA P f.type with
      | some true, some sz => if f.offset + sz ≤ cs.length then some (.g ((cs.drop f.offset).take sz)) else none
      | some false, _ => cs[f.offset]?
      | _, _ => none
    | none => none
  | _, _ => none

def indexAddrA (P : Program) (t : TypeId) (x ix : AV) : Option AV :=
  match x, ix, elemA P t with
  | .sl i o n, .i _ k, some e => match sizeA P e with
    | some sz => if 0 ≤ k ∧ k < n then some (.p i (o + k.toNat * sz)) else none
    | none => none
  | _, _, _ => none

def indexA (P : Program) (t : TypeId) (x ix : AV) : Option AV :=
  match x, ix, P.underlying t with
  | .s bs, .i _ k, some .string => if 0 ≤ k then (bs[k.toNat]?).map fun c => .i .u8 c.toNat else none
  | _, _, _ => none

/-- The whole of an array behind a pointer, as a slice: of a variable alone. -/
def sliceArrA (P : Program) (H : Heap) (t : TypeId) (x : AV) : Option AV :=
  match P.underlying t, x with
  | some (.array n e), .p i o => match H[i]?, sizeA P e with
    | some (.cells _ .vr _), some _ => if 0 < n ∧ n ≤ 1048576 then some (.sl i o n) else none
    | _, _ => none
  | _, _ => none

/-- x[lo:hi] of a slice; the bounds within its length. -/
def sliceA (P : Program) (t : TypeId) (x : AV) (lo hi : Option AV) : Option AV :=
  match elemA P t with
  | some e => match sizeA P e with
    | some sz =>
      match lo, hi with
      | some (.i _ l), none => match x with
        | .sl i o n => if 0 < sz ∧ 0 ≤ l ∧ l ≤ n then (if l = 0 then some (.sl i o n) else if l = n then some .se else some (.sl i (o + l.toNat * sz) (n - l.toNat))) else none
        | .s0 => if l = 0 then some .s0 else none
        | .se => if l = 0 then some .se else none
        | _ => none
      | none, some (.i _ h) => match x with
        | .sl i o n => if 0 ≤ h ∧ h ≤ n then some (.sl i o h.toNat) else none
        | .s0 => if h = 0 then some .s0 else none
        | .se => if h = 0 then some .se else none
        | _ => none
      | _, _ => none
    | none => none
  | none => none

/-- x[:h:h] of a slice; the bound within its length. -/
def sliceMaxA (P : Program) (t : TypeId) (x h m : AV) : Option AV :=
  match elemA P t with
  | some e => match sizeA P e with
    | some _ =>
      match h, m with
      | .i _ h, .i _ m => if h = m then (match x with
        | .sl i o n => if 0 ≤ h ∧ h ≤ n then (if h = 0 then some .se else some (.sl i o h.toNat)) else none
        | .s0 => if h = 0 then some .s0 else none
        | .se => if h = 0 then some .se else none
        | _ => none) else none
      | _, _ => none
    | none => none
  | none => none

def lenA (P : Program) (t : TypeId) (x : AV) : Option AV :=
  match P.underlying t, x with
  | some .string, .s bs => some (.i .i64 bs.size)
  | some (.slice _), .s0 => some (.i .i64 0)
  | some (.slice _), .se => some (.i .i64 0)
  | some (.slice _), .sl _ _ n => some (.i .i64 n)
  | some (.map _ _), .m0 => some (.i .i64 0)
  | _, _ => none

/-- The cells of the first n elements of a slice, or a string's bytes. -/
def firstA (H : Heap) (sz : Nat) : AV → Option (Nat × List AV)
  | .s bs => some (bs.size, bs.toList.map fun c => .i .u8 c.toNat)
  | .s0 | .se => some (0, [])
  | .sl i o n => match H[i]? with
    | some (.cells _ _ cs) => if o + n * sz ≤ cs.length then some (n, (cs.drop o).take (n * sz)) else none
    | _ => none
  | _ => none

def appendA (P : Program) (H : Heap) (t1 : TypeId) (str : Bool) (s x : AV) : Option (AV × Heap) :=
  match elemA P t1 with
  | some e => match sizeA P e, bytesA P e, zeroA P e with
    | some sz, some by_, some z =>
      if 0 < sz ∧ z.cells.length = sz ∧ z.cells.all AV.one ∧ (str → sz = 1 ∧ by_ = 1) then
        match firstA H sz x with
        | some (m, new) =>
          match s with
          | .s0 =>
            if m = 0 then some (.s0, H)
            else if m * by_ ≤ 140737488355328 ∧ m ≤ 140737488355328 then (newBlk H e .row new).map fun (j, H') => (.sl j 0 m, H') else none
          | .sl i 0 n => match H[i]? with
            | some (.cells ty .row cs) =>
              if ty = e ∧ n * sz ≤ cs.length ∧ (n + m) * by_ ≤ 140737488355328 ∧ n + m ≤ 140737488355328 then (newBlk (H.set i .dead) e .row (cs.take (n * sz) ++ new)).map fun (j, H') => (.sl j 0 (n + m), H')
              else none
            | _ => none
          | _ => none
        | none => none
      else none
    | _, _, _ => none
  | none => none

def copyA (P : Program) (H : Heap) (t : TypeId) (d x : AV) : Option (AV × Heap) :=
  match elemA P t with
  | some e => match sizeA P e with
    | some 1 => match d, firstA H 1 x with
      | .sl i o n, some (m, new) => match H[i]? with
        | some (.cells ty kn cs) =>
          if kn.own = true ∧ o + n ≤ cs.length then some (.i .i64 (min m n : Nat), H.set i (.cells ty kn (over cs (new.take (min m n)) o))) else none
        | _ => none
      | _, _ => none
    | _ => none
  | none => none

/-- Append of so many zeros to the nil slice. -/
def appendZ (P : Program) (H : Heap) (t1 : TypeId) (s x : AV) : Option (AV × Heap) :=
  match elemA P t1 with
  | some e => match sizeA P e, bytesA P e, zeroA P e with
    | some sz, some by_, some z =>
      match s, x with
      | .s0, .i _ l =>
        if 0 < sz ∧ z.cells.length = sz ∧ z.cells.all AV.one ∧ 0 < l ∧ l.toNat * by_ ≤ 140737488355328 ∧ l ≤ 140737488355328 then
          (newBlk H e .row (zerosA z.cells l.toNat)).map fun (j, H') => (.sl j 0 l.toNat, H')
        else none
      | _, _ => none
    | _, _, _ => none
  | none => none

/-- The bytes that the cells are. -/
def bytesOf : List AV → Option (List UInt8)
  | [] => some []
  | .i .u8 n :: r => (bytesOf r).map fun l => UInt8.ofNat n.toNat :: l
  | _ => none
def strOf (H : Heap) : AV → Option ByteArray
  | .s0 | .se => some .empty
  | .sl i o n => match H[i]? with
    | some (.cells _ _ cs) => if o + n ≤ cs.length then (bytesOf ((cs.drop o).take n)).map fun l => ⟨l.toArray⟩ else none
    | _ => none
  | _ => none
/-- Bytes turned into a text. -/
def strA (P : Program) (H : Heap) (src dst : TypeId) (x : AV) : Option AV :=
  match P.underlying src, P.underlying dst with
  | some (.slice e), some .string => match P.underlying e with
    | some (.int .u8) => (strOf H x).map .s
    | _ => none
  | _, _ => none

def maxA : AV → AV → Option AV
  | .i k x, .i k' y => if k = k' then some (.i k (if x < y then y else x)) else none
  | _, _ => none
def minA : AV → AV → Option AV
  | .i k x, .i k' y => if k = k' then some (.i k (if y < x then y else x)) else none
  | _, _ => none

def convA (P : Program) (src dst : TypeId) (x : AV) : Option AV :=
  match (P.underlying src).isSome, P.underlying dst, x with
  | true, some (.int k), .i _ n => some (.i k (k.wrap n))
  | _, _, _ => none

/-- Are two values of pointers, slices or bools, one of them nil or both bools, equal? -/
def eqA (P : Program) (t : TypeId) (x y : AV) : Option Bool :=
  match P.underlying t, x, y with
  | some (.pointer _), .p0, .p0 => some true
  | some (.pointer _), .p _ _, .p0 => some false
  | some (.pointer _), .p0, .p _ _ => some false
  | some (.slice _), .s0, .s0 => some true
  | some (.slice _), .s0, .sl _ _ _ => some false
  | some (.slice _), .sl _ _ _, .s0 => some false
  | some (.slice _), .se, .s0 => some false
  | some (.bool), .b p, .b q => some (p == q)
  | some (.interface _), .e, .n => some false
  | some (.interface _), .n, .e => some false
  | some (.map _ _), .m0, .m0 => some true
  | some (.map _ _), .mp _, .m0 => some false
  | _, _, _ => none

def binA (P : Program) (op : BinOp) (t : TypeId) (cst : Bool) (x y : AV) : Option AV :=
  match x, y with
  | .n, .n => match P.underlying t, cst, op with
    | some (.interface _), true, .eql => some (.b true)
    | some (.interface _), true, .neq => some (.b false)
    | _, _, _ => none
  | .i k a, .i l b => ofSem (binOp op t (.int k a) (.int l b))
  | .s a, .s b => ofSem (binOp op t (.string a) (.string b))
  | x, y => match op with
    | .eql => (eqA P t x y).map .b
    | .neq => (eqA P t x y).map fun r => .b (!r)
    | _ => none

def unA (op : UnOp) (x : AV) : Option AV :=
  match op, x with
  | .not, .b v => some (.b (!v))
  | .neg, .i k n => some (.i k (k.wrap (0 - n)))
  | _, _ => none

def isC : Operand → Bool
  | .const _ => true
  | _ => false

/-- One operation that is no call of a Go function. -/
def opA (P : Program) (o : Op) (fr : List AV) (H : Heap) : Option (AV × Heap) :=
  let pu (r : Option AV) : Option (AV × Heap) := r.map fun v => (v, H)
  match o with
  | .move x | .assign x => pu (ev fr x)
  | .pick c a b => match ev fr c with
    | some (.b true) => pu (ev fr a)
    | some (.b false) => pu (ev fr b)
    | _ => none
  | .alloc e => (zeroA P e).bind fun z => (newBlk H e .vr z.cells).map fun (i, H') => (.p i 0, H')
  | .box e x => (ev fr x).bind fun v => (newBlk H e .vr v.cells).map fun (i, H') => (.p i 0, H')
  | .build t parts => (evs fr parts.toList).bind fun ps => pu (buildA P t ps)
  | .buildSlice t len parts => (evs fr parts.toList).bind fun ps => buildSliceA P H t len ps
  | .load t a => (ev fr a).bind fun v => pu (loadA P H t v)
  | .store t a x => (ev fr a).bind fun v => (ev fr x).bind fun y => (storeA P H t v y).map fun H' => (.u, H')
  | .nilCheck x => (ev fr x).bind fun v => pu (nilCheckA v)
  | .binOp op t x y _ => (ev fr x).bind fun a => (ev fr y).bind fun b => pu (binA P op t (isC x || isC y) a b)
  | .unOp op _ x => (ev fr x).bind fun a => pu (unA op a)
  | .convert src dst x => (ev fr x).bind fun a => pu (match convA P src dst a with | some v => some v | none => strA P H src dst a)
  | .makeSlice t l c => (ev fr l).bind fun a => (ev fr c).bind fun b => makeSliceA P H t a b
  | .slice t x lo hi none => (ev fr x).bind fun a =>
    match lo, hi with
    | some l, none => (ev fr l).bind fun b => pu (sliceA P t a (some b) none)
    | none, some h => (ev fr h).bind fun b => pu (sliceA P t a none (some b))
    | none, none => pu (sliceArrA P H t a)
    | _, _ => none
  | .slice t x none (some h) (some m) => (ev fr x).bind fun a => (ev fr h).bind fun b => (ev fr m).bind fun c => pu (sliceMaxA P t a b c)
  | .fieldAddr t x k => (ev fr x).bind fun a => pu (fieldAddrA P t a k)
  | .field t x k => (ev fr x).bind fun a => pu (fieldA P t a k)
  | .indexAddr t x k => (ev fr x).bind fun a => (ev fr k).bind fun b => pu (indexAddrA P t a b)
  | .index t x k => (ev fr x).bind fun a => (ev fr k).bind fun b => pu (indexA P t a b)
  | .extract x k => match ev fr x with
    | some (.t vs) => pu vs[k]?
    | _ => none
  | .makeFunc (.func f) first caps => if first.size = 0 then (evl fr caps.toList).bind fun cs => pu (if cs.all AV.one then some (.fn f cs) else none) else none
  | .call { callee := .builtin b, args, argTypes } => match b, args.toList, argTypes.toList with
    | .len, [x], [t] => (ev fr x).bind fun a => pu (lenA P t a)
    | .max, [x, y], _ => (ev fr x).bind fun a => (ev fr y).bind fun b => pu (maxA a b)
    | .min, [x, y], _ => (ev fr x).bind fun a => (ev fr y).bind fun b => pu (minA a b)
    | .append, [s, x], [t1, t2] => (ev fr s).bind fun a => (ev fr x).bind fun b =>
      match P.underlying t2 with
      | some .string => appendA P H t1 true a b
      | some (.slice _) => if t1 = t2 ∧ b.isS = false then appendA P H t1 false a b else none
      | some (.int _) => appendZ P H t1 a b
      | _ => none
    | .copy, [d, x], [t1, _] => (ev fr d).bind fun a => (ev fr x).bind fun b => copyA P H t1 a b
    | _, _, _ => none
  | _ => none

abbrev CallA := FuncId → List AV → Heap → Option (AV × Heap)

def oneOp (P : Program) (call : CallA) (o : Op) (fr : List AV) (H : Heap) : Option (AV × Heap) :=
  match o with
  | .call { callee := .value f, args, .. } => match ev fr f, evl fr args.toList with
    | some (.fn f caps), some as => call f (as ++ caps) H
    | _, _ => none
  | o => opA P o fr H

def putA (fr : List AV) : Option Tmp → AV → List AV
  | some d, v => fr.set d v
  | none, _ => fr

/-- Is the operation wanted? (none: it can't be told.) -/
def wantA (ops : Array Oper) (fr : List AV) : Option (Nat × Bool) → Option Bool
  | none => some true
  | some (j, w) => match (ops[j]?).bind (·.dst) with
    | some d => match fr[d]? with
      | some (.b x) => some (x == w)
      | some (.t _) => some false
      | _ => none
    | none => none

def opsA (P : Program) (call : CallA) (ops : Array Oper) : List Oper → List AV → Heap → Option (List AV × Heap)
  | [], fr, H => some (fr, H)
  | o :: rest, fr, H =>
    match wantA ops fr o.guard with
    | some true => match oneOp P call o.op fr H with
      | some (v, H') => opsA P call ops rest (putA fr o.dst v) H'
      | none => none
    | some false => opsA P call ops rest (putA fr o.dst (.t [])) H
    | none => none

/-- Does an operation turn the heap, or may it? -/
def isEff : Op → Bool
  | .call { callee := .builtin .len, .. } | .call { callee := .builtin .min, .. } | .call { callee := .builtin .max, .. } => false
  | .call _ | .alloc _ | .box .. | .buildSlice .. | .store .. | .makeSlice .. => true
  | _ => false

def resultsA (P : Program) (H : Heap) (fr : List AV) : List ResultVar → Option (List AV)
  | [] => some []
  | r :: rest => match (match r with | .tmp t => fr[t]? | .cell a t => (fr[a]?).bind (loadA P H t)), resultsA P H fr rest with
    | some v, some vs => some (v :: vs)
    | _, _ => none
def packA : List AV → AV
  | [v] => v
  | vs => .t vs

/-- A function's call, its body run by 'run'. -/
def callWith (P : Program) (S : CallA) (run : Code → List AV → Heap → Option (AX × List AV × Heap)) : CallA := fun f args H =>
  match S f args H with
  | some r => some r
  | none => match P.funcs[f]? with
    | some fn => match fn.body with
      | some c => match run c (args ++ List.replicate (fn.ntmps - args.length) (.t [])) H with
        | some (.normal, fr, H') | some (.ret, fr, H') => (resultsA P H' fr fn.results.toList).map fun vs => (packA vs, H')
        | _ => none
      | none => none
    | none => none

/-- The jumps of a scope. -/
def jumpA (run : Code → List AV → Heap → Option (AX × List AV × Heap)) (c : Code) : Nat → Option (AX × List AV × Heap) → Option (AX × List AV × Heap)
  | 0, r => match r with
    | some (.goto _, _, _) => none
    | r => r
  | k + 1, r => match r with
    | some (.goto l, fr, H) => match findLabel c l with
      | some rest => jumpA run c k (run rest fr H)
      | none => none
    | r => r

def exec (P : Program) (S : CallA) (draw : (CallA → Array Oper → List AV → Heap → Option (List AV × Heap))) : Nat → Code → List AV → Heap → Option (AX × List AV × Heap)
  | 0 => fun _ _ _ => none
  | n + 1 => fun c fr H =>
    match c with
    | .skip => some (.normal, fr, H)
    | .region _ ops dr =>
      if dr then (draw (callWith P S (exec P S draw n)) ops fr H).map fun (fr', H') => (.normal, fr', H')
      else (opsA P (callWith P S (exec P S draw n)) ops ops.toList fr H).map fun (fr', H') => (.normal, fr', H')
    | .seq a b => match exec P S draw n a fr H with
      | some (.normal, fr', H') => exec P S draw n b fr' H'
      | r => r
    | .cond c a b => match ev fr c with
      | some (.b true) => exec P S draw n a fr H
      | some (.b false) => exec P S draw n b fr H
      | _ => none
    | .block id b => match exec P S draw n b fr H with
      | some (.exit j, fr', H') => if j = id then some (.normal, fr', H') else some (.exit j, fr', H')
      | r => r
    | .loop b => match exec P S draw n b fr H with
      | some (.normal, fr', H') => exec P S draw n (.loop b) fr' H'
      | r => r
    | .exit id => some (.exit id, fr, H)
    | .label _ => some (.normal, fr, H)
    | .goto l => some (.goto l, fr, H)
    | .scope b => jumpA (exec P S draw n) b 3 (exec P S draw n b fr H)
    | .ret => some (.ret, fr, H)
    | _ => none

end Go.Proofs.Ythioggjaccpfgaa.Ax
