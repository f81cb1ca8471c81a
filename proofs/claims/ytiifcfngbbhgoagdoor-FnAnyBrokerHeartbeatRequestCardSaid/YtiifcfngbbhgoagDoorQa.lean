/-
  AN ABSTRACT MACHINE for the program's code: definitions. Values without capacities and without addresses; a heap of its own. What it computes, the program's own run computes, in whatever memory (the texts behind). No Go text and no dump here.
-/
import Derived.WalkKit
import Derived.Orders
import Derived.Lib.AppendStr
import Derived.Laws.BytesString
import Derived.Lib.ConvBytes
import Derived.LoopN
import Derived.Scope
set_option linter.constructorNameAsVariable false
set_option linter.unusedVariables false
set_option linter.unusedSimpArgs false
namespace Go.Proofs.YtiifcfngbbhgoagDoor.Ax
open Go
inductive AV where
  | u
  | k (j : Nat)
  | b (x : Bool)
  | i (kd : IntKind) (n : Int)
  | f (kd : FloatKind) (bits : Nat)
  | s (x : ByteArray)
  | p0
  | p (i o : Nat)
  | s0
  | se
  | sn
  | sl (i o n : Nat)
  | m0
  | mp (i : Nat)
  | n
  | e
  | gp (g : Nat)
  | ip (t : TypeId) (i o : Nat)
  | fn (f : FuncId) (caps : List AV)
  | g (cs : List AV)
  | t (vs : List AV)
  deriving Inhabited
def AV.one : AV → Bool
  | .u | .g _ | .t _ => false
  | _ => true
def AV.isS : AV → Bool
  | .s _ => true
  | _ => false
def AV.cells : AV → List AV
  | .g cs => cs
  | v => [v]
inductive Kn where
  | ro | vr | row | cv
def Kn.own : Kn → Bool
  | .ro | .cv => false
  | _ => true
def Kn.mine : Kn → Bool
  | .ro => false
  | _ => true
theorem own_mine {k : Kn} (h : k.own = true) : k.mine = true := by cases k <;> first | rfl | cases h
inductive Blk where
  | cells (ty : TypeId) (kn : Kn) (cs : List AV)
  | map (kd : IntKind) (es : List (Int × AV))
  | dead
  deriving Inhabited
abbrev Heap := List Blk
inductive AX where
  | normal
  | ret
  | exit (id : Nat)
  | goto (l : Nat)
def ofV1 : Value → Option AV
  | .bool x => some (.b x)
  | .int k n => some (.i k n)
  | .float k x => some (.f k x)
  | .string x => some (.s x)
  | .pointer none => some .p0
  | .slice none 0 0 => some .s0
  | .map none => some .m0
  | .nilIface => some .n
  | _ => none
def ofVs : List Value → Option (List AV)
  | [] => some []
  | v :: vs => match ofV1 v, ofVs vs with
    | some x, some xs => some (x :: xs)
    | _, _ => none
def ofV : Value → Option AV
  | .agg cs => (ofVs cs.toList).map .g
  | .tuple cs => (ofVs cs.toList).map .t
  | v => ofV1 v
def ev (fr : List AV) : Operand → Option AV
  | .tmp t => fr[t]?
  | .const v => ofV v
  | .global g => some (.gp g)
  | .func f => some (.fn f [])
def ofSem : Sem Value → Option AV
  | .pure v => ofV1 v
  | _ => none
def sizeA (P : Program) (t : TypeId) : Option Nat := (P.info? t).map (·.size)
def bytesA (P : Program) (t : TypeId) : Option Nat := (P.info? t).map (·.bytes)
def zeroA (P : Program) (t : TypeId) : Option AV := ((P.info? t).bind (·.zero)).bind ofV
def aggA (P : Program) (t : TypeId) : Option Bool :=
  match P.underlying t with
  | some (.struct _) | some (.array _ _) => some true
  | some _ => some false
  | none => none
def elemA (P : Program) (t : TypeId) : Option TypeId :=
  match P.underlying t with
  | some (.slice e) => some e
  | _ => none
def newBlk (H : Heap) (ty : TypeId) (kn : Kn) (cs : List AV) : Option (Nat × Heap) :=
  if cs.all AV.one then some (H.length, H ++ [.cells ty kn cs]) else none
def loadAt (P : Program) (H : Heap) (t : TypeId) (i o : Nat) : Option AV :=
  match H[i]?, aggA P t, sizeA P t with
  | some (.cells _ _ cs), some true, some sz =>
    if o + sz ≤ cs.length then some (.g ((cs.drop o).take sz)) else none
  | some (.cells _ _ cs), some false, _ => cs[o]?
  | _, _, _ => none
def isRo (H : Heap) (i : Nat) : Bool :=
  match H[i]? with
  | some (.cells _ .ro _) => true
  | _ => false
def loadA (P : Program) (H : Heap) (t : TypeId) : AV → Option AV
  | .p i o => loadAt P H t i o
  | .gp g => if isRo H g then loadAt P H t g 0 else none
  | _ => none
def over (cs new : List AV) (o : Nat) : List AV := cs.take o ++ new ++ cs.drop (o + new.length)
def storeA (P : Program) (H : Heap) (t : TypeId) (a v : AV) : Option Heap :=
  match a with
  | .p i o => match H[i]?, sizeA P t with
    | some (.cells ty kn cs), some sz =>
      if kn.own = true ∧ v.cells.length = sz ∧ o + sz ≤ cs.length ∧ v.cells.all AV.one then some (H.set i (.cells ty kn (over cs v.cells o))) else none
    | _, _ => none
  | _ => none
def fillA (place : Nat → Option (Nat × Nat)) (cells : List AV) : List (Nat × AV) → Option (List AV)
  | [] => some cells
  | (i, v) :: rest =>
    match place i with
    | some (off, size) =>
      if v.cells.length = size ∧ off + size ≤ cells.length ∧ v.cells.all AV.one then fillA place (over cells v.cells off) rest else none
    | none => none
def evs (fr : List AV) : List (Nat × Operand) → Option (List (Nat × AV))
  | [] => some []
  | (i, x) :: r => match ev fr x, evs fr r with
    | some v, some vs => some ((i, v) :: vs)
    | _, _ => none
def evl (fr : List AV) : List Operand → Option (List AV)
  | [] => some []
  | x :: r => match ev fr x, evl fr r with
    | some v, some vs => some (v :: vs)
    | _, _ => none
def fieldPlaceA (P : Program) (fields : Array Field) (i : Nat) : Option (Nat × Nat) :=
  match fields[i]? with
  | some f => (sizeA P f.type).map fun s => (f.offset, s)
  | none => none
def buildA (P : Program) (t : TypeId) (parts : List (Nat × AV)) : Option AV :=
  match P.underlying t, zeroA P t with
  | some (.struct fields), some z => if fields.toList.all (fun f => (sizeA P f.type).isSome) && z.cells.all AV.one then (fillA (fieldPlaceA P fields) z.cells parts).map .g else none
  | _, _ => none
def zerosA (z : List AV) : Nat → List AV
  | 0 => []
  | n + 1 => z ++ zerosA z n
def buildSliceA (P : Program) (H : Heap) (t : TypeId) (len : Nat) (parts : List (Nat × AV)) : Option (AV × Heap) :=
  match elemA P t with
  | some e => match sizeA P e, zeroA P e with
    | some sz, some z =>
      if len = 0 then (if parts.isEmpty then (newBlk H e .row []).map fun (_, H') => (match P.underlying e with | some (.int .u8) => .se | _ => .sn, H') else none)
      else if 0 < sz ∧ z.cells.length = sz ∧ z.cells.all AV.one ∧ len * sz ≤ 16777216 ∧ 0 < len then
        match fillA (fun i => some (i * sz, sz)) (zerosA z.cells len) parts with
        | some cs => (newBlk H e .row cs).map fun (i, H') => (.sl i 0 len, H')
        | none => none
      else none
    | _, _ => none
  | none => none
def makeSliceA (P : Program) (H : Heap) (t : TypeId) (len cap : AV) : Option (AV × Heap) :=
  match len, cap with
  | .i .i64 l, .i .i64 c => match elemA P t with
    | some e => match sizeA P e, bytesA P e, zeroA P e with
      | some sz, some by_, some z =>
        if 0 < sz ∧ z.cells.length = sz ∧ z.cells.all AV.one ∧ l = c ∧ 0 < l ∧ l ≤ 1048576 ∧ by_ ≤ 65536 then
          (newBlk H e .row (zerosA z.cells l.toNat)).map fun (i, H') => (.sl i 0 l.toNat, H')
        else none
      | _, _, _ => none
    | none => none
  | _, _ => none
def nilCheckA : AV → Option AV
  | .p i o => some (.p i o)
  | _ => none
def fieldAddrA (P : Program) (t : TypeId) (x : AV) (k : Nat) : Option AV :=
  match x, P.underlying t with
  | .p i o, some (.struct fields) => match fields[k]? with
    | some f => match sizeA P f.type with
      | some (_ + 1) => some (.p i (o + f.offset))
      | _ => none
    | none => none
  | _, _ => none
def fieldA (P : Program) (t : TypeId) (x : AV) (k : Nat) : Option AV :=
  match x, P.underlying t with
  | .g cs, some (.struct fields) => match fields[k]? with
    | some f => match aggA P f.type, sizeA P f.type with
      | some true, some sz => if f.offset + sz ≤ cs.length then some (.g ((cs.drop f.offset).take sz)) else none
      | some false, _ => cs[f.offset]?
      | _, _ => none
    | none => none
  | _, _ => none
def indexAddrA (P : Program) (t : TypeId) (x ix : AV) : Option AV :=
  match x, ix, elemA P t with
  | .sl i o n, .i _ k, some e => match sizeA P e with
    | some sz => if 0 ≤ k ∧ k < n then some (.p i (o + k.toNat * sz)) else none
    | none => none
  | _, _, _ => none
def indexA (P : Program) (t : TypeId) (x ix : AV) : Option AV :=
  match x, ix, P.underlying t with
  | .s bs, .i _ k, some .string => if 0 ≤ k then (bs[k.toNat]?).map fun c => .i .u8 c.toNat else none
  | _, _, _ => none
def sliceArrA (P : Program) (H : Heap) (t : TypeId) (x : AV) : Option AV :=
  match P.underlying t, x with
  | some (.array n e), .p i o => match H[i]?, sizeA P e with
    | some (.cells _ .vr _), some _ => if 0 < n ∧ n ≤ 1048576 then some (.sl i o n) else none
    | _, _ => none
  | _, _ => none
def sliceStrA (P : Program) (t : TypeId) (x : AV) (lo hi : Option AV) : Option AV :=
  match P.underlying t, x with
  | some .string, .s bs => match lo, hi with
    | some (.i _ l), none => if 0 ≤ l ∧ l ≤ bs.size then some (.s (bs.extract l.toNat bs.size)) else none
    | none, some (.i _ h) => if 0 ≤ h ∧ h ≤ bs.size then some (.s (bs.extract 0 h.toNat)) else none
    | some (.i _ l), some (.i _ h) => if 0 ≤ l ∧ l ≤ h ∧ h ≤ bs.size then some (.s (bs.extract l.toNat h.toNat)) else none
    | _, _ => none
  | _, _ => none
def sliceA (P : Program) (t : TypeId) (x : AV) (lo hi : Option AV) : Option AV :=
  match elemA P t with
  | some e => match sizeA P e with
    | some sz =>
      match lo, hi with
      | some (.i _ l), none => match x with
        | .sl i o n => if 0 < sz ∧ 0 ≤ l ∧ l ≤ n then (if l = 0 then some (.sl i o n) else if l = n then some .se else some (.sl i (o + l.toNat * sz) (n - l.toNat))) else none
        | .s0 => if l = 0 then some .s0 else none
        | .se => if l = 0 then some .se else none
        | _ => none
      | none, some (.i _ h) => match x with
        | .sl i o n => if 0 ≤ h ∧ h ≤ n then some (.sl i o h.toNat) else none
        | .s0 => if h = 0 then some .s0 else none
        | .se => if h = 0 then some .se else none
        | .sn => if h = 0 then some .sn else none
        | _ => none
      | some (.i _ l), some (.i _ h) => match x with
        | .sl i o n => if 0 < sz ∧ 0 ≤ l ∧ l ≤ h ∧ h ≤ n then (if l = h then some .se else some (.sl i (o + l.toNat * sz) (h.toNat - l.toNat))) else none
        | .s0 => if l = 0 ∧ h = 0 then some .s0 else none
        | .se => if l = 0 ∧ h = 0 then some .se else none
        | _ => none
      | _, _ => none
    | none => none
  | none => sliceStrA P t x lo hi
def sliceMaxA (P : Program) (t : TypeId) (x h m : AV) : Option AV :=
  match elemA P t with
  | some e => match sizeA P e with
    | some _ =>
      match h, m with
      | .i _ h, .i _ m => if h = m then (match x with
        | .sl i o n => if 0 ≤ h ∧ h ≤ n then (if h = 0 then some .se else some (.sl i o h.toNat)) else none
        | .s0 => if h = 0 then some .s0 else none
        | .se => if h = 0 then some .se else none
        | _ => none) else none
      | _, _ => none
    | none => none
  | none => none
def isIp (t : TypeId) : Bool := false
def ifaceA (P : Program) (t : TypeId) (x : AV) : Option AV :=
  match P.underlying t, x with
  | some (.pointer _), .p i o => some (if isIp t then .ip t i o else .e)
  | _, _ => none
def metA (P : Program) (t : TypeId) (name : String) : Option FuncId :=
  match P.info? t, P.underlying t with
  | some i, some (.pointer _) => match i.methods.find? (·.name == name) with
    | some m => match m.path.toList, m.func with
      | [], some (f, true) => some f
      | _, _ => none
    | none => none
  | _, _ => none
def lenA (P : Program) (t : TypeId) (x : AV) : Option AV :=
  match P.underlying t, x with
  | some .string, .s bs => some (.i .i64 bs.size)
  | some (.slice _), .s0 => some (.i .i64 0)
  | some (.slice _), .se => some (.i .i64 0)
  | some (.slice _), .sn => some (.i .i64 0)
  | some (.slice _), .sl _ _ n => some (.i .i64 n)
  | some (.map _ _), .m0 => some (.i .i64 0)
  | _, _ => none
def firstA (H : Heap) (sz : Nat) : AV → Option (Nat × List AV)
  | .s bs => some (bs.size, bs.toList.map fun c => .i .u8 c.toNat)
  | .s0 | .se => some (0, [])
  | .sl i o n => match H[i]? with
    | some (.cells _ _ cs) => if o + n * sz ≤ cs.length ∧ ((cs.drop o).take (n * sz)).all AV.one then some (n, (cs.drop o).take (n * sz)) else none
    | _ => none
  | _ => none
def appendA (P : Program) (H : Heap) (t1 : TypeId) (str : Bool) (s x : AV) : Option (AV × Heap) :=
  match elemA P t1 with
  | some e => match sizeA P e, bytesA P e, zeroA P e with
    | some sz, some by_, some z =>
      if 0 < sz ∧ z.cells.length = sz ∧ z.cells.all AV.one ∧ (str → sz = 1 ∧ by_ = 1) then
        match firstA H sz x with
        | some (m, new) =>
          match s with
          | .s0 =>
            if m = 0 then some (.s0, H)
            else if m * by_ ≤ 140737488355328 ∧ m ≤ 140737488355328 then (newBlk H e .row new).map fun (j, H') => (.sl j 0 m, H') else none
          | .sn =>
            if m = 0 then some (.sn, H)
            else if m * by_ ≤ 140737488355328 ∧ m ≤ 140737488355328 then (newBlk H e .row new).map fun (j, H') => (.sl j 0 m, H') else none
          | .sl i 0 n => match H[i]? with
            | some (.cells ty .row cs) =>
              if ty = e ∧ n * sz ≤ cs.length ∧ (n + m) * by_ ≤ 140737488355328 ∧ n + m ≤ 140737488355328 then (newBlk (H.set i .dead) e .row (cs.take (n * sz) ++ new)).map fun (j, H') => (.sl j 0 (n + m), H')
              else none
            | _ => none
          | _ => none
        | none => none
      else none
    | _, _, _ => none
  | none => none
def copyA (P : Program) (H : Heap) (t : TypeId) (d x : AV) : Option (AV × Heap) :=
  match elemA P t with
  | some e => match sizeA P e with
    | some 1 => match d, firstA H 1 x with
      | .sl i o n, some (m, new) => match H[i]? with
        | some (.cells ty kn cs) =>
          if kn.own = true ∧ o + n ≤ cs.length then some (.i .i64 (min m n : Nat), H.set i (.cells ty kn (over cs (new.take (min m n)) o))) else none
        | _ => none
      | _, _ => none
    | _ => none
  | none => none
def appendZ (P : Program) (H : Heap) (t1 : TypeId) (s x : AV) : Option (AV × Heap) :=
  match elemA P t1 with
  | some e => match sizeA P e, bytesA P e, zeroA P e with
    | some sz, some by_, some z =>
      match s, x with
      | .s0, .i _ l =>
        if 0 < sz ∧ z.cells.length = sz ∧ z.cells.all AV.one ∧ 0 < l ∧ l.toNat * by_ ≤ 140737488355328 ∧ l ≤ 140737488355328 then
          (newBlk H e .row (zerosA z.cells l.toNat)).map fun (j, H') => (.sl j 0 l.toNat, H')
        else none
      | .sn, .i _ l =>
        if 0 < sz ∧ z.cells.length = sz ∧ z.cells.all AV.one ∧ 0 < l ∧ l.toNat * by_ ≤ 140737488355328 ∧ l ≤ 140737488355328 then
          (newBlk H e .row (zerosA z.cells l.toNat)).map fun (j, H') => (.sl j 0 l.toNat, H')
        else none
      | .sl i 0 n, .i _ l => match H[i]? with
        | some (.cells ty .row cs) =>
          if ty = e ∧ n * sz ≤ cs.length ∧ 0 < sz ∧ z.cells.length = sz ∧ z.cells.all AV.one ∧ 0 < l ∧ (n + l.toNat) * by_ ≤ 140737488355328 ∧ n + l.toNat ≤ 140737488355328 then
            (newBlk (H.set i .dead) e .row (cs.take (n * sz) ++ zerosA z.cells l.toNat)).map fun (j, H') => (.sl j 0 (n + l.toNat), H')
          else none
        | _ => none
      | _, _ => none
    | _, _, _ => none
  | none => none
def bytesOf : List AV → Option (List UInt8)
  | [] => some []
  | .i .u8 n :: r => (bytesOf r).map fun l => UInt8.ofNat n.toNat :: l
  | _ => none
def strOf (H : Heap) : AV → Option ByteArray
  | .s0 | .se => some .empty
  | .sl i o n => match H[i]? with
    | some (.cells _ _ cs) => if o + n ≤ cs.length then (bytesOf ((cs.drop o).take n)).map fun l => ⟨l.toArray⟩ else none
    | _ => none
  | _ => none
def strA (P : Program) (H : Heap) (src dst : TypeId) (x : AV) : Option AV :=
  match P.underlying src, P.underlying dst with
  | some (.slice e), some .string => match P.underlying e with
    | some (.int .u8) => (strOf H x).map .s
    | _ => none
  | _, _ => none
def cvS : TypeId := 9
def cvD : TypeId := 22
def bytesOfA (P : Program) (H : Heap) (src dst : TypeId) (x : AV) : Option (AV × Heap) :=
  if src = cvS ∧ dst = cvD then match P.underlying src, P.underlying dst, x with
    | some .string, some (.slice e), .s bs => match P.underlying e with
      | some (.int .u8) => if bs.size ≤ 1099511627776 then some (if bs.size = 0 then .se else .sl H.length 0 bs.size, H ++ [.cells e .cv (bs.data.toList.map fun c => .i .u8 c.toNat)]) else none
      | _ => none
    | _, _, _ => none
  else none
def maxA : AV → AV → Option AV
  | .i k x, .i k' y => if k = k' then some (.i k (if x < y then y else x)) else none
  | _, _ => none
def minA : AV → AV → Option AV
  | .i k x, .i k' y => if k = k' then some (.i k (if y < x then y else x)) else none
  | _, _ => none
def putM (n : Int) (v : AV) : List (Int × AV) → List (Int × AV)
  | [] => [(n, v)]
  | (k, x) :: r => if k = n then (k, v) :: r else (k, x) :: putM n v r
def keyA (P : Program) (t : TypeId) : Option IntKind :=
  match P.underlying t with
  | some (.map k _) => match P.underlying k with
    | some (.int kd) => some kd
    | _ => none
  | _ => none
def makeMapA (P : Program) (H : Heap) (t : TypeId) : Option (AV × Heap) := (keyA P t).map fun kd => (.mp H.length, H ++ [.map kd []])
def mapSetA (P : Program) (H : Heap) (t : TypeId) (m k v : AV) : Option Heap :=
  match m, k, keyA P t with
  | .mp i, .i kd n, some kd' => match H[i]? with
    | some (.map kd'' es) => if kd = kd' ∧ kd'' = kd ∧ v.one = true then some (H.set i (.map kd (putM n v es))) else none
    | _ => none
  | _, _, _ => none
def lenM (P : Program) (H : Heap) (t : TypeId) (x : AV) : Option AV :=
  match keyA P t, x with
  | some _, .mp i => match H[i]? with
    | some (.map _ es) => some (.i .i64 es.length)
    | _ => none
  | _, _ => none
def convA (P : Program) (src dst : TypeId) (x : AV) : Option AV :=
  match (P.underlying src).isSome, P.underlying dst, x with
  | true, some (.int k), .i _ n => some (.i k (k.wrap n))
  | _, _, _ => none
def eqA (P : Program) (t : TypeId) (x y : AV) : Option Bool :=
  match P.underlying t, x, y with
  | some (.pointer _), .p0, .p0 => some true
  | some (.pointer _), .p _ _, .p0 => some false
  | some (.pointer _), .p0, .p _ _ => some false
  | some (.slice _), .s0, .s0 => some true
  | some (.slice _), .s0, .sl _ _ _ => some false
  | some (.slice _), .sl _ _ _, .s0 => some false
  | some (.slice _), .se, .s0 => some false
  | some (.slice _), .sn, .s0 => some false
  | some (.bool), .b p, .b q => some (p == q)
  | some (.interface _), .e, .n => some false
  | some (.interface _), .n, .e => some false
  | some (.map _ _), .m0, .m0 => some true
  | some (.map _ _), .mp _, .m0 => some false
  | _, _, _ => none
def binA (P : Program) (op : BinOp) (t : TypeId) (cst : Bool) (x y : AV) : Option AV :=
  match x, y with
  | .n, .n => match P.underlying t, cst, op with
    | some (.interface _), true, .eql => some (.b true)
    | some (.interface _), true, .neq => some (.b false)
    | _, _, _ => none
  | .i k a, .i l b => ofSem (binOp op t (.int k a) (.int l b))
  | .s a, .s b => ofSem (binOp op t (.string a) (.string b))
  | x, y => match op with
    | .eql => (eqA P t x y).map .b
    | .neq => (eqA P t x y).map fun r => .b (!r)
    | _ => none
def unA (op : UnOp) (x : AV) : Option AV :=
  match op, x with
  | .not, .b v => some (.b (!v))
  | .neg, .i k n => some (.i k (k.wrap (0 - n)))
  | _, _ => none
def isC : Operand → Bool
  | .const _ => true
  | _ => false
def opA (P : Program) (o : Op) (fr : List AV) (H : Heap) : Option (AV × Heap) :=
  let pu (r : Option AV) : Option (AV × Heap) := r.map fun v => (v, H)
  match o with
  | .move x | .assign x => pu (ev fr x)
  | .pick c a b => match ev fr c with
    | some (.b true) => pu (ev fr a)
    | some (.b false) => pu (ev fr b)
    | _ => none
  | .alloc e => (zeroA P e).bind fun z => (newBlk H e .vr z.cells).map fun (i, H') => (.p i 0, H')
  | .box e x => (ev fr x).bind fun v => (newBlk H e .vr v.cells).map fun (i, H') => (.p i 0, H')
  | .build t parts => (evs fr parts.toList).bind fun ps => pu (buildA P t ps)
  | .buildSlice t len parts => (evs fr parts.toList).bind fun ps => buildSliceA P H t len ps
  | .load t a => (ev fr a).bind fun v => pu (loadA P H t v)
  | .store t a x => (ev fr a).bind fun v => (ev fr x).bind fun y => (storeA P H t v y).map fun H' => (.u, H')
  | .nilCheck x => (ev fr x).bind fun v => pu (nilCheckA v)
  | .binOp op t x y _ => (ev fr x).bind fun a => (ev fr y).bind fun b => pu (binA P op t (isC x || isC y) a b)
  | .unOp op _ x => (ev fr x).bind fun a => pu (unA op a)
  | .convert src dst x => (ev fr x).bind fun a => match convA P src dst a with
    | some v => some (v, H)
    | none => match strA P H src dst a with
      | some v => some (v, H)
      | none => bytesOfA P H src dst a
  | .makeSlice t l c => (ev fr l).bind fun a => (ev fr c).bind fun b => makeSliceA P H t a b
  | .slice t x lo hi none => (ev fr x).bind fun a =>
    match lo, hi with
    | some l, none => (ev fr l).bind fun b => pu (sliceA P t a (some b) none)
    | none, some h => (ev fr h).bind fun b => pu (sliceA P t a none (some b))
    | none, none => pu (sliceArrA P H t a)
    | some l, some h => (ev fr l).bind fun b => (ev fr h).bind fun c => pu (sliceA P t a (some b) (some c))
  | .slice t x none (some h) (some m) => (ev fr x).bind fun a => (ev fr h).bind fun b => (ev fr m).bind fun c => pu (sliceMaxA P t a b c)
  | .fieldAddr t x k => (ev fr x).bind fun a => pu (fieldAddrA P t a k)
  | .field t x k => (ev fr x).bind fun a => pu (fieldA P t a k)
  | .indexAddr t x k => (ev fr x).bind fun a => (ev fr k).bind fun b => pu (indexAddrA P t a b)
  | .index t x k => (ev fr x).bind fun a => (ev fr k).bind fun b => pu (indexA P t a b)
  | .makeMap t none => makeMapA P H t
  | .mapUpdate t m k x => (ev fr m).bind fun a => (ev fr k).bind fun b => (ev fr x).bind fun c => (mapSetA P H t a b c).map fun H' => (.u, H')
  | .makeInterface t x => (ev fr x).bind fun a => pu (ifaceA P t a)
  | .extract x k => match ev fr x with
    | some (.t vs) => pu vs[k]?
    | _ => none
  | .makeFunc (.func f) first caps => if first.size = 0 then (evl fr caps.toList).bind fun cs => pu (if cs.all AV.one then some (.fn f cs) else none) else none
  | .call { callee := .builtin b, args, argTypes } => match b, args.toList, argTypes.toList with
    | .len, [x], [t] => (ev fr x).bind fun a => pu (match lenA P t a with | some v => some v | none => lenM P H t a)
    | .max, [x, y], _ => (ev fr x).bind fun a => (ev fr y).bind fun b => pu (maxA a b)
    | .min, [x, y], _ => (ev fr x).bind fun a => (ev fr y).bind fun b => pu (minA a b)
    | .append, [s, x], [t1, t2] => (ev fr s).bind fun a => (ev fr x).bind fun b =>
      match P.underlying t2 with
      | some .string => appendA P H t1 true a b
      | some (.slice _) => if t1 = t2 ∧ b.isS = false then appendA P H t1 false a b else none
      | some (.int _) => appendZ P H t1 a b
      | _ => none
    | .copy, [d, x], [t1, _] => (ev fr d).bind fun a => (ev fr x).bind fun b => copyA P H t1 a b
    | _, _, _ => none
  | _ => none
abbrev CallA := FuncId → List AV → Heap → Option (AV × Heap)
def oneOp (P : Program) (call : CallA) (o : Op) (fr : List AV) (H : Heap) : Option (AV × Heap) :=
  match o with
  | .call { callee := .value f, args, .. } => match ev fr f, evl fr args.toList with
    | some (.fn f caps), some as => call f (as ++ caps) H
    | _, _ => none
  | .call { callee := .invoke x name, args, .. } => match ev fr x, evl fr args.toList with
    | some (.ip t i o), some as => match metA P t name with
      | some f => call f (.p i o :: as) H
      | none => none
    | _, _ => none
  | o => opA P o fr H
def putA (fr : List AV) : Option Tmp → AV → List AV
  | some d, v => fr.set d v
  | none, _ => fr
def wantA (ops : Array Oper) (fr : List AV) : Option (Nat × Bool) → Option Bool
  | none => some true
  | some (j, w) => match (ops[j]?).bind (·.dst) with
    | some d => match fr[d]? with
      | some (.b x) => some (x == w)
      | some (.t _) => some false
      | _ => none
    | none => none
def opsA (P : Program) (call : CallA) (ops : Array Oper) : List Oper → List AV → Heap → Option (List AV × Heap)
  | [], fr, H => some (fr, H)
  | o :: rest, fr, H =>
    match wantA ops fr o.guard with
    | some true => match oneOp P call o.op fr H with
      | some (v, H') => opsA P call ops rest (putA fr o.dst v) H'
      | none => none
    | some false => opsA P call ops rest (putA fr o.dst (.t [])) H
    | none => none
def isEff : Op → Bool
  | .call { callee := .builtin .len, .. } | .call { callee := .builtin .min, .. } | .call { callee := .builtin .max, .. } => false
  | .call _ | .alloc _ | .box .. | .buildSlice .. | .store .. | .makeSlice .. | .makeMap .. | .mapUpdate .. => true
  | .convert s d _ => decide (s = cvS ∧ d = cvD)
  | _ => false
theorem bytesOfA_none {P : Program} {H : Heap} {s d : TypeId} {x : Operand} {a : AV} (h : isEff (.convert s d x) = false) : bytesOfA P H s d a = none := by
  have h : decide (s = cvS ∧ d = cvD) = false := h
  unfold bytesOfA
  rw [if_neg (of_decide_eq_false h)]
def resultsA (P : Program) (H : Heap) (fr : List AV) : List ResultVar → Option (List AV)
  | [] => some []
  | r :: rest => match (match r with | .tmp t => fr[t]? | .cell a t => (fr[a]?).bind (loadA P H t)), resultsA P H fr rest with
    | some v, some vs => some (v :: vs)
    | _, _ => none
def packA : List AV → AV
  | [v] => v
  | vs => .t vs
def callWith (P : Program) (S : CallA) (run : Code → List AV → Heap → Option (AX × List AV × Heap)) : CallA := fun f args H =>
  match S f args H with
  | some r => some r
  | none => match P.funcs[f]? with
    | some fn => match fn.body with
      | some c => match run c (args ++ List.replicate (fn.ntmps - args.length) (.t [])) H with
        | some (.normal, fr, H') | some (.ret, fr, H') => (resultsA P H' fr fn.results.toList).map fun vs => (packA vs, H')
        | _ => none
      | none => none
    | none => none
def jumpA (run : Code → List AV → Heap → Option (AX × List AV × Heap)) (c : Code) : Nat → Option (AX × List AV × Heap) → Option (AX × List AV × Heap)
  | 0, r => match r with
    | some (.goto _, _, _) => none
    | r => r
  | k + 1, r => match r with
    | some (.goto l, fr, H) => match findLabel c l with
      | some rest => jumpA run c k (run rest fr H)
      | none => none
    | r => r
def exec (P : Program) (S : CallA) (draw : (CallA → Array Oper → List AV → Heap → Option (List AV × Heap))) : Nat → Code → List AV → Heap → Option (AX × List AV × Heap)
  | 0 => fun _ _ _ => none
  | n + 1 => fun c fr H =>
    match c with
    | .skip => some (.normal, fr, H)
    | .region _ ops dr =>
      if dr then (draw (callWith P S (exec P S draw n)) ops fr H).map fun (fr', H') => (.normal, fr', H')
      else (opsA P (callWith P S (exec P S draw n)) ops ops.toList fr H).map fun (fr', H') => (.normal, fr', H')
    | .seq a b => match exec P S draw n a fr H with
      | some (.normal, fr', H') => exec P S draw n b fr' H'
      | r => r
    | .cond c a b => match ev fr c with
      | some (.b true) => exec P S draw n a fr H
      | some (.b false) => exec P S draw n b fr H
      | _ => none
    | .block id b => match exec P S draw n b fr H with
      | some (.exit j, fr', H') => if j = id then some (.normal, fr', H') else some (.exit j, fr', H')
      | r => r
    | .loop b => match exec P S draw n b fr H with
      | some (.normal, fr', H') => exec P S draw n (.loop b) fr' H'
      | r => r
    | .exit id => some (.exit id, fr, H)
    | .label _ => some (.normal, fr, H)
    | .goto l => some (.goto l, fr, H)
    | .scope b => jumpA (exec P S draw n) b 3 (exec P S draw n b fr H)
    | .ret => some (.ret, fr, H)
    | _ => none
end Go.Proofs.YtiifcfngbbhgoagDoor.Ax

namespace Go.Proofs.YtiifcfngbbhgoagDoor.Ax
open Go Go.RowKit
structure Loc where
  b : Nat
  cap : Nat
  row : Bool
inductive VR (ρ : Nat → Value) (μ : List Loc) : AV → Value → Prop
  | u (v : Value) : VR ρ μ .u v
  | k (j : Nat) : VR ρ μ (.k j) (ρ j)
  | b (x : Bool) : VR ρ μ (.b x) (.bool x)
  | i (kd : IntKind) (n : Int) : VR ρ μ (.i kd n) (.int kd n)
  | f (kd : FloatKind) (x : Nat) : VR ρ μ (.f kd x) (.float kd x)
  | s (x : ByteArray) : VR ρ μ (.s x) (.string x)
  | p0 : VR ρ μ .p0 (.pointer none)
  | p {i o : Nat} {l : Loc} (h : μ[i]? = some l) : VR ρ μ (.p i o) (.pointer (some ⟨l.b, o, none⟩))
  | s0 : VR ρ μ .s0 (.slice none 0 0)
  | se (a : Addr) (c : Nat) : VR ρ μ .se (.slice (some a) 0 c)
  | sn (a : Addr) : VR ρ μ .sn (.slice (some a) 0 0)
  | sl {i o n : Nat} {l : Loc} {c : Nat} (h : μ[i]? = some l) (h1 : n ≤ c) (h2 : c ≤ maxLen) (h3 : o = 0 → l.row = true → c ≤ l.cap) : VR ρ μ (.sl i o n) (.slice (some ⟨l.b, o, none⟩) n c)
  | m0 : VR ρ μ .m0 (.map none)
  | mp {i : Nat} {l : Loc} (h : μ[i]? = some l) : VR ρ μ (.mp i) (.map (some l.b))
  | n : VR ρ μ .n .nilIface
  | e (t : TypeId) (v : Value) : VR ρ μ .e (.iface t v)
  | gp (g : Nat) : VR ρ μ (.gp g) (.pointer (some ⟨g, 0, none⟩))
  | ip {t : TypeId} {i o : Nat} {l : Loc} (h : μ[i]? = some l) : VR ρ μ (.ip t i o) (.iface t (.pointer (some ⟨l.b, o, none⟩)))
  | fn {f : FuncId} {caps : List AV} {vs : List Value} (hl : caps.length = vs.length) (h : ∀ (j : Nat) (x : AV) (v : Value), caps[j]? = some x → vs[j]? = some v → VR ρ μ x v) : VR ρ μ (.fn f caps) (.func (.func f) #[] vs.toArray)
  | g {cs : List AV} {vs : List Value} (hl : cs.length = vs.length) (h : ∀ (j : Nat) (x : AV) (v : Value), cs[j]? = some x → vs[j]? = some v → VR ρ μ x v) : VR ρ μ (.g cs) (.agg vs.toArray)
  | t {cs : List AV} {vs : List Value} (hl : cs.length = vs.length) (h : ∀ (j : Nat) (x : AV) (v : Value), cs[j]? = some x → vs[j]? = some v → VR ρ μ x v) : VR ρ μ (.t cs) (.tuple vs.toArray)
def VRs (ρ : Nat → Value) (μ : List Loc) (xs : List AV) (vs : List Value) : Prop := xs.length = vs.length ∧ ∀ (j : Nat) (x : AV) (v : Value), xs[j]? = some x → vs[j]? = some v → VR ρ μ x v
def Ext (μ μ' : List Loc) : Prop := ∀ (i : Nat) (l : Loc), μ[i]? = some l → μ'[i]? = some l
theorem Ext.refl (μ : List Loc) : Ext μ μ := fun _ _ h => h
theorem Ext.trans {a b c : List Loc} (h : Ext a b) (k : Ext b c) : Ext a c := fun i l x => k i l (h i l x)
theorem Ext.append (μ : List Loc) (t : List Loc) : Ext μ (μ ++ t) := fun i l h => by
  rw [List.getElem?_append_left (List.getElem?_eq_some_iff.1 h).1]; exact h
section
variable {ρ : Nat → Value} {μ μ' : List Loc}
theorem VR.mono (e : Ext μ μ') {x : AV} {v : Value} (h : VR ρ μ x v) : VR ρ μ' x v := by
  induction h with
  | u v => exact .u v
  | k j => exact .k j
  | b x => exact .b x
  | i kd n => exact .i kd n
  | f kd x => exact .f kd x
  | s x => exact .s x
  | p0 => exact .p0
  | p h => exact .p (e _ _ h)
  | s0 => exact .s0
  | se a c => exact .se a c
  | sn a => exact .sn a
  | sl h h1 h2 h3 => exact .sl (e _ _ h) h1 h2 h3
  | m0 => exact .m0
  | mp h => exact .mp (e _ _ h)
  | n => exact .n
  | e t v => exact .e t v
  | gp g => exact .gp g
  | ip h => exact .ip (e _ _ h)
  | fn hl _ ih => exact .fn hl ih
  | g hl _ ih => exact .g hl ih
  | t hl _ ih => exact .t hl ih
theorem VRs.mono (e : Ext μ μ') {x : List AV} {v : List Value} (h : VRs ρ μ x v) : VRs ρ μ' x v := ⟨h.1, fun j a b p q => (h.2 j a b p q).mono e⟩
theorem VRs.nil : VRs ρ μ [] [] := ⟨rfl, fun j x v h => by simp at h⟩
theorem VRs.cons {x : AV} {v : Value} {xs : List AV} {vs : List Value} (h : VR ρ μ x v) (hs : VRs ρ μ xs vs) : VRs ρ μ (x :: xs) (v :: vs) := by
  refine ⟨by simp [hs.1], fun j a b p q => ?_⟩
  cases j with
  | zero => simp at p q; subst p; subst q; exact h
  | succ j => simp at p q; exact hs.2 j a b p q
theorem VRs.append {xs ys : List AV} {vs us : List Value} (h : VRs ρ μ xs vs) (k : VRs ρ μ ys us) : VRs ρ μ (xs ++ ys) (vs ++ us) := by
  refine ⟨by simp [h.1, k.1], fun j a b p q => ?_⟩
  rw [List.getElem?_append] at p q
  rw [← h.1] at q
  split at p
  · rename_i hj; rw [if_pos hj] at q; exact h.2 j a b p q
  · rename_i hj; rw [if_neg hj] at q; exact k.2 _ a b p q
theorem VRs.take {xs : List AV} {vs : List Value} (h : VRs ρ μ xs vs) (n : Nat) : VRs ρ μ (xs.take n) (vs.take n) := by
  refine ⟨by simp [h.1], fun j a b p q => ?_⟩
  rw [List.getElem?_take] at p q
  split at p
  · rename_i hj; rw [if_pos hj] at q; exact h.2 j a b p q
  · cases p
theorem VRs.drop {xs : List AV} {vs : List Value} (h : VRs ρ μ xs vs) (n : Nat) : VRs ρ μ (xs.drop n) (vs.drop n) := by
  refine ⟨by simp [h.1], fun j a b p q => ?_⟩
  rw [List.getElem?_drop] at p q
  exact h.2 _ a b p q
theorem VRs.at {xs : List AV} {vs : List Value} (h : VRs ρ μ xs vs) {j : Nat} {x : AV} (p : xs[j]? = some x) : ∃ v, vs[j]? = some v ∧ VR ρ μ x v := by
  have hj : j < vs.length := by have := (List.getElem?_eq_some_iff.1 p).1; have := h.1; omega
  exact ⟨vs[j], by simp [hj], h.2 j x _ p (by simp [hj])⟩
theorem VRs.replicate {x : AV} {v : Value} (h : VR ρ μ x v) (n : Nat) : VRs ρ μ (List.replicate n x) (List.replicate n v) := by
  refine ⟨by simp, fun j a b p q => ?_⟩
  simp [List.getElem?_replicate] at p q
  obtain ⟨_, rfl⟩ := p
  obtain ⟨_, rfl⟩ := q
  exact h
theorem VR.oneCell (hρ : ∀ j, (ρ j).oneCell' = true) {x : AV} {v : Value} (h : VR ρ μ x v) (h1 : x.one = true) : v.oneCell' = true := by
  cases h <;> first | rfl | exact hρ _ | simp [AV.one] at h1
theorem cells_one {v : Value} (h : v.oneCell' = true) : v.cells = #[v] := by
  cases v <;> first | rfl | simp [Value.oneCell'] at h
theorem VR.cells (hρ : ∀ j, (ρ j).oneCell' = true) {x : AV} {v : Value} (h : VR ρ μ x v) (h1 : x.cells.all AV.one = true) : VRs ρ μ x.cells v.cells.toList := by
  by_cases hx : x.one = true
  · have hc : x.cells = [x] := by cases x <;> first | rfl | simp [AV.one] at hx
    rw [hc, cells_one (h.oneCell hρ hx)]
    exact .cons h .nil
  · cases h with
    | g hl hh => exact ⟨hl, hh⟩
    | u v => simp [AV.cells, AV.one] at h1
    | t hl hh => simp [AV.cells, AV.one] at h1
    | _ => simp [AV.one] at hx
theorem ofV1_VR {v : Value} {x : AV} (h : ofV1 v = some x) : VR ρ μ x v ∧ x.one = true := by
  unfold ofV1 at h
  split at h <;> simp at h <;> subst h <;> exact ⟨by constructor, rfl⟩
theorem ofVs_VR : ∀ {vs : List Value} {xs : List AV}, ofVs vs = some xs → VRs ρ μ xs vs ∧ xs.all AV.one = true
  | [], xs, h => by simp [ofVs] at h; subst h; exact ⟨.nil, rfl⟩
  | v :: vs, xs, h => by
    unfold ofVs at h
    split at h
    · rename_i x ys h1 h2
      simp at h; subst h
      have a := ofV1_VR (ρ := ρ) (μ := μ) h1
      have b := ofVs_VR (vs := vs) h2
      exact ⟨.cons a.1 b.1, by simp [a.2, b.2]⟩
    · cases h
theorem ofV_VR {v : Value} {x : AV} (h : ofV v = some x) : VR ρ μ x v := by
  unfold ofV at h
  split at h
  · rename_i cs
    simp at h
    obtain ⟨xs, hx, rfl⟩ := h
    have a := (ofVs_VR (ρ := ρ) (μ := μ) hx).1
    exact .g (vs := cs.toList) a.1 a.2
  · rename_i cs
    simp at h
    obtain ⟨xs, hx, rfl⟩ := h
    have a := (ofVs_VR (ρ := ρ) (μ := μ) hx).1
    exact .t (vs := cs.toList) a.1 a.2
  · exact (ofV1_VR h).1
end
def LiveAt (P : Program) (ρ : Nat → Value) (base : Nat) (μ : List Loc) (w : World) (l : Loc) (ty : TypeId) (kn : Kn) (cs : List AV) : Prop :=
  ∃ cur fz, w.heap[l.b]? = some (.cells cur ty fz) ∧ (kn.mine = true → base ≤ l.b ∧ (kn.own = true → fz = (0, 0)) ∧ l.cap * P.cellsOf ty ≤ cur.size) ∧ (kn.mine = false → l.b < base ∧ cs.length = cur.size) ∧ (l.row = true ↔ kn = .row) ∧ cs.length ≤ cur.size ∧
    (kn.own = true → cs.all AV.one = true) ∧ VRs ρ μ cs (cur.toList.take cs.length)
def MapAt (ρ : Nat → Value) (base : Nat) (μ : List Loc) (w : World) (l : Loc) (kd : IntKind) (es : List (Int × AV)) : Prop :=
  ∃ xs clk, w.heap[l.b]? = some (.map xs clk) ∧ base ≤ l.b ∧ xs.size = es.length ∧ (∀ x ∈ xs.toList, x.born < clk) ∧ (xs.toList.map (·.born)).Nodup ∧ (es.map (·.1)).Nodup ∧
    ∀ (j : Nat) (x : MapEntry) (k : Int) (v : AV), xs.toList[j]? = some x → es[j]? = some (k, v) → x.key = .int kd k ∧ v.one = true ∧ VR ρ μ v x.val
structure HR (P : Program) (ρ : Nat → Value) (base : Nat) (μ : List Loc) (H : Heap) (w : World) : Prop where
  len : μ.length = H.length
  base_le : base ≤ w.heap.size
  live : ∀ (i : Nat) (ty : TypeId) (kn : Kn) (cs : List AV) (l : Loc), H[i]? = some (.cells ty kn cs) → μ[i]? = some l → LiveAt P ρ base μ w l ty kn cs
  same : ∀ (i : Nat) (ty : TypeId) (kn : Kn) (cs : List AV) (l : Loc), H[i]? = some (.cells ty kn cs) → kn.mine = false → μ[i]? = some l → l.b = i
  inj : ∀ (i j : Nat) (ty : TypeId) (kn : Kn) (cs : List AV) (ty' : TypeId) (kn' : Kn) (cs' : List AV) (l l' : Loc), H[i]? = some (.cells ty kn cs) → kn.mine = true → H[j]? = some (.cells ty' kn' cs') → kn'.mine = true → μ[i]? = some l → μ[j]? = some l' → l.b = l'.b → i = j
  maps : ∀ (i : Nat) (kd : IntKind) (es : List (Int × AV)) (l : Loc), H[i]? = some (.map kd es) → μ[i]? = some l → MapAt ρ base μ w l kd es
  injm : ∀ (i j : Nat) (kd : IntKind) (es : List (Int × AV)) (kd' : IntKind) (es' : List (Int × AV)) (l l' : Loc), H[i]? = some (.map kd es) → H[j]? = some (.map kd' es') → μ[i]? = some l → μ[j]? = some l' → l.b = l'.b → i = j
def FR (ρ : Nat → Value) (μ : List Loc) (fr : List AV) (tmps : Array Value) : Prop := VRs ρ μ fr tmps.toList
section
variable {P : Program} {ρ : Nat → Value} {base : Nat} {μ μ' : List Loc} {H : Heap} {w : World} {fr : List AV} {a : Act}
theorem FR.mono (e : Ext μ μ') {fr : List AV} {t : Array Value} (h : FR ρ μ fr t) : FR ρ μ' fr t := VRs.mono e h
theorem ev_VR {x : Operand} {v : AV} (h : ev fr x = some v) (hf : FR ρ μ fr a.tmps) : VR ρ μ v (a.eval x) := by
  cases x with
  | tmp t =>
    obtain ⟨u, hu, hv⟩ := VRs.at hf (show fr[t]? = some v from h)
    simp only [Act.eval]
    rw [Array.getElem?_toList] at hu
    simp only [Array.getD_eq_getD_getElem?, hu, Option.getD_some]
    exact hv
  | const c => exact ofV_VR h
  | global g =>
    simp only [ev, Option.some.injEq] at h
    subst h
    exact .gp g
  | func f =>
    simp only [ev, Option.some.injEq] at h
    subst h
    exact .fn (vs := []) rfl (fun j x v h => by simp at h)
theorem HR.loc (h : HR P ρ base μ H w) {i : Nat} {b : Blk} (hi : H[i]? = some b) : ∃ l, μ[i]? = some l := by
  have : i < μ.length := by rw [h.len]; exact (List.getElem?_eq_some_iff.1 hi).1
  exact ⟨μ[i], by simp [this]⟩
theorem LiveAt.part {l : Loc} {ty : TypeId} {kn : Kn} {cs : List AV} (h : LiveAt P ρ base μ w l ty kn cs) {o n : Nat} (hn : o + n ≤ cs.length) :
    ∃ vs : List Value, vs.length = n ∧ VRs ρ μ ((cs.drop o).take n) vs ∧ (kn.own = true → ((cs.drop o).take n).all AV.one = true) ∧ ∀ (j : Nat) (u : Value), vs[j]? = some u → w.cell? ((⟨l.b, o, none⟩ : Addr).add j) = some u := by
  obtain ⟨cur, fz, hb, _, _, _, hle, h1, hv⟩ := h
  refine ⟨((cur.toList.take cs.length).drop o).take n, by simp; omega, (hv.drop o).take n, ?_, fun j u hu => ?_⟩
  · intro hk
    have h1 := h1 hk
    rw [List.all_eq_true] at h1 ⊢
    exact fun x hx => h1 x (List.mem_of_mem_drop (List.mem_of_mem_take hx))
  · rw [List.getElem?_take] at hu
    split at hu
    · rename_i hj
      rw [List.getElem?_drop, List.getElem?_take, if_pos (by omega)] at hu
      have hadd : (⟨l.b, o, none⟩ : Addr).add j = ⟨l.b, o + j, none⟩ := by unfold Addr.add; split <;> simp_all
      rw [hadd, cell_of_row w l.b (o + j) cur ty fz hb]
      simpa using hu
    · cases hu
theorem LiveAt.ext (e : Ext μ μ') {w' : World} {l : Loc} {ty : TypeId} {kn : Kn} {cs : List AV} (h : LiveAt P ρ base μ w l ty kn cs) (hb : w'.heap[l.b]? = w.heap[l.b]?) : LiveAt P ρ base μ' w' l ty kn cs := by
  obtain ⟨cur, fz, h1, h2, h3, h3b, h4, h5, h6⟩ := h
  exact ⟨cur, fz, hb.trans h1, h2, h3, h3b, h4, h5, h6.mono e⟩
theorem LiveAt.lt {l : Loc} {ty : TypeId} {kn : Kn} {cs : List AV} (h : LiveAt P ρ base μ w l ty kn cs) : l.b < w.heap.size := by
  obtain ⟨cur, fz, h1, _⟩ := h
  exact (Array.getElem?_eq_some_iff.1 h1).1
theorem MapAt.ext (e : Ext μ μ') {w' : World} {l : Loc} {kd : IntKind} {es : List (Int × AV)} (h : MapAt ρ base μ w l kd es) (hb : w'.heap[l.b]? = w.heap[l.b]?) : MapAt ρ base μ' w' l kd es := by
  obtain ⟨xs, clk, h1, h2, h3, h4, h5, h6, h7⟩ := h
  exact ⟨xs, clk, hb.trans h1, h2, h3, h4, h5, h6, fun j x k v hx hv => by obtain ⟨a, b, c⟩ := h7 j x k v hx hv; exact ⟨a, b, c.mono e⟩⟩
theorem MapAt.lt {l : Loc} {kd : IntKind} {es : List (Int × AV)} (h : MapAt ρ base μ w l kd es) : l.b < w.heap.size := by
  obtain ⟨xs, clk, h1, _⟩ := h
  exact (Array.getElem?_eq_some_iff.1 h1).1
theorem LiveAt.ne_map {l l' : Loc} {ty : TypeId} {kn : Kn} {cs : List AV} {kd : IntKind} {es : List (Int × AV)} (h : LiveAt P ρ base μ w l ty kn cs) (k : MapAt ρ base μ w l' kd es) : l.b ≠ l'.b := by
  intro e
  obtain ⟨_, _, h1, _⟩ := h
  obtain ⟨_, _, k1, _⟩ := k
  rw [e, k1] at h1
  cases h1
theorem HR.drew (h : HR P ρ base μ H w) : HR P ρ base μ H w.drew := ⟨h.len, h.base_le, fun i ty kn cs l a b => (h.live i ty kn cs l a b).ext (Ext.refl _) rfl, h.same, h.inj, fun i kd es l a b => (h.maps i kd es l a b).ext (Ext.refl _) rfl, h.injm⟩
theorem at_last {H : Heap} {b b' : Blk} {i : Nat} (hi : (H ++ [b])[i]? = some b') : (i < H.length ∧ H[i]? = some b') ∨ (i = H.length ∧ b' = b) := by
  rw [List.getElem?_append] at hi
  split at hi
  · exact .inl ⟨by assumption, hi⟩
  · right
    have hlt : i - H.length < 1 := by have := (List.getElem?_eq_some_iff.1 hi).1; simpa using this
    have : i = H.length := by omega
    subst this
    simp at hi
    exact ⟨rfl, hi.symm⟩
theorem loc_old {μ : List Loc} {n : Nat} (hn : μ.length = n) {l l' : Loc} {i : Nat} (hi : i < n) (hl : (μ ++ [l])[i]? = some l') : μ[i]? = some l' := by
  rwa [List.getElem?_append_left (by rw [hn]; exact hi)] at hl
theorem loc_last {μ : List Loc} {n : Nat} (hn : μ.length = n) {l l' : Loc} (hl : (μ ++ [l])[n]? = some l') : l' = l := by
  rw [← hn] at hl
  simp at hl
  exact hl.symm
theorem HR.alloc (h : HR P ρ base μ H w) (ty : TypeId) {kn : Kn} (hk : kn.own = true) {cs : List AV} (h1 : cs.all AV.one = true) {vs more : List Value} (hv : VRs ρ μ cs vs) (cap : Nat) (hc : cap * P.cellsOf ty ≤ vs.length + more.length) (row : Bool) (hrow : row = true ↔ kn = .row) :
    HR P ρ base (μ ++ [⟨w.heap.size, cap, row⟩]) (H ++ [.cells ty kn cs]) (w.alloc (.cells (vs ++ more).toArray ty)) := by
  have hext : Ext μ (μ ++ [⟨w.heap.size, cap, row⟩]) := Ext.append _ _
  have hmap : ∀ {i : Nat} {kd : IntKind} {es : List (Int × AV)}, (H ++ [Blk.cells ty kn cs])[i]? = some (Blk.map kd es) → i < H.length ∧ H[i]? = some (.map kd es) := fun hi => by
    rcases at_last hi with h | ⟨_, e⟩
    · exact h
    · cases e
  refine ⟨by simp [h.len], by have := h.base_le; simp; omega, ?_, ?_, ?_, fun i kd es l hi hl => ?_, fun i j kd es kd' es' l l' hi hj hl hl' hb => ?_⟩
  rotate_right 2
  · obtain ⟨hlt, hi'⟩ := hmap hi
    have hM := h.maps i kd es l hi' (loc_old h.len hlt hl)
    exact hM.ext hext (heap_alloc_old w _ hM.lt)
  · obtain ⟨hlt, hi'⟩ := hmap hi
    obtain ⟨hlt', hj'⟩ := hmap hj
    exact h.injm i j kd es kd' es' l l' hi' hj' (loc_old h.len hlt hl) (loc_old h.len hlt' hl') hb
  rotate_left
  · intro i ty' kn' cs' l hi ho hl
    rcases at_last hi with ⟨hlt, hi'⟩ | ⟨rfl, hb⟩
    · exact h.same i ty' kn' cs' l hi' ho (loc_old h.len hlt hl)
    · simp only [Blk.cells.injEq] at hb
      obtain ⟨rfl, rfl, rfl⟩ := hb
      rw [own_mine hk] at ho; cases ho
  rotate_left
  · intro i ty' kn' cs' l hi hl
    rcases at_last hi with ⟨hlt, hi'⟩ | ⟨rfl, hb⟩
    · have hL := h.live i ty' kn' cs' l hi' (loc_old h.len hlt hl)
      exact hL.ext hext (heap_alloc_old w _ hL.lt)
    · obtain rfl := loc_last h.len hl
      simp only [Blk.cells.injEq] at hb
      obtain ⟨rfl, rfl, rfl⟩ := hb
      refine ⟨(vs ++ more).toArray, (0, 0), heap_alloc_new w _, fun _ => ⟨h.base_le, fun _ => rfl, by simpa using hc⟩, (fun hh => by rw [own_mine hk] at hh; cases hh), hrow, by simp [hv.1], fun _ => h1, ?_⟩
      have : (vs ++ more).toArray.toList.take cs'.length = vs := by rw [hv.1]; simp
      rw [this]
      exact hv.mono hext
  · intro i j t1 k1 c1 t2 k2 c2 l l' hi hi1 hj hj1 hl hl' hb
    rcases at_last hi with ⟨hlt, hi'⟩ | ⟨rfl, e1⟩ <;> rcases at_last hj with ⟨hlt', hj'⟩ | ⟨rfl, e2⟩
    · exact h.inj i j t1 k1 c1 t2 k2 c2 l l' hi' hi1 hj' hj1 (loc_old h.len hlt hl) (loc_old h.len hlt' hl') hb
    · have hL := (h.live i t1 k1 c1 l hi' (loc_old h.len hlt hl)).lt
      obtain rfl := loc_last h.len hl'
      simp at hb; omega
    · have hL := (h.live j t2 k2 c2 l' hj' (loc_old h.len hlt' hl')).lt
      obtain rfl := loc_last h.len hl
      simp at hb; omega
    · rfl
theorem HR.allocC (h : HR P ρ base μ H w) (ty : TypeId) {cs : List AV} {vs more : List Value} (hv : VRs ρ μ cs vs) {w' : World} {fz : Nat × Nat} (hsz : w'.heap.size = w.heap.size + 1) (hold : ∀ i, i < w.heap.size → w'.heap[i]? = w.heap[i]?) (hnew : w'.heap[w.heap.size]? = some (.cells (vs ++ more).toArray ty fz)) :
    HR P ρ base (μ ++ [⟨w.heap.size, 0, false⟩]) (H ++ [.cells ty .cv cs]) w' := by
  have hext : Ext μ (μ ++ [⟨w.heap.size, 0, false⟩]) := Ext.append _ _
  have hmap : ∀ {i : Nat} {kd : IntKind} {es : List (Int × AV)}, (H ++ [Blk.cells ty .cv cs])[i]? = some (Blk.map kd es) → i < H.length ∧ H[i]? = some (.map kd es) := fun hi => by
    rcases at_last hi with h | ⟨_, e⟩
    · exact h
    · cases e
  refine ⟨by simp [h.len], by have := h.base_le; omega, ?_, ?_, ?_, fun i kd es l hi hl => ?_, fun i j kd es kd' es' l l' hi hj hl hl' hb => ?_⟩
  rotate_right 2
  · obtain ⟨hlt, hi'⟩ := hmap hi
    have hM := h.maps i kd es l hi' (loc_old h.len hlt hl)
    exact hM.ext hext (hold _ hM.lt)
  · obtain ⟨hlt, hi'⟩ := hmap hi
    obtain ⟨hlt', hj'⟩ := hmap hj
    exact h.injm i j kd es kd' es' l l' hi' hj' (loc_old h.len hlt hl) (loc_old h.len hlt' hl') hb
  rotate_left
  · intro i ty' kn' cs' l hi ho hl
    rcases at_last hi with ⟨hlt, hi'⟩ | ⟨rfl, hb⟩
    · exact h.same i ty' kn' cs' l hi' ho (loc_old h.len hlt hl)
    · simp only [Blk.cells.injEq] at hb
      obtain ⟨rfl, rfl, rfl⟩ := hb
      cases ho
  rotate_left
  · intro i ty' kn' cs' l hi hl
    rcases at_last hi with ⟨hlt, hi'⟩ | ⟨rfl, hb⟩
    · have hL := h.live i ty' kn' cs' l hi' (loc_old h.len hlt hl)
      exact hL.ext hext (hold _ hL.lt)
    · obtain rfl := loc_last h.len hl
      simp only [Blk.cells.injEq] at hb
      obtain ⟨rfl, rfl, rfl⟩ := hb
      refine ⟨(vs ++ more).toArray, fz, hnew, fun _ => ⟨h.base_le, (fun hh => by cases hh), by simp⟩, (fun hh => by cases hh), ⟨(fun hh => by cases hh), (fun hh => by cases hh)⟩, by simp [hv.1], (fun hh => by cases hh), ?_⟩
      have : (vs ++ more).toArray.toList.take cs'.length = vs := by rw [hv.1]; simp
      rw [this]
      exact hv.mono hext
  · intro i j t1 k1 c1 t2 k2 c2 l l' hi hi1 hj hj1 hl hl' hb
    rcases at_last hi with ⟨hlt, hi'⟩ | ⟨rfl, e1⟩ <;> rcases at_last hj with ⟨hlt', hj'⟩ | ⟨rfl, e2⟩
    · exact h.inj i j t1 k1 c1 t2 k2 c2 l l' hi' hi1 hj' hj1 (loc_old h.len hlt hl) (loc_old h.len hlt' hl') hb
    · have hL := (h.live i t1 k1 c1 l hi' (loc_old h.len hlt hl)).lt
      obtain rfl := loc_last h.len hl'
      simp at hb; omega
    · have hL := (h.live j t2 k2 c2 l' hj' (loc_old h.len hlt' hl')).lt
      obtain rfl := loc_last h.len hl
      simp at hb; omega
    · rfl
theorem set_old {H : Heap} {i j : Nat} {b b' : Blk} (hj : (H.set i b)[j]? = some b') : (j = i ∧ b' = b) ∨ (j ≠ i ∧ H[j]? = some b') := by
  rw [List.getElem?_set] at hj
  split at hj
  · rename_i e
    split at hj
    · simp at hj; exact .inl ⟨e.symm, hj.symm⟩
    · cases hj
  · rename_i hne; exact .inr ⟨fun e => hne e.symm, hj⟩
theorem set_map {H : Heap} {i j : Nat} {b : Blk} {kd : IntKind} {es : List (Int × AV)} (hb : ∀ kd es, b ≠ .map kd es) (hj : (H.set i b)[j]? = some (.map kd es)) : H[j]? = some (.map kd es) := by
  rcases set_old hj with ⟨_, e⟩ | ⟨_, e⟩
  · exact absurd e.symm (hb _ _)
  · exact e
theorem HR.kill (h : HR P ρ base μ H w) (i : Nat) : HR P ρ base μ (H.set i .dead) w := by
  have holdm : ∀ {j : Nat} {kd : IntKind} {es : List (Int × AV)}, (H.set i .dead)[j]? = some (Blk.map kd es) → H[j]? = some (.map kd es) := set_map (fun _ _ e => by cases e)
  have hold : ∀ {j : Nat} {ty : TypeId} {kn : Kn} {cs : List AV}, (H.set i .dead)[j]? = some (Blk.cells ty kn cs) → H[j]? = some (.cells ty kn cs) := by
    intro j ty kn cs hj
    rcases set_old hj with ⟨_, e⟩ | ⟨_, e⟩
    · cases e
    · exact e
  exact ⟨by simp [h.len], h.base_le, fun j ty kn cs l hj hl => h.live j ty kn cs l (hold hj) hl, fun j ty kn cs l hj ho hl => h.same j ty kn cs l (hold hj) ho hl,
    fun a b t1 k1 c1 t2 k2 c2 l l' ha ha1 hb => h.inj a b t1 k1 c1 t2 k2 c2 l l' (hold ha) ha1 (hold hb), fun j kd es l hj => h.maps j kd es l (holdm hj), fun a b kd es kd' es' l l' ha hb => h.injm a b kd es kd' es' l l' (holdm ha) (holdm hb)⟩
theorem HR.setRow (h : HR P ρ base μ H w) {i : Nat} {ty : TypeId} {kn : Kn} (hk : kn.own = true) {cs : List AV} {l : Loc} (hi : H[i]? = some (.cells ty kn cs)) (hl : μ[i]? = some l) (cs' : List AV) (new : List Value)
    (hnew : ∀ cur, w.heap[l.b]? = some (.cells cur ty (0, 0)) → new.length = cur.size ∧ cs'.length ≤ new.length ∧ VRs ρ μ cs' (new.take cs'.length)) (h1 : cs'.all AV.one = true) :
    HR P ρ base μ (H.set i (.cells ty kn cs')) (w.setRow l.b new.toArray) := by
  obtain ⟨cur, fz, hb, hro, hrb, hrow, hle, hone, hv⟩ := h.live i ty kn cs l hi hl
  obtain ⟨hbase, hfz, hcap⟩ := hro (own_mine hk)
  obtain rfl := hfz hk
  obtain ⟨n1, n2, n3⟩ := hnew cur hb
  have holdm : ∀ {j : Nat} {kd : IntKind} {es : List (Int × AV)}, (H.set i (.cells ty kn cs'))[j]? = some (Blk.map kd es) → H[j]? = some (.map kd es) := set_map (fun _ _ e => by cases e)
  have hLi := h.live i ty kn cs l hi hl
  refine ⟨by simp [h.len], by simpa using h.base_le, ?_, ?_, ?_, fun j kd es l' hj hl' => ?_, fun a b kd es kd' es' l l' ha hb => h.injm a b kd es kd' es' l l' (holdm ha) (holdm hb)⟩
  rotate_right 1
  · have hM := h.maps j kd es l' (holdm hj) hl'
    exact hM.ext (Ext.refl _) (setRow_other w l.b l'.b _ (hLi.ne_map hM).symm)
  rotate_left
  · intro j ty' kn' c' l' hj ho hl'
    rcases set_old hj with ⟨rfl, e⟩ | ⟨hne, hj'⟩
    · simp only [Blk.cells.injEq] at e
      obtain ⟨rfl, rfl, rfl⟩ := e
      rw [own_mine hk] at ho; cases ho
    · exact h.same j ty' kn' c' l' hj' ho hl'
  rotate_left
  · intro j ty' kn' c' l' hj hl'
    rcases set_old hj with ⟨rfl, e⟩ | ⟨hne, hj'⟩
    · simp only [Blk.cells.injEq] at e
      obtain ⟨rfl, rfl, rfl⟩ := e
      obtain rfl : l = l' := Option.some.inj (hl.symm.trans hl')
      exact ⟨new.toArray, (0, 0), setRow_heap w l.b cur _ _ _ hb, fun _ => ⟨hbase, fun _ => rfl, by simpa [n1] using hcap⟩, (fun hh => by rw [own_mine hk] at hh; cases hh), hrow, by simpa using n2, fun _ => h1, by simpa using n3⟩
    · have hL := h.live j ty' kn' c' l' hj' hl'
      refine hL.ext (Ext.refl _) (setRow_other w l.b l'.b _ ?_)
      intro e
      cases hkn : kn'.mine with
      | true => exact hne (h.inj j i _ _ _ _ _ _ l' l hj' hkn hi (own_mine hk) hl' hl e)
      | false =>
        obtain ⟨_, _, _, _, hlt, _⟩ := hL
        have := (hlt hkn).1
        omega
  · have own : ∀ {x : Nat} {t : TypeId} {k : Kn} {c : List AV}, (H.set i (.cells ty kn cs'))[x]? = some (Blk.cells t k c) → k.mine = true → ∃ t k c, H[x]? = some (.cells t k c) ∧ k.mine = true := by
      intro x t k c hx hk'
      rcases set_old hx with ⟨rfl, _⟩ | ⟨_, k'⟩
      · exact ⟨_, _, _, hi, own_mine hk⟩
      · exact ⟨_, _, _, k', hk'⟩
    intro x y t1 k1 c1 t2 k2 c2 lx ly hx hx1 hy hy1 hlx hly hb'
    obtain ⟨_, _, _, kx, kx1⟩ := own hx hx1
    obtain ⟨_, _, _, ky, ky1⟩ := own hy hy1
    exact h.inj x y _ _ _ _ _ _ lx ly kx kx1 ky ky1 hlx hly hb'
theorem HR.moved (h : HR P ρ base μ H w) {i : Nat} {ty : TypeId} {kn : Kn} (hkn : kn.own = true) {cs : List AV} {l : Loc} (hi : H[i]? = some (.cells ty kn cs)) (hl : μ[i]? = some l) :
    HR P ρ base (μ ++ [l]) (H.set i .dead ++ [.cells ty kn cs]) w := by
  have hk := h.kill i
  have hlen : (H.set i Blk.dead).length = H.length := by simp
  have hml : μ.length = (H.set i Blk.dead).length := by simp [h.len]
  have hne : ∀ {j : Nat} {t : TypeId} {k : Kn} {c : List AV}, (H.set i .dead)[j]? = some (Blk.cells t k c) → j ≠ i ∧ H[j]? = some (.cells t k c) := by
    intro j t k c hj
    rcases set_old hj with ⟨_, e⟩ | ⟨e1, e⟩
    · cases e
    · exact ⟨e1, e⟩
  have hmap : ∀ {j : Nat} {kd : IntKind} {es : List (Int × AV)}, (H.set i .dead ++ [Blk.cells ty kn cs])[j]? = some (Blk.map kd es) → j < (H.set i .dead).length ∧ (H.set i .dead)[j]? = some (.map kd es) := fun hi => by
    rcases at_last hi with h | ⟨_, e⟩
    · exact h
    · cases e
  refine ⟨by simp [h.len], h.base_le, ?_, ?_, ?_, fun j kd es l' hj hl' => ?_, fun a b kd es kd' es' l1 l' ha hb hl1 hl' he => ?_⟩
  rotate_right 2
  · obtain ⟨hlt, hj'⟩ := hmap hj
    exact (hk.maps j kd es l' hj' (loc_old hml hlt hl')).ext (Ext.append _ _) rfl
  · obtain ⟨hlt, ha'⟩ := hmap ha
    obtain ⟨hlt', hb'⟩ := hmap hb
    exact hk.injm a b kd es kd' es' l1 l' ha' hb' (loc_old hml hlt hl1) (loc_old hml hlt' hl') he
  rotate_left
  · intro j ty' kn' c' l' hj ho hl'
    rcases at_last hj with ⟨hlt, hj'⟩ | ⟨rfl, e⟩
    · exact hk.same j ty' kn' c' l' hj' ho (loc_old hml hlt hl')
    · simp only [Blk.cells.injEq] at e
      obtain ⟨rfl, rfl, rfl⟩ := e
      rw [own_mine hkn] at ho; cases ho
  rotate_left
  · intro j ty' kn' c' l' hj hl'
    rcases at_last hj with ⟨hlt, hj'⟩ | ⟨rfl, e⟩
    · exact (hk.live j ty' kn' c' l' hj' (loc_old hml hlt hl')).ext (Ext.append _ _) rfl
    · obtain rfl := loc_last hml hl'
      simp only [Blk.cells.injEq] at e
      obtain ⟨rfl, rfl, rfl⟩ := e
      exact (h.live i _ _ _ _ hi hl).ext (Ext.append _ _) rfl
  · intro x y t1 k1 c1 t2 k2 c2 lx ly hx hx1 hy hy1 hlx hly hb
    rcases at_last hx with ⟨ltx, hx'⟩ | ⟨rfl, ex⟩ <;> rcases at_last hy with ⟨lty, hy'⟩ | ⟨rfl, ey⟩
    · exact hk.inj x y _ _ _ _ _ _ lx ly hx' hx1 hy' hy1 (loc_old hml ltx hlx) (loc_old hml lty hly) hb
    · obtain rfl := loc_last hml hly
      obtain ⟨hne1, hx2⟩ := hne hx'
      exact absurd (h.inj x i _ _ _ _ _ _ lx ly hx2 hx1 hi (own_mine hkn) (loc_old hml ltx hlx) hl hb) hne1
    · obtain rfl := loc_last hml hlx
      obtain ⟨hne1, hy2⟩ := hne hy'
      exact absurd (h.inj i y _ _ _ _ _ _ lx ly hi (own_mine hkn) hy2 hy1 hl (loc_old hml lty hly) hb).symm hne1
    · rfl
theorem putM_new {n : Int} {v : AV} : ∀ {es : List (Int × AV)}, n ∉ es.map (·.1) → putM n v es = es ++ [(n, v)]
  | [], _ => rfl
  | (k, y) :: r, h => by
    simp at h
    unfold putM
    rw [if_neg (fun e => h.1 e.symm), putM_new (es := r) (by simpa using h.2)]
    rfl
theorem putM_old {n : Int} {v : AV} : ∀ {es : List (Int × AV)} {j : Nat} {x : AV}, es[j]? = some (n, x) → (es.map (·.1)).Nodup → putM n v es = es.set j (n, v)
  | (k, y) :: r, 0, x, h, _ => by
    simp at h
    unfold putM
    rw [if_pos h.1, h.1]; rfl
  | (k, y) :: r, j + 1, x, h, hn => by
    simp at h
    rw [List.map_cons, List.nodup_cons] at hn
    unfold putM
    have : k ≠ n := fun e => hn.1 (by rw [e]; exact List.mem_map.2 ⟨(n, x), List.mem_of_getElem? h, rfl⟩)
    rw [if_neg this, putM_old h hn.2]
    rfl
theorem HR.newMap (h : HR P ρ base μ H w) (kd : IntKind) : HR P ρ base (μ ++ [⟨w.heap.size, 0, false⟩]) (H ++ [.map kd []]) (w.alloc (.map #[] 0)) := by
  have hext : Ext μ (μ ++ [⟨w.heap.size, 0, false⟩]) := Ext.append _ _
  have hcel : ∀ {i : Nat} {ty : TypeId} {kn : Kn} {cs : List AV}, (H ++ [Blk.map kd []])[i]? = some (Blk.cells ty kn cs) → i < H.length ∧ H[i]? = some (.cells ty kn cs) := fun hi => by
    rcases at_last hi with h | ⟨_, e⟩
    · exact h
    · cases e
  refine ⟨by simp [h.len], by have := h.base_le; simp; omega, fun i ty kn cs l hi hl => ?_, fun i ty kn cs l hi ho hl => ?_, fun i j ty kn cs ty' kn' cs' l l' hi h1 hj h2 hl hl' hb => ?_, fun i kd' es l hi hl => ?_, fun i j kd1 es kd' es' l l' hi hj hl hl' hb => ?_⟩
  · obtain ⟨hlt, hi'⟩ := hcel hi
    have hL := h.live i ty kn cs l hi' (loc_old h.len hlt hl)
    exact hL.ext hext (heap_alloc_old w _ hL.lt)
  · obtain ⟨hlt, hi'⟩ := hcel hi
    exact h.same i ty kn cs l hi' ho (loc_old h.len hlt hl)
  · obtain ⟨hlt, hi'⟩ := hcel hi
    obtain ⟨hlt', hj'⟩ := hcel hj
    exact h.inj i j ty kn cs ty' kn' cs' l l' hi' h1 hj' h2 (loc_old h.len hlt hl) (loc_old h.len hlt' hl') hb
  · rcases at_last hi with ⟨hlt, hi'⟩ | ⟨rfl, e⟩
    · have hM := h.maps i kd' es l hi' (loc_old h.len hlt hl)
      exact hM.ext hext (heap_alloc_old w _ hM.lt)
    · simp only [Blk.map.injEq] at e
      obtain ⟨rfl, rfl⟩ := e
      obtain rfl := loc_last h.len hl
      exact ⟨#[], 0, heap_alloc_new w _, h.base_le, rfl, fun x hx => by simp at hx, by simp, by simp, fun j x k v hx => by simp at hx⟩
  · rcases at_last hi with ⟨hlt, hi'⟩ | ⟨rfl, e1⟩ <;> rcases at_last hj with ⟨hlt', hj'⟩ | ⟨rfl, e2⟩
    · exact h.injm i j kd1 es kd' es' l l' hi' hj' (loc_old h.len hlt hl) (loc_old h.len hlt' hl') hb
    · have hM := (h.maps i kd1 es l hi' (loc_old h.len hlt hl)).lt
      obtain rfl := loc_last h.len hl'
      simp at hb; omega
    · have hM := (h.maps j kd' es' l' hj' (loc_old h.len hlt' hl')).lt
      obtain rfl := loc_last h.len hl
      simp at hb; omega
    · rfl
def setB (w : World) (r : Nat) (o : Obj) : World := { w with heap := w.heap.setIfInBounds r o }
theorem setB_same {w : World} {r : Nat} (o : Obj) (h : r < w.heap.size) : (setB w r o).heap[r]? = some o := by simp [setB, h]
theorem setB_other {w : World} {r i : Nat} (o : Obj) (h : i ≠ r) : (setB w r o).heap[i]? = w.heap[i]? := by simp only [setB, Array.getElem?_setIfInBounds]; rw [if_neg (fun e => h e.symm)]
theorem below_setB {w : World} {r : Nat} {o : Obj} (h : base ≤ r) : Below base w (setB w r o) := ⟨rfl, rfl, rfl, by simp [setB], fun k hk => setB_other o (by omega)⟩
theorem HR.setMap (h : HR P ρ base μ H w) {i : Nat} {kd : IntKind} {es : List (Int × AV)} {l : Loc} (hi : H[i]? = some (.map kd es)) (hl : μ[i]? = some l) (es' : List (Int × AV)) (o : Obj) (hnew : MapAt ρ base μ (setB w l.b o) l kd es') :
    HR P ρ base μ (H.set i (.map kd es')) (setB w l.b o) := by
  have hM := h.maps i kd es l hi hl
  have hcel : ∀ {j : Nat} {ty : TypeId} {kn : Kn} {cs : List AV}, (H.set i (.map kd es'))[j]? = some (Blk.cells ty kn cs) → H[j]? = some (.cells ty kn cs) := fun hj => by
    rcases set_old hj with ⟨_, e⟩ | ⟨_, e⟩
    · cases e
    · exact e
  refine ⟨by simp [h.len], by simpa [setB] using h.base_le, fun j ty kn cs l' hj hl' => ?_, fun j ty kn cs l' hj ho hl' => h.same j ty kn cs l' (hcel hj) ho hl', fun a b t1 k1 c1 t2 k2 c2 l1 l' ha h1 hb h2 => h.inj a b t1 k1 c1 t2 k2 c2 l1 l' (hcel ha) h1 (hcel hb) h2, fun j kd1 es1 l' hj hl' => ?_, fun a b kd1 e1 kd2 e2 l1 l2 ha hb hl1 hl2 he => ?_⟩
  · have hL := h.live j ty kn cs l' (hcel hj) hl'
    exact hL.ext (Ext.refl _) (setB_other o (hL.ne_map hM))
  · rcases set_old hj with ⟨rfl, e⟩ | ⟨hne, hj'⟩
    · simp only [Blk.map.injEq] at e
      obtain ⟨rfl, rfl⟩ := e
      obtain rfl : l = l' := Option.some.inj (hl.symm.trans hl')
      exact hnew
    · exact (h.maps j kd1 es1 l' hj' hl').ext (Ext.refl _) (setB_other o fun e => hne (h.injm j i kd1 es1 kd es l' l hj' hi hl' hl e))
  · have own : ∀ {x : Nat} {k : IntKind} {e : List (Int × AV)}, (H.set i (.map kd es'))[x]? = some (Blk.map k e) → ∃ k e, H[x]? = some (.map k e) := fun hx => by
      rcases set_old hx with ⟨rfl, _⟩ | ⟨_, k'⟩
      · exact ⟨_, _, hi⟩
      · exact ⟨_, _, k'⟩
    obtain ⟨_, _, ka⟩ := own ha
    obtain ⟨_, _, kb⟩ := own hb
    exact h.injm a b _ _ _ _ l1 l2 ka kb hl1 hl2 he
theorem HR.adopt (h : HR P ρ base μ H w) {b : Nat} {ty : TypeId} {kn : Kn} (hk : kn.own = true) {cs : List AV} (h1 : cs.all AV.one = true) {cur : Array Value} (hb : w.heap[b]? = some (.cells cur ty (0, 0))) (hbase : base ≤ b) (hlen : cs.length ≤ cur.size) (hv : VRs ρ μ cs (cur.toList.take cs.length))
    (cap : Nat) (hc : cap * P.cellsOf ty ≤ cur.size) (row : Bool) (hrow : row = true ↔ kn = .row) (hnew : ∀ (i : Nat) (ty : TypeId) (kn : Kn) (cs : List AV) (l : Loc), H[i]? = some (.cells ty kn cs) → kn.mine = true → μ[i]? = some l → l.b ≠ b) :
    HR P ρ base (μ ++ [⟨b, cap, row⟩]) (H ++ [.cells ty kn cs]) w := by
  have hext : Ext μ (μ ++ [⟨b, cap, row⟩]) := Ext.append _ _
  have hmap : ∀ {i : Nat} {kd : IntKind} {es : List (Int × AV)}, (H ++ [Blk.cells ty kn cs])[i]? = some (Blk.map kd es) → i < H.length ∧ H[i]? = some (.map kd es) := fun hi => by
    rcases at_last hi with h | ⟨_, e⟩
    · exact h
    · cases e
  refine ⟨by simp [h.len], h.base_le, fun i ty' kn' cs' l hi hl => ?_, fun i ty' kn' cs' l hi ho hl => ?_, fun i j t1 k1 c1 t2 k2 c2 l l' hi hi1 hj hj1 hl hl' he => ?_, fun i kd es l hi hl => ?_, fun i j kd es kd' es' l l' hi hj hl hl' he => ?_⟩
  · rcases at_last hi with ⟨hlt, hi'⟩ | ⟨rfl, e⟩
    · exact (h.live i ty' kn' cs' l hi' (loc_old h.len hlt hl)).ext hext rfl
    · obtain rfl := loc_last h.len hl
      simp only [Blk.cells.injEq] at e
      obtain ⟨rfl, rfl, rfl⟩ := e
      exact ⟨cur, (0, 0), hb, fun _ => ⟨hbase, fun _ => rfl, hc⟩, (fun hh => by rw [own_mine hk] at hh; cases hh), hrow, hlen, fun _ => h1, hv.mono hext⟩
  · rcases at_last hi with ⟨hlt, hi'⟩ | ⟨rfl, e⟩
    · exact h.same i ty' kn' cs' l hi' ho (loc_old h.len hlt hl)
    · simp only [Blk.cells.injEq] at e
      obtain ⟨rfl, rfl, rfl⟩ := e
      rw [own_mine hk] at ho; cases ho
  · rcases at_last hi with ⟨hlt, hi'⟩ | ⟨rfl, e1⟩ <;> rcases at_last hj with ⟨hlt', hj'⟩ | ⟨rfl, e2⟩
    · exact h.inj i j t1 k1 c1 t2 k2 c2 l l' hi' hi1 hj' hj1 (loc_old h.len hlt hl) (loc_old h.len hlt' hl') he
    · have := hnew i _ _ _ l hi' hi1 (loc_old h.len hlt hl)
      obtain rfl := loc_last h.len hl'
      exact absurd he this
    · have := hnew j _ _ _ l' hj' hj1 (loc_old h.len hlt' hl')
      obtain rfl := loc_last h.len hl
      exact absurd he.symm this
    · rfl
  · obtain ⟨hlt, hi'⟩ := hmap hi
    exact (h.maps i kd es l hi' (loc_old h.len hlt hl)).ext hext rfl
  · obtain ⟨hlt, hi'⟩ := hmap hi
    obtain ⟨hlt', hj'⟩ := hmap hj
    exact h.injm i j kd es kd' es' l l' hi' hj' (loc_old h.len hlt hl) (loc_old h.len hlt' hl') he
theorem HR.aside (h : HR P ρ base μ H w) {w' : World} (hs : w.heap.size ≤ w'.heap.size) (hk : ∀ (i : Nat) (b : Blk) (l : Loc), H[i]? = some b → b ≠ Blk.dead → μ[i]? = some l → w'.heap[l.b]? = w.heap[l.b]?) : HR P ρ base μ H w' :=
  ⟨h.len, Nat.le_trans h.base_le hs, fun i ty kn cs l a b => (h.live i ty kn cs l a b).ext (Ext.refl _) (hk i _ l a (by simp) b), h.same, h.inj, fun i kd es l a b => (h.maps i kd es l a b).ext (Ext.refl _) (hk i _ l a (by simp) b), h.injm⟩
end
end Go.Proofs.YtiifcfngbbhgoagDoor.Ax

namespace Go.Proofs.YtiifcfngbbhgoagDoor.Ax
open Go Go.RowKit
section facts
variable {P : Program} (w : World)
theorem run_sizeA {t : TypeId} {s : Nat} (h : sizeA P t = some s) : (sizeOf t).run P w = .ok s w := by
  unfold sizeA at h
  cases hi : P.info? t with
  | none => simp [hi] at h
  | some i => simp [hi] at h; simp [sizeOf, typeInfo, hi, h]
theorem run_aggA {t : TypeId} {b : Bool} (h : aggA P t = some b) : (isAgg t).run P w = .ok b w := by
  unfold aggA at h
  cases hu : P.underlying t with
  | none => simp [hu] at h
  | some d =>
    unfold isAgg
    simp only [Sem.run_bind, run_underlying hu, Result.andThen_ok]
    cases d <;> simp [hu] at h <;> subst h <;> rfl
theorem run_zeroA {t : TypeId} {z : AV} (h : zeroA P t = some z) : ∃ v, (∀ w : World, (zeroValue t).run P w = .ok v w) ∧ ofV v = some z ∧ ((P.info? t).bind (·.zero)) = some v := by
  unfold zeroA at h
  cases hz : (P.info? t).bind (·.zero) with
  | none => simp [hz] at h
  | some v =>
    simp [hz] at h
    refine ⟨v, fun w => ?_, h, rfl⟩
    cases hi : P.info? t with
    | none => simp [hi] at hz
    | some i => simp [hi] at hz; simp [zeroValue, typeInfo, hi, hz]
theorem run_elemA {t e : TypeId} (h : elemA P t = some e) : P.underlying t = some (.slice e) := by
  unfold elemA at h
  split at h
  · rename_i e' hu; simp at h; subst h; exact hu
  · cases h
theorem cellsOf_sizeA {t : TypeId} {s : Nat} (h : sizeA P t = some s) : P.cellsOf t = s := by
  unfold sizeA at h
  unfold Program.cellsOf
  rw [h]; rfl
theorem add_at (b o n : Nat) : (⟨b, o, none⟩ : Addr).add n = ⟨b, o + n, none⟩ := by unfold Addr.add; split <;> simp_all
end facts
def Fine (P : Program) (ρ : Nat → Value) (base : Nat) (μ : List Loc) (w : World) (v : AV) (H' : Heap) (r : Result Value) : Prop :=
  ∃ v' w' μ', r = .ok v' w' ∧ Ext μ μ' ∧ VR ρ μ' v v' ∧ HR P ρ base μ' H' w' ∧ Below base w w'
section
variable {P : Program} {ρ : Nat → Value} {base : Nat} {μ : List Loc} {H : Heap} {w : World} {fr : List AV} {a : Act}
theorem fine_pure {v : AV} {v' : Value} (hr : HR P ρ base μ H w) (hv : VR ρ μ v v') : Fine P ρ base μ w v H (.ok v' w) := ⟨v', w, μ, rfl, Ext.refl _, hv, hr, Below.refl _ _⟩
theorem newBlk_some {ty : TypeId} {kn : Kn} {cs : List AV} {i : Nat} {H' : Heap} (h : newBlk H ty kn cs = some (i, H')) : i = H.length ∧ H' = H ++ [.cells ty kn cs] ∧ cs.all AV.one = true := by
  unfold newBlk at h
  split at h
  · rename_i h1; simp at h; exact ⟨h.1.symm, h.2.symm, h1⟩
  · cases h
theorem fine_new (hr : HR P ρ base μ H w) {ty : TypeId} {kn : Kn} (hk : kn.own = true) {cs : List AV} {i : Nat} {H' : Heap} (h : newBlk H ty kn cs = some (i, H')) {vs : List Value} (hv : VRs ρ μ cs vs) (more : List Value) (cap : Nat) (hc : cap * P.cellsOf ty ≤ vs.length + more.length) (row : Bool) (hrow : row = true ↔ kn = .row) :
    ∃ μ', Ext μ μ' ∧ μ'[i]? = some ⟨w.heap.size, cap, row⟩ ∧ HR P ρ base μ' H' (w.alloc (.cells (vs ++ more).toArray ty)) ∧ Below base w (w.alloc (.cells (vs ++ more).toArray ty)) := by
  obtain ⟨rfl, rfl, h1⟩ := newBlk_some h
  exact ⟨_, Ext.append _ _, by rw [← hr.len]; simp, hr.alloc ty hk h1 hv cap hc row hrow, (Below.refl _ _).alloc hr.base_le _⟩
theorem loadAt_run (hr : HR P ρ base μ H w) {t : TypeId} {i o : Nat} {v : AV} {l : Loc} (h : loadAt P H t i o = some v) (hl : μ[i]? = some l) : ∃ v', (loadVar t ⟨l.b, o, none⟩).run P w = .ok v' w ∧ VR ρ μ v v' := by
  unfold loadAt at h
  split at h
  · rename_i ty kn cs sz hb ha hs
    split at h
    · rename_i hle
      simp at h; subst h
      obtain ⟨vs, hvl, hvs, _, hc⟩ := (hr.live i ty kn cs l hb hl).part hle
      have hld := run_loadCells_list (P := P) w ⟨l.b, o, none⟩ vs hc
      rw [hvl] at hld
      have : (loadVar t ⟨l.b, o, none⟩).run P w = .ok (.agg vs.toArray) w := by
        simp [loadVar, run_aggA w ha, run_sizeA w hs, hld]
      exact ⟨_, this, .g hvs.1 hvs.2⟩
    · cases h
  · rename_i _ ty kn cs hb ha
    have hlt := (List.getElem?_eq_some_iff.1 h).1
    obtain ⟨vs, hvl, hvs, _, hc⟩ := (hr.live i ty kn cs l hb hl).part (o := o) (n := 1) (by omega)
    have h0 : ((cs.drop o).take 1)[0]? = some v := by rw [List.getElem?_take, if_pos (by omega), List.getElem?_drop]; exact h
    obtain ⟨u, hu, huv⟩ := hvs.at h0
    have hcell := hc 0 u hu
    rw [add_at] at hcell
    have : (loadVar t ⟨l.b, o, none⟩).run P w = .ok u w := by
      simp at hcell
      simp [loadVar, run_aggA w ha, hcell]
    exact ⟨_, this, huv⟩
  · cases h
theorem isRo_some {i : Nat} (h : isRo H i = true) : ∃ ty cs, H[i]? = some (.cells ty .ro cs) := by
  unfold isRo at h
  split at h
  · rename_i ty cs hb; exact ⟨ty, cs, hb⟩
  · cases h
theorem load_run (hr : HR P ρ base μ H w) {t : TypeId} {x v : AV} {x' : Value} (h : loadA P H t x = some v) (hx : VR ρ μ x x') : ∃ ad v', x' = .pointer (some ad) ∧ (loadVar t ad).run P w = .ok v' w ∧ VR ρ μ v v' := by
  unfold loadA at h
  split at h
  · rename_i i o
    cases hx with
    | p hl =>
      rename_i l
      obtain ⟨v', h1, h2⟩ := loadAt_run hr h hl
      exact ⟨_, v', rfl, h1, h2⟩
  · rename_i g
    cases hx
    split at h
    · rename_i hg
      obtain ⟨ty, cs, hb⟩ := isRo_some hg
      obtain ⟨l, hl⟩ := hr.loc hb
      have hlb := hr.same g ty .ro cs l hb rfl hl
      obtain ⟨v', h1, h2⟩ := loadAt_run hr h hl
      rw [hlb] at h1
      exact ⟨_, v', rfl, h1, h2⟩
    · cases h
  · cases h
theorem load_fine (hr : HR P ρ base μ H w) {t : TypeId} {x v : AV} {x' : Value} (h : loadA P H t x = some v) (hx : VR ρ μ x x') : Fine P ρ base μ w v H ((Instr.loadAt t x').run P w) := by
  obtain ⟨ad, v', rfl, hrun, hv⟩ := load_run hr h hx
  have : (Instr.loadAt t (.pointer (some ad))).run P w = .ok v' w := by simp [Instr.loadAt, Instr.sureAddr, hrun]
  rw [this]
  exact fine_pure hr hv
theorem over_all {cs new : List AV} {o : Nat} (h1 : cs.all AV.one = true) (h2 : new.all AV.one = true) : (over cs new o).all AV.one = true := by
  rw [List.all_eq_true] at *
  intro x hx
  unfold over at hx
  rw [List.mem_append, List.mem_append] at hx
  rcases hx with (hx | hx) | hx
  · exact h1 x (List.mem_of_mem_take hx)
  · exact h2 x hx
  · exact h1 x (List.mem_of_mem_drop hx)
theorem over_length {cs new : List AV} {o : Nat} (h : o + new.length ≤ cs.length) : (over cs new o).length = cs.length := by
  unfold over; simp; omega
theorem put_row (hρ : ∀ j, (ρ j).oneCell' = true) (hr : HR P ρ base μ H w) {i : Nat} {ty : TypeId} {kn : Kn} (hk : kn.own = true) {cs : List AV} {l : Loc} (hb : H[i]? = some (.cells ty kn cs)) (hl : μ[i]? = some l) {new : List AV} {o : Nat} (ho : o + new.length ≤ cs.length)
    (h1 : new.all AV.one = true) {vs : List Value} (hv : VRs ρ μ new vs) :
    ∃ w', (storeCells ⟨l.b, o, none⟩ vs).run P w = .ok () w' ∧ HR P ρ base μ (H.set i (.cells ty kn (over cs new o))) w' ∧ Below base w w' := by
  obtain ⟨cur, fz, hbl, hro, _, _, hle, hone0, hvs⟩ := hr.live i ty kn cs l hb hl
  have hone := hone0 hk
  obtain ⟨hbase, hfz, hcap⟩ := hro (own_mine hk)
  obtain rfl := hfz hk
  have hvl := hv.1
  have hone' : ∀ u ∈ vs, u.oneCell' = true := by
    intro u hu
    obtain ⟨j, hj, rfl⟩ := List.mem_iff_getElem.1 hu
    have hj' : j < new.length := by omega
    refine (hv.2 j new[j] vs[j] (by simp [hj']) (by simp [hj])).oneCell hρ ?_
    rw [List.all_eq_true] at h1
    exact h1 _ (List.getElem_mem _)
  have hst := run_storeCells_at P l.b o ty vs 0 cur w hbl (by omega) hone'
  simp only [Nat.add_zero] at hst
  refine ⟨_, hst, ?_, ⟨rfl, rfl, rfl, by simp, fun k hk => setRow_other w l.b k _ (by omega)⟩⟩
  refine hr.setRow hk hb hl (over cs new o) _ (fun cur' hc' => ?_) (over_all hone h1)
  have : cur' = cur := by rw [hbl] at hc'; simp at hc'; exact hc'.symm
  subst this
  refine ⟨by simp; omega, by rw [over_length ho]; simp; omega, ?_⟩
  rw [over_length ho]
  have e1 : (cur'.toList.take o ++ vs ++ cur'.toList.drop (o + vs.length)).take cs.length = ((cur'.toList.take cs.length).take o) ++ vs ++ ((cur'.toList.take cs.length).drop (o + vs.length)) := by
    rw [List.take_append, List.take_append]
    have l1 : (cur'.toList.take o).length = o := by simp; omega
    have t1 : (cur'.toList.take o).take cs.length = (cur'.toList.take cs.length).take o := by rw [List.take_take, List.take_take]; congr 1; omega
    have t2 : vs.take (cs.length - (cur'.toList.take o).length) = vs := List.take_of_length_le (by omega)
    rw [t1, t2, List.drop_take]
    congr 2
    simp only [List.length_append, l1]
  rw [e1]
  unfold over
  rw [hvl]
  exact ((hvs.take o).append hv).append (hvs.drop _)
theorem store_fine (hρ : ∀ j, (ρ j).oneCell' = true) (hr : HR P ρ base μ H w) {t : TypeId} {x y : AV} {x' y' : Value} {H' : Heap} (h : storeA P H t x y = some H') (hx : VR ρ μ x x') (hy : VR ρ μ y y') :
    ∃ w', (Instr.storeAt t x' y').run P w = .ok () w' ∧ HR P ρ base μ H' w' ∧ Below base w w' := by
  unfold storeA at h
  split at h
  · rename_i i o
    cases hx with
    | p hl =>
      rename_i l
      split at h
      · rename_i ty kn cs sz hb hs
        split at h
        · rename_i hc
          obtain ⟨hc0, hc1, hc2, hc3⟩ := hc
          simp at h; subst h
          have hyv := hy.cells hρ hc3
          obtain ⟨w', hrun, hr', hbel⟩ := put_row hρ hr hc0 hb hl (o := o) (by omega) hc3 hyv
          refine ⟨w', ?_, hr', hbel⟩
          have hsz : y'.cells.size = sz := by have := hyv.1; simp at this; omega
          simp [Instr.storeAt, Instr.sureAddr, storeVar, run_sizeA w hs, hsz, hrun]
        · cases h
      · cases h
  · cases h
inductive PR (ρ : Nat → Value) (μ : List Loc) : List (Nat × AV) → List (Nat × Value) → Prop
  | nil : PR ρ μ [] []
  | cons {i : Nat} {x : AV} {v : Value} {r : List (Nat × AV)} {s : List (Nat × Value)} (h : VR ρ μ x v) (t : PR ρ μ r s) : PR ρ μ ((i, x) :: r) ((i, v) :: s)
theorem seg_over (off : Nat) : ∀ (vs : List Value) (k : Nat) (cells : Array Value), off + k + vs.length ≤ cells.size →
    (vs.zipIdx k).foldl (fun (cs : Array Value) (c, j) => cs.setIfInBounds (off + j) c) cells = (cells.toList.take (off + k) ++ vs ++ cells.toList.drop (off + k + vs.length)).toArray
  | [], k, cells, _ => by simp
  | v :: vs, k, cells, h => by
    simp only [List.length_cons] at h
    simp only [List.zipIdx_cons, List.foldl_cons]
    rw [seg_over off vs (k + 1) (cells.setIfInBounds (off + k) v) (by simp; omega)]
    have e := list_seg_step cells.toList (off + k) v vs (by simp; omega)
    apply Array.ext'
    simp only [Array.toList_setIfInBounds, List.length_cons]
    simpa [Nat.add_assoc] using e
theorem over_VRs {cs new : List AV} {vs us : List Value} (h : VRs ρ μ cs vs) (k : VRs ρ μ new us) (o : Nat) : VRs ρ μ (over cs new o) (vs.take o ++ us ++ vs.drop (o + us.length)) := by
  unfold over
  rw [k.1]
  exact ((h.take o).append k).append (h.drop _)
theorem fill_fine (hρ : ∀ j, (ρ j).oneCell' = true) {place place' : Nat → Option (Nat × Nat)} (hp : ∀ i s, place i = some s → place' i = some s) {parts : List (Nat × AV)} {parts' : List (Nat × Value)} (hps : PR ρ μ parts parts') :
    ∀ (cs : List AV) (vs : List Value) (out : List AV), fillA place cs parts = some out → VRs ρ μ cs vs → cs.all AV.one = true →
    ∃ vs', Instr.fill place' vs.toArray parts' = some vs'.toArray ∧ VRs ρ μ out vs' ∧ out.all AV.one = true := by
  induction hps with
  | nil =>
    intro cs vs out h hv h1
    simp [fillA] at h
    subst h
    exact ⟨vs, rfl, hv, h1⟩
  | @cons i x v r s hx _ ih =>
    intro cs vs out h hv h1
    unfold fillA at h
    split at h
    · rename_i off size hpl
      split at h
      · rename_i hc
        obtain ⟨c1, c2, c3⟩ := hc
        have hxc := hx.cells hρ c3
        have hsz : v.cells.size = size := by have := hxc.1; simp at this; omega
        have hvl := hv.1
        have hseg := seg_over off v.cells.toList 0 vs.toArray (by simp; omega)
        obtain ⟨vs', hf, hv', h1'⟩ := ih (over cs x.cells off) (vs.take off ++ v.cells.toList ++ vs.drop (off + v.cells.toList.length)) out h (over_VRs hv hxc off) (over_all h1 c3)
        refine ⟨vs', ?_, hv', h1'⟩
        unfold Instr.fill
        rw [hp _ _ hpl]
        simp only [Nat.add_zero] at hseg
        simp only
        rw [if_neg (by simp; omega), ← hf]
        congr 1
        rw [← Array.foldl_toList, Array.toList_zipIdx, hseg]
      · cases h
    · cases h
end
end Go.Proofs.YtiifcfngbbhgoagDoor.Ax

namespace Go.Proofs.YtiifcfngbbhgoagDoor.Ax
open Go Go.RowKit
section
variable {P : Program} {ρ : Nat → Value} {base : Nat} {μ : List Loc} {H : Heap} {w : World} {fr : List AV} {a : Act}
theorem evs_PR (hf : FR ρ μ fr a.tmps) : ∀ {ps : List (Nat × Operand)} {xs : List (Nat × AV)}, evs fr ps = some xs → PR ρ μ xs (ps.map fun (i, x) => (i, a.eval x))
  | [], xs, h => by simp [evs] at h; subst h; exact .nil
  | (i, x) :: r, xs, h => by
    unfold evs at h
    split at h
    · rename_i v vs h1 h2
      simp at h; subst h
      exact .cons (ev_VR h1 hf) (evs_PR hf h2)
    · cases h
theorem evl_VRs (hf : FR ρ μ fr a.tmps) : ∀ {ps : List Operand} {xs : List AV}, evl fr ps = some xs → VRs ρ μ xs (ps.map a.eval)
  | [], xs, h => by simp [evl] at h; subst h; exact .nil
  | x :: r, xs, h => by
    unfold evl at h
    split at h
    · rename_i v vs h1 h2
      simp at h; subst h
      exact .cons (ev_VR h1 hf) (evl_VRs hf h2)
    · cases h
theorem mapM_places (w : World) : ∀ (fs : List Field), fs.all (fun f => (sizeA P f.type).isSome) = true →
    (fs.mapM (fun f => (do pure (f.offset, ← sizeOf f.type) : Sem (Nat × Nat)))).run P w = .ok (fs.map fun f => (f.offset, (sizeA P f.type).getD 0)) w
  | [], _ => rfl
  | f :: fs, h => by
    simp only [List.all_cons, Bool.and_eq_true] at h
    obtain ⟨s, hs⟩ := Option.isSome_iff_exists.1 h.1
    have ih := mapM_places w fs h.2
    simp only [List.mapM_cons, Sem.run_bind, run_sizeA w hs, Result.andThen_ok, Sem.run_pure, ih, List.map_cons, hs, Option.getD_some]
theorem build_fine (hρ : ∀ j, (ρ j).oneCell' = true) (hr : HR P ρ base μ H w) {t : TypeId} {xs : List (Nat × AV)} {vs : List (Nat × Value)} (hp : PR ρ μ xs vs) {v : AV} (h : buildA P t xs = some v) :
    Fine P ρ base μ w v H ((Instr.build t vs.toArray).run P w) := by
  unfold buildA at h
  split at h
  · rename_i fields z hu hz
    split at h
    · rename_i hc
      simp only [Bool.and_eq_true] at hc
      obtain ⟨out, ho, rfl⟩ := Option.map_eq_some_iff.1 h
      obtain ⟨zv, hzr, hzv, _⟩ := run_zeroA hz
      have hzc := (ofV_VR (ρ := ρ) (μ := μ) hzv).cells hρ hc.2
      obtain ⟨vs', hf, hv', _⟩ := fill_fine (place' := ((fields.toList.map fun f => (f.offset, (sizeA P f.type).getD 0)).toArray[·]?)) hρ (fun i s hs => by
        unfold fieldPlaceA at hs
        split at hs
        · rename_i f hfi
          obtain ⟨sz, hsz, rfl⟩ := Option.map_eq_some_iff.1 hs
          have : fields.toList[i]? = some f := by simpa using hfi
          simp [this, hsz]
        · cases hs) hp z.cells zv.cells.toList out ho hzc hc.2
      have hm := mapM_places (P := P) w fields.toList hc.1
      have hm' : (fields.mapM (fun f => (do pure (f.offset, ← sizeOf f.type) : Sem (Nat × Nat)))).run P w = .ok (fields.toList.map fun f => (f.offset, (sizeA P f.type).getD 0)).toArray w := by
        rw [Array.mapM_eq_mapM_toList, Sem.run_map, hm]; rfl
      have : (Instr.build t vs.toArray).run P w = .ok (.agg vs'.toArray) w := by
        simp only [Instr.build, Sem.run_bind, hzr, Result.andThen_ok, run_underlying hu, hm']
        simp only [Array.toArray_toList] at hf
        rw [hf]
        rfl
      rw [this]
      exact fine_pure hr (.g hv'.1 hv'.2)
    · cases h
  · cases h
theorem zeros_VRs {z : List AV} {zv : List Value} (h : VRs ρ μ z zv) (sz : Nat) (hz : z.length = sz) (hsz : 0 < sz) : ∀ n, VRs ρ μ (zerosA z n) ((Array.range (n * sz)).map (zv.toArray[· % zv.toArray.size]!)).toList := by
  have hzl : zv.length = sz := by rw [← h.1]; exact hz
  intro n
  have hlen : ∀ n, (zerosA z n).length = n * sz := by
    intro n
    induction n with
    | zero => simp [zerosA]
    | succ n ih => simp [zerosA, ih, hz, Nat.add_mul]; omega
  refine ⟨by simp [hlen], fun j x v p q => ?_⟩
  have hj : j < n * sz := by have := (List.getElem?_eq_some_iff.1 p).1; rw [hlen] at this; exact this
  have hx : ∀ n j, j < n * sz → (zerosA z n)[j]? = z[j % sz]? := by
    intro n
    induction n with
    | zero => intro j hj; simp at hj
    | succ n ih =>
      intro j hj
      unfold zerosA
      rw [List.getElem?_append]
      split
      · rename_i hlt; rw [hz] at hlt; rw [Nat.mod_eq_of_lt hlt]
      · rename_i hge
        rw [hz] at hge ⊢
        rw [ih _ (by rw [Nat.add_mul] at hj; omega)]
        rw [show j % sz = (j - sz) % sz by rw [← Nat.mod_eq_sub_mod (by omega)]]
  rw [hx n j hj] at p
  have hm : j % sz < zv.length := by rw [hzl]; exact Nat.mod_lt _ hsz
  simp only [Array.toList_map, List.getElem?_map, Array.toList_range, List.getElem?_range hj, Option.map_some, Option.some.injEq] at q
  subst q
  have hs : zv.toArray.size = sz := by simp [hzl]
  rw [hs]
  refine h.2 _ x _ p ?_
  rw [getElem!_pos zv.toArray _ (by simpa using hm)]
  simp [hm]
theorem zeros_one {z : List AV} (h : z.all AV.one = true) : ∀ n, (zerosA z n).all AV.one = true
  | 0 => rfl
  | n + 1 => by unfold zerosA; rw [List.all_append, h, zeros_one h n]; rfl
theorem buildSlice_fine (hρ : ∀ j, (ρ j).oneCell' = true) (hr : HR P ρ base μ H w) {t : TypeId} {len : Nat} {xs : List (Nat × AV)} {vs : List (Nat × Value)} (hp : PR ρ μ xs vs) {v : AV} {H' : Heap} (h : buildSliceA P H t len xs = some (v, H')) :
    Fine P ρ base μ w v H' ((Instr.buildSlice t len vs.toArray).run P w) := by
  unfold buildSliceA at h
  split at h
  · rename_i e he
    split at h
    · rename_i sz z hs hz
      split at h
      · rename_i hl0
        split at h
        · rename_i hpe
          subst hl0
          obtain ⟨⟨i, H1⟩, hn, hh⟩ := Option.map_eq_some_iff.1 h
          simp at hh
          obtain ⟨rfl, rfl⟩ := hh
          obtain ⟨μ', hext, hloc, hr', hbel⟩ := fine_new hr (kn := .row) rfl hn VRs.nil [] 0 (by simp) true (by simp)
          obtain rfl : xs = [] := by
            cases xs with
            | nil => rfl
            | cons a b => simp at hpe
          cases hp
          refine ⟨.slice (some ⟨w.heap.size, 0, none⟩) 0 0, _, μ', ?_, hext, ?_, hr', hbel⟩
          · simp [Instr.buildSlice, run_underlying (run_elemA he), run_sizeA w hs, Instr.fill, newRow]
            simp [Array.range]
          · split
            · exact .se _ _
            · exact .sn _
        · cases h
      · split at h
        · rename_i hc
          obtain ⟨c1, c2, c3, c4, c5⟩ := hc
          split at h
          · rename_i cs hcs
            obtain ⟨⟨i, H1⟩, hn, hh⟩ := Option.map_eq_some_iff.1 h
            simp at hh
            obtain ⟨rfl, rfl⟩ := hh
            obtain ⟨zv, hzr, hzv, _⟩ := run_zeroA hz
            have hzc := (ofV_VR (ρ := ρ) (μ := μ) hzv).cells hρ c3
            have hzs := zeros_VRs hzc sz c2 c1 len
            obtain ⟨vs', hf, hv', _⟩ := fill_fine (place' := fun i => some (i * sz, sz)) hρ (fun i s hs => hs) hp _ _ cs hcs hzs (zeros_one c3 len)
            have hlen : vs'.length = len * sz := by
              have hfl : ∀ (parts : List (Nat × AV)) (cs out : List AV), fillA (fun i => some (i * sz, sz)) cs parts = some out → out.length = cs.length := by
                intro parts
                induction parts with
                | nil => intro cs out h; simp [fillA] at h; rw [h]
                | cons p r ih =>
                  intro cs out h
                  obtain ⟨i, v⟩ := p
                  simp only [fillA] at h
                  split at h
                  · rename_i hc; rw [ih _ _ h, over_length (by omega)]
                  · cases h
              rw [← hv'.1, hfl _ _ _ hcs, hzs.1]; simp
            obtain ⟨μ', hext, hloc, hr', hbel⟩ := fine_new hr (kn := .row) rfl hn hv' [] len (by rw [cellsOf_sizeA hs]; simp [hlen]) true (by simp)
            refine ⟨.slice (some ⟨w.heap.size, 0, none⟩) len len, _, μ', ?_, hext, .sl hloc (Nat.le_refl _) (by unfold maxLen; have : len ≤ len * sz := Nat.le_mul_of_pos_right _ c1; omega) (fun _ _ => Nat.le_refl _), hr', hbel⟩
            have n1 : ¬ (len * sz > 2 ^ 24) := by omega
            have n2 : ¬ (len * sz = 0) := by
              intro e0
              rcases Nat.mul_eq_zero.1 e0 with k | k <;> omega
            simp only [Instr.buildSlice, Sem.run_bind, run_underlying (run_elemA he), Result.andThen_ok, run_sizeA w hs, n1, n2, if_false, hzr, Sem.run_pure, Sem.run_ite]
            have hfe : Instr.fill (fun i => some (i * sz, sz)) ((Array.range (len * sz)).map (zv.cells[· % zv.cells.size]!)) vs.toArray.toList = some vs'.toArray := by
              have := hf
              simp only [Array.toArray_toList] at this
              exact this
            simp [hfe, newRow]
          · cases h
        · cases h
    · cases h
  · cases h
theorem makeSlice_fine (hρ : ∀ j, (ρ j).oneCell' = true) (hr : HR P ρ base μ H w) {t : TypeId} {x y v : AV} {x' y' : Value} {H' : Heap} (h : makeSliceA P H t x y = some (v, H')) (hx : VR ρ μ x x') (hy : VR ρ μ y y') :
    Fine P ρ base μ w v H' ((Instr.makeSlice t x' y').run P w) := by
  unfold makeSliceA at h
  split at h
  · rename_i l c
    cases hx; cases hy
    split at h
    · rename_i e he
      split at h
      · rename_i sz by_ z hs hb hz
        split at h
        · rename_i hc
          obtain ⟨c1, c2, c3, rfl, c5, c6, c7⟩ := hc
          obtain ⟨⟨i, H1⟩, hn, hh⟩ := Option.map_eq_some_iff.1 h
          simp at hh
          obtain ⟨rfl, rfl⟩ := hh
          obtain ⟨zv, hzr, hzv, hzi⟩ := run_zeroA hz
          have hzc := (ofV_VR (ρ := ρ) (μ := μ) hzv).cells hρ c3
          have hzs := zeros_VRs hzc sz c2 c1 l.toNat
          cases hi : P.info? e with
          | none => simp [sizeA, hi] at hs
          | some ie =>
            have hsz : ie.size = sz := by simpa [sizeA, hi] using hs
            have hby : ie.bytes = by_ := by simpa [bytesA, hi] using hb
            have hzz : ie.zero = some zv := by simpa [hi] using hzi
            have hrun := run_make (P := P) w t e ie zv (run_elemA he) hi hzz .i64 .i64 l l (by omega) (Int.le_refl _) (by
              rw [hby]
              have h1 : (by_ : Int) * l ≤ 65536 * 1048576 := Int.mul_le_mul (by omega) c6 (by omega) (by omega)
              omega) (by omega)
            rw [hsz] at hrun
            have hlen : ((Array.range (l.toNat * sz)).map (zv.cells.toList.toArray[· % zv.cells.toList.toArray.size]!)).toList.length = l.toNat * sz := by simp
            obtain ⟨μ', hext, hloc, hr', hbel⟩ := fine_new hr (kn := .row) rfl hn hzs [] l.toNat (by rw [cellsOf_sizeA hs]; simp) true (by simp)
            refine ⟨_, _, μ', hrun, hext, .sl hloc (Nat.le_refl _) (by unfold maxLen; omega) (fun _ _ => Nat.le_refl _), ?_, ?_⟩
            · have e0 : madeCells zv.cells (l.toNat * sz) = (((Array.range (l.toNat * sz)).map (zv.cells.toList.toArray[· % zv.cells.toList.toArray.size]!)).toList ++ []).toArray := by simp only [madeCells, Array.toArray_toList, List.append_nil]
              rw [e0]; exact hr'
            · have e0 : madeCells zv.cells (l.toNat * sz) = (((Array.range (l.toNat * sz)).map (zv.cells.toList.toArray[· % zv.cells.toList.toArray.size]!)).toList ++ []).toArray := by simp only [madeCells, Array.toArray_toList, List.append_nil]
              rw [e0]; exact hbel
        · cases h
      · cases h
    · cases h
  · cases h
theorem fieldAddr_fine (hr : HR P ρ base μ H w) {t : TypeId} {k : Nat} {x v : AV} {x' : Value} (h : fieldAddrA P t x k = some v) (hx : VR ρ μ x x') : Fine P ρ base μ w v H ((Instr.fieldAt t x' k).run P w) := by
  unfold fieldAddrA at h
  split at h
  · rename_i i o fields hu
    cases hx with
    | p hl =>
      rename_i l
      split at h
      · rename_i f hf
        split at h
        · rename_i s hs
          simp at h; subst h
          have : (Instr.fieldAt t (.pointer (some ⟨l.b, o, none⟩)) k).run P w = .ok (.pointer (some ⟨l.b, o + f.offset, none⟩)) w := by
            simp [Instr.fieldAt, run_underlying hu, hf, Instr.sureAddr, fieldPlace, run_sizeA w hs, add_at]
          rw [this]
          exact fine_pure hr (.p hl)
        · cases h
      · cases h
  · cases h
theorem field_fine (hr : HR P ρ base μ H w) {t : TypeId} {k : Nat} {x v : AV} {x' : Value} (h : fieldA P t x k = some v) (hx : VR ρ μ x x') : Fine P ρ base μ w v H ((Instr.field t x' k).run P w) := by
  unfold fieldA at h
  split at h
  · rename_i cs fields hu
    cases hx with
    | g hl hh =>
      rename_i vs
      split at h
      · rename_i f hf
        split at h
        · rename_i sz ha hs
          split at h
          · rename_i hle
            simp at h; subst h
            have hv : VRs ρ μ cs vs := ⟨hl, hh⟩
            have hv2 := (hv.drop f.offset).take sz
            have : (Instr.field t (.agg vs.toArray) k).run P w = .ok (.agg ((vs.drop f.offset).take sz).toArray) w := by
              have e1 : vs.toArray.extract f.offset (f.offset + sz) = ((vs.drop f.offset).take sz).toArray := by
                apply Array.ext'
                simp [List.extract_eq_take_drop]
              simp only [Instr.field, run_underlying hu, hf, asAgg, part, run_aggA w ha, run_sizeA w hs, Sem.run_bind, Sem.run_pure, Result.andThen_ok, e1, if_true]
            rw [this]
            exact fine_pure hr (.g hv2.1 hv2.2)
          · cases h
        · rename_i _ ha
          obtain ⟨u, hu', huv⟩ := (show VRs ρ μ cs vs from ⟨hl, hh⟩).at h
          have : (Instr.field t (.agg vs.toArray) k).run P w = .ok u w := by
            simp [Instr.field, run_underlying hu, hf, asAgg, part, run_aggA w ha, hu']
          rw [this]
          exact fine_pure hr huv
        · cases h
      · cases h
  · cases h
theorem indexAddr_fine (hr : HR P ρ base μ H w) {t : TypeId} {x y v : AV} {x' y' : Value} (h : indexAddrA P t x y = some v) (hx : VR ρ μ x x') (hy : VR ρ μ y y') : Fine P ρ base μ w v H ((Instr.indexAt t x' y').run P w) := by
  unfold indexAddrA at h
  split at h
  · rename_i i o n kd k e he
    cases hy
    cases hx with
    | sl hl h1 h2 h3 =>
      rename_i l c
      split at h
      · rename_i sz hs
        split at h
        · rename_i hk
          simp at h; subst h
          have : (Instr.indexAt t (.slice (some ⟨l.b, o, none⟩) n c) (.int kd k)).run P w = .ok (.pointer (some ⟨l.b, o + k.toNat * sz, none⟩)) w := by
            simp [Instr.indexAt, asIntOf, run_underlying (run_elemA he), hk, run_sizeA w hs, add_at]
          rw [this]
          exact fine_pure hr (.p hl)
        · cases h
      · cases h
  · cases h
theorem index_fine (hr : HR P ρ base μ H w) {t : TypeId} {x y v : AV} {x' y' : Value} (h : indexA P t x y = some v) (hx : VR ρ μ x x') (hy : VR ρ μ y y') : Fine P ρ base μ w v H ((Instr.index t x' y').run P w) := by
  unfold indexA at h
  split at h
  · rename_i bs kd k hu
    cases hx; cases hy
    split at h
    · rename_i h0
      obtain ⟨c, hc, rfl⟩ := Option.map_eq_some_iff.1 h
      have : (Instr.index t (.string bs) (.int kd k)).run P w = .ok (.int .u8 c.toNat) w := by
        simp [Instr.index, asIntOf, run_underlying hu, h0, hc]
      rw [this]
      exact fine_pure hr (.i _ _)
    · cases h
  · cases h
theorem sliceArr_fine (hr : HR P ρ base μ H w) {t : TypeId} {x v : AV} {x' : Value} (h : sliceArrA P H t x = some v) (hx : VR ρ μ x x') : Fine P ρ base μ w v H ((Instr.sliceAt t x' none none none).run P w) := by
  unfold sliceArrA at h
  split at h
  · rename_i n e i o hu
    cases hx with
    | p hl =>
      rename_i l
      split at h
      · rename_i ty cs sz hb hs
        split at h
        · rename_i hn
          simp at h; subst h
          have hL := hr.live i ty .vr cs l hb hl
          obtain ⟨_, _, _, _, _, hrow, _⟩ := hL
          have : (Instr.sliceAt t (.pointer (some ⟨l.b, o, none⟩)) none none none).run P w = .ok (.slice (some ⟨l.b, o, none⟩) n n) w := by
            simp [Instr.sliceAt, run_underlying hu, Instr.sureAddr, Instr.sliceBounds, run_sizeA w hs, add_at]
          rw [this]
          refine fine_pure hr (.sl hl (Nat.le_refl _) (by unfold maxLen; omega) (fun _ hr' => ?_))
          rw [hrow] at hr'; cases hr'
        · cases h
      · cases h
  · cases h
theorem slice_fine (hr : HR P ρ base μ H w) {t : TypeId} {x v : AV} {x' : Value} {lo hi : Option AV} {lo' hi' : Option Value} (h : sliceA P t x lo hi = some v) (hx : VR ρ μ x x')
    (hlo : ∀ l, lo = some l → ∃ l', lo' = some l' ∧ VR ρ μ l l') (hlo0 : lo = none → lo' = none) (hhi : ∀ l, hi = some l → ∃ l', hi' = some l' ∧ VR ρ μ l l') (hhi0 : hi = none → hi' = none) :
    Fine P ρ base μ w v H ((Instr.sliceAt t x' lo' hi' none).run P w) := by
  unfold sliceA at h
  split at h
  · rename_i e he
    split at h
    · rename_i sz hs
      have hu := run_elemA he
      split at h
      · rename_i kd l
        obtain ⟨l', rfl, hl'⟩ := hlo _ rfl
        obtain rfl := hhi0 rfl
        cases hl'
        split at h
        · rename_i i o n
          cases hx with
          | sl hl h1 h2 h3 =>
            rename_i lc c
            split at h
            · rename_i hb
              have hrun : (Instr.sliceAt t (.slice (some ⟨lc.b, o, none⟩) n c) (some (.int kd l)) none none).run P w =
                  .ok (.slice (if c = l.toNat then some ⟨lc.b, o, none⟩ else some ⟨lc.b, o + l.toNat * sz, none⟩) (n - l.toNat) (c - l.toNat)) w := by
                simp [Instr.sliceAt, Instr.slice, Instr.sliceBounds, Instr.sliceBound, asIntOf, run_underlying hu, hb, run_sizeA w hs, add_at]
              rw [hrun]
              split at h
              · rename_i e0; simp at h; subst h; subst e0
                simp only [Int.toNat_zero, Nat.zero_mul, Nat.add_zero, Nat.sub_zero, ite_self]
                exact fine_pure hr (.sl hl h1 h2 h3)
              · split at h
                · rename_i en; simp at h; subst h
                  have : n - l.toNat = 0 := by omega
                  rw [this]
                  split <;> exact fine_pure hr (.se _ _)
                · rename_i hne0 hnen; simp at h; subst h
                  have hne : ¬ c = l.toNat := by omega
                  simp only [hne, if_false]
                  refine fine_pure hr (.sl hl (by omega) (by unfold maxLen at *; omega) (fun e0 _ => ?_))
                  exfalso
                  have hsz : o = 0 ∧ l.toNat * sz = 0 := by omega
                  rcases Nat.mul_eq_zero.1 hsz.2 with k | k
                  · omega
                  · omega
            · cases h
        · cases hx
          split at h
          · rename_i e0; simp at h; subst h; subst e0
            have : (Instr.sliceAt t (.slice none 0 0) (some (.int kd 0)) none none).run P w = .ok (.slice none 0 0) w := by
              simp [Instr.sliceAt, Instr.slice, Instr.sliceBounds, Instr.sliceBound, asIntOf, run_underlying hu, run_sizeA w hs]
            rw [this]
            exact fine_pure hr .s0
          · cases h
        · cases hx
          split at h
          · rename_i aa cc e0; simp at h; subst h; subst e0
            have : (Instr.sliceAt t (.slice (some aa) 0 cc) (some (.int kd 0)) none none).run P w = .ok (.slice (some (if cc = 0 then aa else aa.add (0 * sz))) 0 cc) w := by
              simp [Instr.sliceAt, Instr.slice, Instr.sliceBounds, Instr.sliceBound, asIntOf, run_underlying hu, run_sizeA w hs]
              split <;> simp_all
            rw [this]
            exact fine_pure hr (.se _ _)
          · cases h
        · cases h
      · rename_i kd l
        obtain ⟨l', rfl, hl'⟩ := hhi _ rfl
        obtain rfl := hlo0 rfl
        cases hl'
        split at h
        · rename_i i o n
          cases hx with
          | sl hl h1 h2 h3 =>
            rename_i lc c
            split at h
            · rename_i hb
              simp at h; subst h
              have hb2 : 0 ≤ l ∧ l ≤ c := by omega
              have hrun : (Instr.sliceAt t (.slice (some ⟨lc.b, o, none⟩) n c) none (some (.int kd l)) none).run P w = .ok (.slice (some ⟨lc.b, o, none⟩) l.toNat c) w := by
                simp [Instr.sliceAt, Instr.slice, Instr.sliceBounds, Instr.sliceBound, asIntOf, run_underlying hu, hb2, run_sizeA w hs, add_at]
              rw [hrun]
              exact fine_pure hr (.sl hl (by omega) h2 h3)
            · cases h
        · cases hx
          split at h
          · rename_i e0; simp at h; subst h; subst e0
            have : (Instr.sliceAt t (.slice none 0 0) none (some (.int kd 0)) none).run P w = .ok (.slice none 0 0) w := by
              simp [Instr.sliceAt, Instr.slice, Instr.sliceBounds, Instr.sliceBound, asIntOf, run_underlying hu, run_sizeA w hs]
            rw [this]
            exact fine_pure hr .s0
          · cases h
        · cases hx
          split at h
          · rename_i aa cc e0; simp at h; subst h; subst e0
            have : (Instr.sliceAt t (.slice (some aa) 0 cc) none (some (.int kd 0)) none).run P w = .ok (.slice (some (if cc = 0 then aa else aa.add (0 * sz))) 0 cc) w := by
              simp [Instr.sliceAt, Instr.slice, Instr.sliceBounds, Instr.sliceBound, asIntOf, run_underlying hu, run_sizeA w hs]
              split <;> simp_all
            rw [this]
            exact fine_pure hr (.se _ _)
          · cases h
        · cases hx
          split at h
          · rename_i aa e0; simp at h; subst h; subst e0
            have : (Instr.sliceAt t (.slice (some aa) 0 0) none (some (.int kd 0)) none).run P w = .ok (.slice (some aa) 0 0) w := by
              simp [Instr.sliceAt, Instr.slice, Instr.sliceBounds, Instr.sliceBound, asIntOf, run_underlying hu, run_sizeA w hs]
            rw [this]
            exact fine_pure hr (.sn _)
          · cases h
        · cases h
      · rename_i kd l kd2 m
        obtain ⟨l', rfl, hl'⟩ := hlo _ rfl
        obtain ⟨m', rfl, hm'⟩ := hhi _ rfl
        cases hl'
        cases hm'
        split at h
        · rename_i i o n
          cases hx with
          | sl hl h1 h2 h3 =>
            rename_i lc c
            split at h
            · rename_i hb
              have hb1 : 0 ≤ m ∧ m ≤ c := by omega
              have hb2 : 0 ≤ l ∧ l ≤ (m.toNat : Int) := by omega
              have hrun : (Instr.sliceAt t (.slice (some ⟨lc.b, o, none⟩) n c) (some (.int kd l)) (some (.int kd2 m)) none).run P w =
                  .ok (.slice (if c = l.toNat then some ⟨lc.b, o, none⟩ else some ⟨lc.b, o + l.toNat * sz, none⟩) (m.toNat - l.toNat) (c - l.toNat)) w := by
                have hb3 : ¬ (max m 0 < l) := by rw [Int.max_eq_left (by omega)]; omega
                have hb4 : 0 ≤ l := hb2.1
                simp [Instr.sliceAt, Instr.slice, Instr.sliceBounds, Instr.sliceBound, asIntOf, run_underlying hu, hb1, hb4, run_sizeA w hs, add_at]
                intro hx; exact absurd hx hb3
              rw [hrun]
              split at h
              · rename_i en; simp at h; subst h
                have : m.toNat - l.toNat = 0 := by omega
                rw [this]
                split <;> exact fine_pure hr (.se _ _)
              · rename_i hnen; simp at h; subst h
                have hne : ¬ c = l.toNat := by omega
                simp only [hne, if_false]
                refine fine_pure hr (.sl hl (by omega) (by unfold maxLen at *; omega) (fun e0 hrow => ?_))
                have := h3 (by omega) hrow
                omega
            · cases h
        · cases hx
          split at h
          · rename_i e0; simp at h; subst h; obtain ⟨rfl, rfl⟩ := e0
            have : (Instr.sliceAt t (.slice none 0 0) (some (.int kd 0)) (some (.int kd2 0)) none).run P w = .ok (.slice none 0 0) w := by
              simp [Instr.sliceAt, Instr.slice, Instr.sliceBounds, Instr.sliceBound, asIntOf, run_underlying hu, run_sizeA w hs]
            rw [this]
            exact fine_pure hr .s0
          · cases h
        · cases hx
          split at h
          · rename_i aa cc e0; simp at h; subst h; obtain ⟨rfl, rfl⟩ := e0
            have : (Instr.sliceAt t (.slice (some aa) 0 cc) (some (.int kd 0)) (some (.int kd2 0)) none).run P w = .ok (.slice (some (if cc = 0 then aa else aa.add (0 * sz))) 0 cc) w := by
              simp [Instr.sliceAt, Instr.slice, Instr.sliceBounds, Instr.sliceBound, asIntOf, run_underlying hu, run_sizeA w hs]
              split <;> simp_all
            rw [this]
            exact fine_pure hr (.se _ _)
          · cases h
        · cases h
      · cases h
    · cases h
  · unfold sliceStrA at h
    split at h
    · rename_i bs hu
      cases hx
      split at h
      · rename_i kd l
        obtain ⟨l', rfl, hl'⟩ := hlo _ rfl
        obtain rfl := hhi0 rfl
        cases hl'
        split at h
        · rename_i hb
          simp at h; subst h
          have : (Instr.sliceAt t (.string bs) (some (.int kd l)) none none).run P w = .ok (.string (bs.extract l.toNat bs.size)) w := by
            simp [Instr.sliceAt, Instr.slice, Instr.sliceBounds, Instr.sliceBound, asIntOf, run_underlying hu, hb]
          rw [this]
          exact fine_pure hr (.s _)
        · cases h
      · rename_i kd m
        obtain ⟨m', rfl, hm'⟩ := hhi _ rfl
        obtain rfl := hlo0 rfl
        cases hm'
        split at h
        · rename_i hb
          simp at h; subst h
          have : (Instr.sliceAt t (.string bs) none (some (.int kd m)) none).run P w = .ok (.string (bs.extract 0 m.toNat)) w := by
            simp [Instr.sliceAt, Instr.slice, Instr.sliceBounds, Instr.sliceBound, asIntOf, run_underlying hu, hb]
          rw [this]
          exact fine_pure hr (.s _)
        · cases h
      · rename_i kd l kd2 m
        obtain ⟨l', rfl, hl'⟩ := hlo _ rfl
        obtain ⟨m', rfl, hm'⟩ := hhi _ rfl
        cases hl'
        cases hm'
        split at h
        · rename_i hb
          simp at h; subst h
          have hb1 : 0 ≤ m ∧ m ≤ bs.size := by omega
          have hb2 : 0 ≤ l ∧ l ≤ (m.toNat : Int) := by omega
          have : (Instr.sliceAt t (.string bs) (some (.int kd l)) (some (.int kd2 m)) none).run P w = .ok (.string (bs.extract l.toNat m.toNat)) w := by
            have hb3 : ¬ (max m 0 < l) := by rw [Int.max_eq_left (by omega)]; omega
            have hb4 : 0 ≤ l := hb2.1
            simp [Instr.sliceAt, Instr.slice, Instr.sliceBounds, Instr.sliceBound, asIntOf, run_underlying hu, hb1, hb4]
            intro hx; exact absurd hx hb3
          rw [this]
          exact fine_pure hr (.s _)
        · cases h
      · cases h
    · cases h
theorem iface_fine (hr : HR P ρ base μ H w) {t : TypeId} {x v : AV} {x' : Value} (h : ifaceA P t x = some v) (hx : VR ρ μ x x') : Fine P ρ base μ w v H ((Instr.makeInterface t x').run P w) := by
  unfold ifaceA at h
  split at h
  · rename_i e i o hu
    simp at h; subst h
    cases hx with
    | p hl =>
      rename_i lc
      have : (Instr.makeInterface t (.pointer (some ⟨lc.b, o, none⟩))).run P w = .ok (.iface t (.pointer (some ⟨lc.b, o, none⟩))) w := by
        simp [Instr.makeInterface, run_underlying hu]
      rw [this]
      cases isIp t
      · exact fine_pure hr (.e _ _)
      · exact fine_pure hr (.ip hl)
  · cases h
theorem sliceMax_fine (hr : HR P ρ base μ H w) {t : TypeId} {x h m v : AV} {x' h' m' : Value} (hh : sliceMaxA P t x h m = some v) (hx : VR ρ μ x x') (h1 : VR ρ μ h h') (h2 : VR ρ μ m m') :
    Fine P ρ base μ w v H ((Instr.sliceAt t x' none (some h') (some m')).run P w) := by
  unfold sliceMaxA at hh
  split at hh
  · rename_i e he
    split at hh
    · rename_i sz hs
      have hu := run_elemA he
      split at hh
      · rename_i kd l kd2 l2
        cases h1; cases h2
        split at hh
        · rename_i elm
          subst elm
          split at hh
          · rename_i i o n
            cases hx with
            | sl hl k1 k2 k3 =>
              rename_i lc c
              split at hh
              · rename_i hb
                have hb2 : 0 ≤ l ∧ l ≤ c := by omega
                have hrun : (Instr.sliceAt t (.slice (some ⟨lc.b, o, none⟩) n c) none (some (.int kd l)) (some (.int kd2 l))).run P w = .ok (.slice (some ⟨lc.b, o, none⟩) l.toNat l.toNat) w := by
                  simp [Instr.sliceAt, Instr.slice, Instr.sliceBounds, Instr.sliceBound, asIntOf, run_underlying hu, hb2, run_sizeA w hs, add_at]
                  intro hmx; omega
                rw [hrun]
                split at hh
                · rename_i e0; simp at hh; subst hh; subst e0
                  exact fine_pure hr (.se _ _)
                · simp at hh; subst hh
                  exact fine_pure hr (.sl hl (Nat.le_refl _) (by omega) (fun e1 e2 => by have := k3 e1 e2; omega))
              · cases hh
          · cases hx
            split at hh
            · rename_i e0; simp at hh; subst hh; subst e0
              have : (Instr.sliceAt t (.slice none 0 0) none (some (.int kd 0)) (some (.int kd2 0))).run P w = .ok (.slice none 0 0) w := by
                simp [Instr.sliceAt, Instr.slice, Instr.sliceBounds, Instr.sliceBound, asIntOf, run_underlying hu, run_sizeA w hs]
              rw [this]
              exact fine_pure hr .s0
            · cases hh
          · cases hx
            split at hh
            · rename_i aa cc e0; simp at hh; subst hh; subst e0
              have : (Instr.sliceAt t (.slice (some aa) 0 cc) none (some (.int kd 0)) (some (.int kd2 0))).run P w = .ok (.slice (some aa) 0 0) w := by
                simp [Instr.sliceAt, Instr.slice, Instr.sliceBounds, Instr.sliceBound, asIntOf, run_underlying hu, run_sizeA w hs]
              rw [this]
              exact fine_pure hr (.se _ _)
            · cases hh
          · cases hh
        · cases hh
      · cases hh
    · cases hh
  · cases hh
end
end Go.Proofs.YtiifcfngbbhgoagDoor.Ax

namespace Go.Proofs.YtiifcfngbbhgoagDoor.Ax
open Go Go.RowKit
section
variable {P : Program} {ρ : Nat → Value} {base : Nat} {μ : List Loc} {H : Heap} {w : World} {fr : List AV} {a : Act}
def Source (P : Program) (sz : Nat) (w : World) (x : Value) (m : Nat) (cs : List Value) : Prop :=
  (∀ w' : World, (Builtin.lenOf x).run P w' = .ok m w') ∧ (Builtin.firstCells sz m x).run P w = .ok cs.toArray w ∧ (Builtin.firstCells sz m x).run P w.drew = .ok cs.toArray w.drew ∧ cs.length = m * sz ∧
    ∀ k, k ≤ m → (Builtin.firstCells sz k x).run P w = .ok (cs.take (k * sz)).toArray w
theorem first_fine (hr : HR P ρ base μ H w) {sz m : Nat} {x : AV} {x' : Value} {cs : List AV} (hsz : 0 < sz) (h : firstA H sz x = some (m, cs)) (hs1 : (∃ bs, x = .s bs) → sz = 1) (hx : VR ρ μ x x') :
    ∃ vs, Source P sz w x' m vs ∧ VRs ρ μ cs vs ∧ cs.all AV.one = true := by
  unfold firstA at h
  split at h
  · rename_i bs
    have h1 := hs1 ⟨bs, rfl⟩
    subst h1
    simp at h
    obtain ⟨rfl, rfl⟩ := h
    cases hx
    refine ⟨Lib.strCells bs, ⟨fun w' => rfl, Lib.run_firstCells_string w 1 bs, Lib.run_firstCells_string w.drew 1 bs, by simp [Lib.strCells_length], fun k hk => ?_⟩, ?_, ?_⟩
    · simp only [Builtin.firstCells, Sem.run_pure, Nat.mul_one]
      congr 1
      apply Array.ext'
      simp [Lib.strCells, ByteArray.data_extract, List.extract_eq_take_drop]
    · have e : bs.data.toList = bs.toList := (ByteArray.toList_eq bs).symm
      unfold Lib.strCells
      rw [e]
      refine ⟨by simp, fun j p q hp hq => ?_⟩
      simp only [List.getElem?_map] at hp hq
      cases hb : bs.toList[j]? with
      | none => simp [hb] at hp
      | some c => simp [hb] at hp hq; subst hp; subst hq; exact .i _ _
    · rw [List.all_eq_true]
      intro y hy
      obtain ⟨c, _, rfl⟩ := List.mem_map.1 hy
      rfl
  · simp at h
    obtain ⟨rfl, rfl⟩ := h
    cases hx
    exact ⟨[], ⟨fun w' => rfl, rfl, rfl, by simp, fun k hk => by simp [Builtin.firstCells]⟩, .nil, rfl⟩
  · simp at h
    obtain ⟨rfl, rfl⟩ := h
    cases hx
    refine ⟨[], ⟨fun w' => rfl, ?_, ?_, by simp, fun k hk => ?_⟩, .nil, rfl⟩
    · simp [Builtin.firstCells, loadCells, loadCellsFrom]
    · simp [Builtin.firstCells, loadCells, loadCellsFrom]
    · obtain rfl : k = 0 := by omega
      simp [Builtin.firstCells, loadCells, loadCellsFrom]
  · rename_i i o n
    cases hx with
    | sl hl h1 h2 h3 =>
      rename_i l c
      split at h
      · rename_i ty kn cs' hb
        split at h
        · rename_i hle0
          obtain ⟨hle, hone⟩ := hle0
          simp only [Option.some.injEq, Prod.mk.injEq] at h
          obtain ⟨rfl, rfl⟩ := h
          obtain ⟨vs, hvl, hvs, _, hc⟩ := (hr.live i ty kn cs' l hb hl).part hle
          exact ⟨vs, ⟨fun w' => rfl, run_firstCells_some w sz n _ n c vs hvl hc, run_firstCells_some w.drew sz n _ n c vs hvl (by simpa using hc), hvl, fun k hk => run_firstCells_some w sz k _ n c (vs.take (k * sz)) (by rw [List.length_take, hvl]; exact Nat.min_eq_left (Nat.mul_le_mul_right _ hk)) (fun j u hu => hc j u (by rw [List.getElem?_take] at hu; split at hu <;> first | exact hu | cases hu))⟩, hvs, hone⟩
        · cases h
      · cases h
  · cases h
theorem arr_app (l : List Value) (x : Array Value) : l.toArray ++ x = (l ++ x.toList).toArray := by apply Array.ext'; simp
theorem run_append_any {t1 t2 ty e : TypeId} {ie : TypeInfo} {z : Value} (ht : P.underlying t1 = some (.slice e)) (h2 : P.underlying t2 = some .string ∨ ∃ e', P.underlying t2 = some (.slice e')) (hi : P.info? e = some ie) (hz : ie.zero = some z)
    {b : Option Addr} {n c m : Nat} {x : Value} {news : List Value} (hsrc : Source P ie.size w x m news)
    (hroom : n + m ≤ c → ∀ g, b = some g → ∃ w', (storeCells (g.add (n * ie.size)) news).run P w = .ok () w')
    {olds : List Value} (hold : (Builtin.firstCells ie.size n (.slice b n c)).run P w.drew = .ok olds.toArray w.drew)
    (h63 : ((n + m : Nat) : Int) ≤ 9223372036854775807) (hfit : c < n + m → Builtin.nextslicecap (n + m) c * ie.bytes ≤ 281474976710656) :
    (Builtin.append_ #[t1, t2] ty #[.slice b n c, x]).run P w =
      if n + m ≤ c then (match b with
        | some g => ((storeCells (g.add (n * ie.size)) news).run P w).andThen fun _ w' => .ok (.slice b (n + m) c) w'
        | none => .ok (.slice b (n + m) c) w)
      else .ok (.slice (some ⟨w.heap.size, 0, none⟩) (n + m) (grownCap w (n + m) c e))
        (w.drew.alloc (.cells (olds.toArray ++ news.toArray ++ Builtin.zeroCells z.cells (grownCap w (n + m) c e - (n + m))) e)) := by
  obtain ⟨s1, s2, s3, s4, _⟩ := hsrc
  have h63' : ¬ (9223372036854775807 < ((n : Int) + (m : Int))) := by omega
  by_cases hle : n + m ≤ c
  · rw [if_pos hle]
    cases b with
    | none => rcases h2 with hd2 | ⟨e', hd2⟩ <;> simp [Builtin.append_, run_underlying ht, run_underlying hd2, sizeOf, typeInfo, hi, s1, hle, s2]
    | some g =>
      obtain ⟨w', hw'⟩ := hroom hle g rfl
      rcases h2 with hd2 | ⟨e', hd2⟩ <;> simp [Builtin.append_, run_underlying ht, run_underlying hd2, sizeOf, typeInfo, hi, s1, hle, s2, hw']
  · rw [if_neg hle]
    have h48 : ¬ (281474976710656 < Builtin.nextslicecap (n + m) c * ie.bytes) := by have := hfit (by omega); omega
    rcases h2 with hd2 | ⟨e', hd2⟩ <;> (simp [Builtin.append_, run_underlying ht, run_underlying hd2, sizeOf, typeInfo, zeroValue, hi, hz, s1, hle, h63', h48, Question.forced, hold, s3, newRow, grownCap]; congr 2; rw [← List.append_toArray, Array.append_assoc])
theorem append_fine (hρ : ∀ j, (ρ j).oneCell' = true) (hr : HR P ρ base μ H w) {t1 t2 ty : TypeId} {str : Bool} {s x v : AV} {s' x' : Value} {H' : Heap} (h : appendA P H t1 str s x = some (v, H'))
    (h2 : P.underlying t2 = some .string ∨ ∃ e', P.underlying t2 = some (.slice e')) (hstr : (∃ bs, x = .s bs) → str = true) (hs : VR ρ μ s s') (hx : VR ρ μ x x') :
    Fine P ρ base μ w v H' ((Builtin.append_ #[t1, t2] ty #[s', x']).run P w) := by
  unfold appendA at h
  split at h
  · rename_i e he
    split at h
    · rename_i sz by_ z hsz hby hz
      split at h
      · rename_i hc
        obtain ⟨c1, c2, c2b, c3⟩ := hc
        split at h
        · rename_i m new hnew
          obtain ⟨vs, hsrc, hvs, hone⟩ := first_fine hr c1 hnew (fun hb => (c3 (hstr hb)).1) hx
          obtain ⟨zv, hzr, hzv, hzi⟩ := run_zeroA hz
          have hzl : zv.cells.size = sz := by
            have := ((ofV_VR (ρ := ρ) (μ := μ) hzv).cells hρ c2b).1
            simp at this; omega
          cases hi : P.info? e with
          | none => simp [sizeA, hi] at hsz
          | some ie =>
            have hsz' : ie.size = sz := by simpa [sizeA, hi] using hsz
            have hby' : ie.bytes = by_ := by simpa [bytesA, hi] using hby
            have hzz : ie.zero = some zv := by simpa [hi] using hzi
            have hcell : P.cellsOf e = sz := cellsOf_sizeA hsz
            subst hsz'
            subst hby'
            have hvl : vs.length = m * ie.size := hsrc.2.2.2.1
            split at h
            · -- onto nil
              cases hs
              by_cases hm : m = 0
              · rw [if_pos hm] at h
                simp at h
                obtain ⟨rfl, rfl⟩ := h
                subst hm
                have hrun := run_append_any (w := w) (ty := ty) (run_elemA he) h2 hi hzz (b := none) (n := 0) (c := 0) hsrc (fun _ g hg => by cases hg) (olds := []) (by simp [Builtin.firstCells]) (by simp) (fun hh => by omega)
                rw [hrun]
                simp only [Nat.add_zero, Nat.le_refl, if_true]
                exact fine_pure hr .s0
              · rw [if_neg hm] at h
                split at h
                · rename_i hb
                  obtain ⟨⟨j, H1⟩, hn, hh⟩ := Option.map_eq_some_iff.1 h
                  simp at hh
                  obtain ⟨rfl, rfl⟩ := hh
                  have hrun := run_append_any (w := w) (ty := ty) (run_elemA he) h2 hi hzz (b := none) (n := 0) (c := 0) hsrc (fun _ g hg => by cases hg) (olds := []) (by simp [Builtin.firstCells]) (by simp; omega) (fun hh => growslice_fits (by omega) (by simpa using hb.1))
                  rw [hrun, if_neg (by omega)]
                  simp only [Nat.zero_add]
                  have hge := grownCap_ge w m 0 e
                  obtain ⟨μ', hext, hloc, hr', hbel⟩ := fine_new hr.drew (kn := .row) rfl hn hvs (Builtin.zeroCells zv.cells (grownCap w m 0 e - m)).toList (grownCap w m 0 e) (by
                    rw [hcell, hvl, Array.length_toList, size_zeroCells, hzl, ← Nat.add_mul]
                    exact Nat.mul_le_mul_right _ (by omega)) true (by simp)
                  refine ⟨_, _, μ', rfl, hext, .sl hloc hge (grownCap_le_maxLen w m 0 e (by unfold maxLen; omega)) (fun _ _ => Nat.le_refl _), ?_, ?_⟩
                  · rw [show (([] : List Value).toArray ++ vs.toArray) = vs.toArray by simp, arr_app]; exact hr'
                  · rw [show (([] : List Value).toArray ++ vs.toArray) = vs.toArray by simp, arr_app]
                    exact (Below.refl base w).drew.trans hbel
                · cases h
            · -- onto one without room
              cases hs with
              | sn oa =>
              by_cases hm : m = 0
              · rw [if_pos hm] at h
                simp at h
                obtain ⟨rfl, rfl⟩ := h
                subst hm
                have hrun := run_append_any (w := w) (ty := ty) (run_elemA he) h2 hi hzz (b := some oa) (n := 0) (c := 0) hsrc (fun _ g hg => by cases hg; exact ⟨_, by rw [show vs = [] from List.eq_nil_of_length_eq_zero (by omega)]; rfl⟩) (olds := []) (by simp [Builtin.firstCells, loadCells, loadCellsFrom]) (by simp) (fun hh => by omega)
                rw [hrun]
                simp only [Nat.add_zero, Nat.le_refl, if_true]
                rw [show vs = [] from List.eq_nil_of_length_eq_zero (by omega)]
                exact fine_pure hr (.sn _)
              · rw [if_neg hm] at h
                split at h
                · rename_i hb
                  obtain ⟨⟨j, H1⟩, hn, hh⟩ := Option.map_eq_some_iff.1 h
                  simp at hh
                  obtain ⟨rfl, rfl⟩ := hh
                  have hrun := run_append_any (w := w) (ty := ty) (run_elemA he) h2 hi hzz (b := some oa) (n := 0) (c := 0) hsrc (fun hle g hg => by omega) (olds := []) (by simp [Builtin.firstCells, loadCells, loadCellsFrom]) (by simp; omega) (fun hh => growslice_fits hh (by simpa using hb.1))
                  rw [hrun, if_neg (by omega)]
                  simp only [Nat.zero_add]
                  have hge := grownCap_ge w m 0 e
                  obtain ⟨μ', hext, hloc, hr', hbel⟩ := fine_new hr.drew (kn := .row) rfl hn hvs (Builtin.zeroCells zv.cells (grownCap w m 0 e - m)).toList (grownCap w m 0 e) (by
                    rw [hcell, hvl, Array.length_toList, size_zeroCells, hzl, ← Nat.add_mul]
                    exact Nat.mul_le_mul_right _ (by omega)) true (by simp)
                  refine ⟨_, _, μ', rfl, hext, .sl hloc hge (grownCap_le_maxLen w m 0 e (by unfold maxLen; omega)) (fun _ _ => Nat.le_refl _), ?_, ?_⟩
                  · rw [show (([] : List Value).toArray ++ vs.toArray) = vs.toArray by simp, arr_app]; exact hr'
                  · rw [show (([] : List Value).toArray ++ vs.toArray) = vs.toArray by simp, arr_app]
                    exact (Below.refl base w).drew.trans hbel
                · cases h
            · rename_i i n
              cases hs with
              | sl hl k1 k2 k3 =>
                rename_i l c
                split at h
                · rename_i ty' cs hb
                  split at h
                  · rename_i hcc
                    obtain ⟨rfl, q1, q2, q3⟩ := hcc
                    obtain ⟨⟨j, H1⟩, hn, hh⟩ := Option.map_eq_some_iff.1 h
                    simp at hh
                    obtain ⟨rfl, rfl⟩ := hh
                    obtain ⟨rfl, rfl, hall⟩ := newBlk_some hn
                    have hL := hr.live i ty' .row cs l hb hl
                    obtain ⟨cur, fz, hbl, hro, _, hrw, hle, hone1, hvs1⟩ := hL
                    have hcap := k3 rfl (hrw.2 rfl)
                    obtain ⟨hbase, hfz, hcp⟩ := hro rfl
                    obtain rfl := hfz rfl
                    rw [hcell] at hcp
                    have hcs : c * ie.size ≤ cur.size := Nat.le_trans (Nat.mul_le_mul_right _ hcap) hcp
                    have honeV : ∀ u ∈ vs, u.oneCell' = true := by
                      intro u hu
                      obtain ⟨j, hj, rfl⟩ := List.mem_iff_getElem.1 hu
                      have hj' : j < new.length := by have := hvs.1; omega
                      refine (hvs.2 j new[j] vs[j] (by simp [hj']) (by simp [hj])).oneCell hρ ?_
                      rw [List.all_eq_true] at hone
                      exact hone _ (List.getElem_mem _)
                    obtain ⟨olds, hol, hov, _, hoc⟩ := (hr.live i ty' .row cs l hb hl).part (o := 0) (n := n * ie.size) (by omega)
                    have hstore : n + m ≤ c → (storeCells ⟨l.b, n * ie.size, none⟩ vs).run P w = .ok () (w.setRow l.b (cur.toList.take (n * ie.size) ++ vs ++ cur.toList.drop (n * ie.size + vs.length)).toArray) := by
                      intro hle2
                      have hfit : n * ie.size + vs.length ≤ cur.size := by
                        rw [hvl, ← Nat.add_mul]
                        exact Nat.le_trans (Nat.mul_le_mul_right _ hle2) hcs
                      have := run_storeCells_at P l.b (n * ie.size) ty' vs 0 cur w hbl (by omega) honeV
                      simpa using this
                    have hrun := run_append_any (w := w) (ty := ty) (run_elemA he) h2 hi hzz (b := some ⟨l.b, 0, none⟩) (n := n) (c := c) hsrc
                      (fun hle2 g hg => by cases hg; rw [add_at, Nat.zero_add]; exact ⟨_, hstore hle2⟩) (olds := olds)
                      (run_firstCells_some w.drew ie.size n _ n c olds hol (by simpa using hoc)) (by omega) (fun hh => growslice_fits hh q2)
                    rw [hrun]
                    by_cases hle2 : n + m ≤ c
                    · rw [if_pos hle2]
                      simp only [add_at, Nat.zero_add, hstore hle2, Result.andThen_ok]
                      have hfit : n * ie.size + vs.length ≤ cur.size := by
                        rw [hvl, ← Nat.add_mul]
                        exact Nat.le_trans (Nat.mul_le_mul_right _ hle2) hcs
                      have hset := hr.setRow (kn := .row) rfl hb hl (cs.take (n * ie.size) ++ new) (cur.toList.take (n * ie.size) ++ vs ++ cur.toList.drop (n * ie.size + vs.length)) (fun cur' hc' => by
                        have : cur' = cur := by rw [hbl] at hc'; simp at hc'; exact hc'.symm
                        subst this
                        have hcl : (cs.take (n * ie.size) ++ new).length = n * ie.size + vs.length := by simp [hvs.1]; omega
                        refine ⟨by simp; omega, by rw [hcl]; simp; omega, ?_⟩
                        rw [hcl]
                        have e1 : (cur'.toList.take (n * ie.size) ++ vs ++ cur'.toList.drop (n * ie.size + vs.length)).take (n * ie.size + vs.length) = cur'.toList.take (n * ie.size) ++ vs := by
                          apply List.take_left'
                          simp; omega
                        rw [e1]
                        have := hvs1.take (n * ie.size)
                        rw [List.take_take, Nat.min_eq_left q1] at this
                        exact this.append hvs) hall
                      have hlt : i < H.length := (List.getElem?_eq_some_iff.1 hb).1
                      have hmv := hset.moved (i := i) (ty := ty') (kn := .row) rfl (cs := cs.take (n * ie.size) ++ new) (l := l) (by simp [hlt]) hl
                      rw [List.set_set] at hmv
                      have hj : (H.set i Blk.dead).length = H.length := by simp
                      refine ⟨_, _, _, rfl, Ext.append _ [l], .sl (l := l) (by rw [hj, ← hr.len]; simp) hle2 k2 (fun _ _ => hcap), hmv, ⟨rfl, rfl, rfl, by simp, fun k hk => setRow_other w l.b k _ (by omega)⟩⟩
                    · rw [if_neg hle2]
                      have hge := grownCap_ge w (n + m) c ty'
                      have hov' : VRs ρ μ (cs.take (n * ie.size) ++ new) (olds ++ vs) := by
                        refine VRs.append ?_ hvs
                        simpa using hov
                      have hk := (hr.kill i).drew
                      obtain ⟨μ', hext, hloc, hr', hbel⟩ := fine_new hk (kn := .row) rfl hn hov' (Builtin.zeroCells zv.cells (grownCap w (n + m) c ty' - (n + m))).toList (grownCap w (n + m) c ty') (by
                        rw [hcell, List.length_append, hol, hvl, Array.length_toList, size_zeroCells, hzl, ← Nat.add_mul, ← Nat.add_mul]
                        exact Nat.mul_le_mul_right _ (by omega)) true (by simp)
                      refine ⟨_, _, μ', rfl, hext, .sl hloc hge (grownCap_le_maxLen w (n + m) c ty' (by unfold maxLen; omega)) (fun _ _ => Nat.le_refl _), ?_, ?_⟩
                      · rw [List.append_toArray, arr_app]; exact hr'
                      · rw [List.append_toArray, arr_app]
                        exact (Below.refl base w).drew.trans hbel
                  · cases h
                · cases h
            · cases h
        · cases h
      · cases h
    · cases h
  · cases h
theorem wrap_i64 {l : Int} (h0 : 0 ≤ l) (h1 : l ≤ 140737488355328) : IntKind.i64.wrap l = l := by
  simp [IntKind.wrap, IntKind.signed, IntKind.bits]
  omega
theorem run_append_make {oa : Option Addr} {t1 t2 ty e : TypeId} {k0 kd : IntKind} {ie : TypeInfo} {z : Value} (ht : P.underlying t1 = some (.slice e)) (h2 : P.underlying t2 = some (.int k0)) (hi : P.info? e = some ie) (hz : ie.zero = some z) {l : Int} (h0 : 0 < l) (h1 : l ≤ 140737488355328) (h3 : l.toNat * ie.bytes ≤ 140737488355328) (hs : 0 < ie.size) :
    (Builtin.append_ #[t1, t2] ty #[.slice oa 0 0, .int kd l]).run P w =
      .ok (.slice (some ⟨w.heap.size, 0, none⟩) l.toNat (grownCap w l.toNat 0 e))
        (w.drew.alloc (.cells (Builtin.zeroCells z.cells l.toNat ++ Builtin.zeroCells z.cells (grownCap w l.toNat 0 e - l.toNat)) e)) := by
  have hb : (l : Int) * (ie.bytes : Int) ≤ 140737488355328 := by
    obtain ⟨n, rfl⟩ : ∃ n : Nat, l = n := ⟨l.toNat, by omega⟩
    rw [Int.toNat_natCast] at h3
    rw [← Int.natCast_mul]
    omega
  have c1 : ¬ (l < 0) := by omega
  have c2 : ¬ (281474976710656 < l * (ie.bytes : Int)) := by omega
  have c3 : ¬ (l ≤ 0) := by omega
  have hf := growslice_fits (need := l.toNat) (old := 0) (bytes := ie.bytes) (by omega) h3
  have c5 : ¬ (281474976710656 < Builtin.nextslicecap l.toNat 0 * ie.bytes) := by
    omega
  have c7 : ¬ (l.toNat * ie.size = 0) := by
    intro hh
    rcases Nat.mul_eq_zero.1 hh with k | k <;> omega
  have hlc : ∀ a w, (loadCells a 0).run P w = .ok #[] w := fun a w => by simp [loadCells, loadCellsFrom]
  cases oa with
  | none =>
    simp [Builtin.append_, run_underlying ht, run_underlying h2, sizeOf, typeInfo, zeroValue, hi, hz, asInt, asIntOf, wrap_i64 (Int.le_of_lt h0) h1, c1, c2, c3, c5, c7, Question.forced, newRow, grownCap, Builtin.firstCells]
    intro hmx; omega
  | some a =>
    simp [Builtin.append_, run_underlying ht, run_underlying h2, sizeOf, typeInfo, zeroValue, hi, hz, asInt, asIntOf, wrap_i64 (Int.le_of_lt h0) h1, c1, c2, c3, c5, c7, Question.forced, newRow, grownCap, Builtin.firstCells, hlc]
    intro hmx; omega
theorem run_append_makeN {t1 t2 ty e : TypeId} {k0 kd : IntKind} {ie : TypeInfo} {z : Value} (ht : P.underlying t1 = some (.slice e)) (h2 : P.underlying t2 = some (.int k0)) (hi : P.info? e = some ie) (hz : ie.zero = some z) {l : Int} (h0 : 0 < l) (h1 : l ≤ 140737488355328) (h3 : l.toNat * ie.bytes ≤ 140737488355328) (hs : 0 < ie.size)
    {a : Addr} {n c : Nat} {olds : List Value} (hroom : n + l.toNat ≤ c → ∃ w', (storeCells (a.add (n * ie.size)) (Builtin.zeroCells z.cells l.toNat).toList).run P w = .ok () w')
    (hold : (Builtin.firstCells ie.size n (.slice (some a) n c)).run P w.drew = .ok olds.toArray w.drew) (h63 : n + l.toNat ≤ 140737488355328)
    (hfit : c < n + l.toNat → Builtin.nextslicecap (n + l.toNat) c * ie.bytes ≤ 281474976710656) :
    (Builtin.append_ #[t1, t2] ty #[.slice (some a) n c, .int kd l]).run P w =
      if n + l.toNat ≤ c then ((storeCells (a.add (n * ie.size)) (Builtin.zeroCells z.cells l.toNat).toList).run P w).andThen fun _ w' => .ok (.slice (some a) (n + l.toNat) c) w'
      else .ok (.slice (some ⟨w.heap.size, 0, none⟩) (n + l.toNat) (grownCap w (n + l.toNat) c e))
        (w.drew.alloc (.cells (olds.toArray ++ Builtin.zeroCells z.cells l.toNat ++ Builtin.zeroCells z.cells (grownCap w (n + l.toNat) c e - (n + l.toNat))) e)) := by
  have c1 : ¬ (l < 0) := by omega
  have hb : (l : Int) * (ie.bytes : Int) ≤ 140737488355328 := by
    obtain ⟨m, rfl⟩ : ∃ m : Nat, l = m := ⟨l.toNat, by omega⟩
    rw [Int.toNat_natCast] at h3
    rw [← Int.natCast_mul]
    omega
  have c2 : ¬ (281474976710656 < l * (ie.bytes : Int)) := by omega
  have c7 : ¬ (l.toNat * ie.size = 0) := by
    intro hh
    rcases Nat.mul_eq_zero.1 hh with k | k <;> omega
  have c8 : ¬ (9223372036854775807 < ((n : Int) + (l.toNat : Int))) := by omega
  have c9 : ¬ (9223372036854775807 < ((n : Int) + l)) := by omega
  have c10 : max l 0 = l := by omega
  by_cases hle : n + l.toNat ≤ c
  · rw [if_pos hle]
    obtain ⟨w', hw'⟩ := hroom hle
    simp [Builtin.append_, run_underlying ht, run_underlying h2, sizeOf, typeInfo, zeroValue, hi, hz, asInt, asIntOf, wrap_i64 (Int.le_of_lt h0) h1, c1, c2, c7, hle, hw']
  · rw [if_neg hle]
    have c5 : ¬ (281474976710656 < Builtin.nextslicecap (n + l.toNat) c * ie.bytes) := by have := hfit (by omega); omega
    simp [Builtin.append_, run_underlying ht, run_underlying h2, sizeOf, typeInfo, zeroValue, hi, hz, asInt, asIntOf, wrap_i64 (Int.le_of_lt h0) h1, c1, c2, c5, c7, c8, c9, c10, hle, Question.forced, newRow, grownCap, hold]
theorem appendZ_fine (hρ : ∀ j, (ρ j).oneCell' = true) (hr : HR P ρ base μ H w) {t1 t2 ty : TypeId} {k0 : IntKind} {s x v : AV} {s' x' : Value} {H' : Heap} (h : appendZ P H t1 s x = some (v, H'))
    (h2 : P.underlying t2 = some (.int k0)) (hs : VR ρ μ s s') (hx : VR ρ μ x x') :
    Fine P ρ base μ w v H' ((Builtin.append_ #[t1, t2] ty #[s', x']).run P w) := by
  unfold appendZ at h
  split at h
  · rename_i e he
    split at h
    · rename_i sz by_ z hsz hby hz
      split at h
      · rename_i kd l
        cases hs; cases hx
        split at h
        · rename_i hc
          obtain ⟨c1, c2, c2b, c3, c4, c5⟩ := hc
          obtain ⟨⟨j, H1⟩, hn, hh⟩ := Option.map_eq_some_iff.1 h
          simp at hh
          obtain ⟨rfl, rfl⟩ := hh
          obtain ⟨zv, hzr, hzv, hzi⟩ := run_zeroA hz
          have hzc := (ofV_VR (ρ := ρ) (μ := μ) hzv).cells hρ c2b
          have hzl : zv.cells.size = sz := by
            have := hzc.1
            simp at this; omega
          cases hi : P.info? e with
          | none => simp [sizeA, hi] at hsz
          | some ie =>
            have hsz' : ie.size = sz := by simpa [sizeA, hi] using hsz
            have hby' : ie.bytes = by_ := by simpa [bytesA, hi] using hby
            have hzz : ie.zero = some zv := by simpa [hi] using hzi
            have hcell : P.cellsOf e = sz := cellsOf_sizeA hsz
            subst hsz'
            subst hby'
            have hzs := zeros_VRs hzc ie.size c2 c1 l.toNat
            rw [run_append_make (run_elemA he) h2 hi hzz c3 c5 c4 c1]
            have hge := grownCap_ge w l.toNat 0 e
            have hzlen : (Builtin.zeroCells zv.cells l.toNat).toList.length = l.toNat * ie.size := by
              rw [Array.length_toList, size_zeroCells, hzl]
            have hzs' : VRs ρ μ (zerosA z.cells l.toNat) (Builtin.zeroCells zv.cells l.toNat).toList := by
              have e0 : (Builtin.zeroCells zv.cells l.toNat).toList = ((Array.range (l.toNat * ie.size)).map (zv.cells.toList.toArray[· % zv.cells.toList.toArray.size]!)).toList := by
                simp only [Builtin.zeroCells, Array.toArray_toList, hzl]
              rw [e0]; exact hzs
            obtain ⟨μ', hext, hloc, hr', hbel⟩ := fine_new hr.drew (kn := .row) rfl hn hzs' (Builtin.zeroCells zv.cells (grownCap w l.toNat 0 e - l.toNat)).toList (grownCap w l.toNat 0 e) (by
              rw [hcell, hzlen, Array.length_toList, size_zeroCells, hzl, ← Nat.add_mul]
              exact Nat.mul_le_mul_right _ (by omega)) true (by simp)
            have e2 : ((Builtin.zeroCells zv.cells l.toNat).toList ++ (Builtin.zeroCells zv.cells (grownCap w l.toNat 0 e - l.toNat)).toList).toArray = Builtin.zeroCells zv.cells l.toNat ++ Builtin.zeroCells zv.cells (grownCap w l.toNat 0 e - l.toNat) := by
              apply Array.ext'; simp
            rw [e2] at hr' hbel
            exact ⟨_, _, μ', rfl, hext, .sl hloc hge (grownCap_le_maxLen w l.toNat 0 e (by unfold maxLen; omega)) (fun _ _ => Nat.le_refl _), hr', (Below.refl base w).drew.trans hbel⟩
        · cases h
      · rename_i kd l
        cases hs; cases hx
        split at h
        · rename_i hc
          obtain ⟨c1, c2, c2b, c3, c4, c5⟩ := hc
          obtain ⟨⟨j, H1⟩, hn, hh⟩ := Option.map_eq_some_iff.1 h
          simp at hh
          obtain ⟨rfl, rfl⟩ := hh
          obtain ⟨zv, hzr, hzv, hzi⟩ := run_zeroA hz
          have hzc := (ofV_VR (ρ := ρ) (μ := μ) hzv).cells hρ c2b
          have hzl : zv.cells.size = sz := by
            have := hzc.1
            simp at this; omega
          cases hi : P.info? e with
          | none => simp [sizeA, hi] at hsz
          | some ie =>
            have hsz' : ie.size = sz := by simpa [sizeA, hi] using hsz
            have hby' : ie.bytes = by_ := by simpa [bytesA, hi] using hby
            have hzz : ie.zero = some zv := by simpa [hi] using hzi
            have hcell : P.cellsOf e = sz := cellsOf_sizeA hsz
            subst hsz'
            subst hby'
            have hzs := zeros_VRs hzc ie.size c2 c1 l.toNat
            rw [run_append_make (run_elemA he) h2 hi hzz c3 c5 c4 c1]
            have hge := grownCap_ge w l.toNat 0 e
            have hzlen : (Builtin.zeroCells zv.cells l.toNat).toList.length = l.toNat * ie.size := by
              rw [Array.length_toList, size_zeroCells, hzl]
            have hzs' : VRs ρ μ (zerosA z.cells l.toNat) (Builtin.zeroCells zv.cells l.toNat).toList := by
              have e0 : (Builtin.zeroCells zv.cells l.toNat).toList = ((Array.range (l.toNat * ie.size)).map (zv.cells.toList.toArray[· % zv.cells.toList.toArray.size]!)).toList := by
                simp only [Builtin.zeroCells, Array.toArray_toList, hzl]
              rw [e0]; exact hzs
            obtain ⟨μ', hext, hloc, hr', hbel⟩ := fine_new hr.drew (kn := .row) rfl hn hzs' (Builtin.zeroCells zv.cells (grownCap w l.toNat 0 e - l.toNat)).toList (grownCap w l.toNat 0 e) (by
              rw [hcell, hzlen, Array.length_toList, size_zeroCells, hzl, ← Nat.add_mul]
              exact Nat.mul_le_mul_right _ (by omega)) true (by simp)
            have e2 : ((Builtin.zeroCells zv.cells l.toNat).toList ++ (Builtin.zeroCells zv.cells (grownCap w l.toNat 0 e - l.toNat)).toList).toArray = Builtin.zeroCells zv.cells l.toNat ++ Builtin.zeroCells zv.cells (grownCap w l.toNat 0 e - l.toNat) := by
              apply Array.ext'; simp
            rw [e2] at hr' hbel
            exact ⟨_, _, μ', rfl, hext, .sl hloc hge (grownCap_le_maxLen w l.toNat 0 e (by unfold maxLen; omega)) (fun _ _ => Nat.le_refl _), hr', (Below.refl base w).drew.trans hbel⟩
        · cases h
      · -- onto a row
        rename_i i n kd l
        cases hx
        cases hs with
        | sl hl k1 k2 k3 =>
          rename_i lc c
          split at h
          · rename_i ty' cs hb
            split at h
            · rename_i hcc
              obtain ⟨rfl, q1, c1, c2, c2b, c3, c4, c5⟩ := hcc
              obtain ⟨⟨j, H1⟩, hn, hh⟩ := Option.map_eq_some_iff.1 h
              simp at hh
              obtain ⟨rfl, rfl⟩ := hh
              obtain ⟨zv, hzr, hzv, hzi⟩ := run_zeroA hz
              have hzc := (ofV_VR (ρ := ρ) (μ := μ) hzv).cells hρ c2b
              have hzl : zv.cells.size = sz := by
                have := hzc.1
                simp at this; omega
              cases hi : P.info? ty' with
              | none => simp [sizeA, hi] at hsz
              | some ie =>
                have hsz' : ie.size = sz := by simpa [sizeA, hi] using hsz
                have hby' : ie.bytes = by_ := by simpa [bytesA, hi] using hby
                have hzz : ie.zero = some zv := by simpa [hi] using hzi
                have hcell : P.cellsOf ty' = sz := cellsOf_sizeA hsz
                subst hsz'
                subst hby'
                have hzs := zeros_VRs hzc ie.size c2 c1 l.toNat
                have hzlen : (Builtin.zeroCells zv.cells l.toNat).toList.length = l.toNat * ie.size := by
                  rw [Array.length_toList, size_zeroCells, hzl]
                have hzs' : VRs ρ μ (zerosA z.cells l.toNat) (Builtin.zeroCells zv.cells l.toNat).toList := by
                  have e0 : (Builtin.zeroCells zv.cells l.toNat).toList = ((Array.range (l.toNat * ie.size)).map (zv.cells.toList.toArray[· % zv.cells.toList.toArray.size]!)).toList := by
                    simp only [Builtin.zeroCells, Array.toArray_toList, hzl]
                  rw [e0]; exact hzs
                obtain ⟨rfl, rfl, hall⟩ := newBlk_some hn
                have hL := hr.live i ty' .row cs lc hb hl
                obtain ⟨cur, fz, hbl, hro, _, hrw, hle, hone1, hvs1⟩ := hL
                have hcap := k3 rfl (hrw.2 rfl)
                obtain ⟨hbase, hfz, hcp⟩ := hro rfl
                obtain rfl := hfz rfl
                rw [hcell] at hcp
                have hcs : c * ie.size ≤ cur.size := Nat.le_trans (Nat.mul_le_mul_right _ hcap) hcp
                generalize hnw : zerosA z.cells l.toNat = new at hzs' hall hn ⊢
                generalize hvv : (Builtin.zeroCells zv.cells l.toNat).toList = vs at hzs' hzlen
                have hone : new.all AV.one = true := by
                  rw [List.all_append, Bool.and_eq_true] at hall
                  exact hall.2
                have honeV : ∀ u ∈ vs, u.oneCell' = true := by
                  intro u hu
                  obtain ⟨j, hj, rfl⟩ := List.mem_iff_getElem.1 hu
                  have hj' : j < new.length := by have := hzs'.1; omega
                  refine (hzs'.2 j new[j] vs[j] (by simp [hj']) (by simp [hj])).oneCell hρ ?_
                  rw [List.all_eq_true] at hone
                  exact hone _ (List.getElem_mem _)
                obtain ⟨olds, hol, hov, _, hoc⟩ := (hr.live i ty' .row cs lc hb hl).part (o := 0) (n := n * ie.size) (by omega)
                have hstore : n + l.toNat ≤ c → (storeCells ⟨lc.b, n * ie.size, none⟩ vs).run P w = .ok () (w.setRow lc.b (cur.toList.take (n * ie.size) ++ vs ++ cur.toList.drop (n * ie.size + vs.length)).toArray) := by
                  intro hle2
                  have hfit : n * ie.size + vs.length ≤ cur.size := by
                    rw [hzlen, ← Nat.add_mul]
                    exact Nat.le_trans (Nat.mul_le_mul_right _ hle2) hcs
                  have := run_storeCells_at P lc.b (n * ie.size) ty' vs 0 cur w hbl (by omega) honeV
                  simpa using this
                have hlle : l.toNat * ie.bytes ≤ 140737488355328 := Nat.le_trans (Nat.mul_le_mul_right _ (Nat.le_add_left _ _)) c4
                have hrun := run_append_makeN (w := w) (ty := ty) (t2 := t2) (kd := kd) (run_elemA he) h2 hi hzz (a := ⟨lc.b, 0, none⟩) (n := n) (c := c) c3 (by omega) hlle c1
                  (fun hle2 => by rw [add_at, Nat.zero_add, hvv]; exact ⟨_, hstore hle2⟩) (olds := olds)
                  (run_firstCells_some w.drew ie.size n _ n c olds hol (by simpa using hoc)) c5 (fun hh => growslice_fits hh c4)
                rw [hrun]
                by_cases hle2 : n + l.toNat ≤ c
                · rw [if_pos hle2]
                  simp only [add_at, Nat.zero_add, hvv, hstore hle2, Result.andThen_ok]
                  have hfit : n * ie.size + vs.length ≤ cur.size := by
                    rw [hzlen, ← Nat.add_mul]
                    exact Nat.le_trans (Nat.mul_le_mul_right _ hle2) hcs
                  have hset := hr.setRow (kn := .row) rfl hb hl (cs.take (n * ie.size) ++ new) (cur.toList.take (n * ie.size) ++ vs ++ cur.toList.drop (n * ie.size + vs.length)) (fun cur' hc' => by
                    have : cur' = cur := by rw [hbl] at hc'; simp at hc'; exact hc'.symm
                    subst this
                    have hcl : (cs.take (n * ie.size) ++ new).length = n * ie.size + vs.length := by simp [hzs'.1]; omega
                    refine ⟨by simp; omega, by rw [hcl]; simp; omega, ?_⟩
                    rw [hcl]
                    have e1 : (cur'.toList.take (n * ie.size) ++ vs ++ cur'.toList.drop (n * ie.size + vs.length)).take (n * ie.size + vs.length) = cur'.toList.take (n * ie.size) ++ vs := by
                      apply List.take_left'
                      simp; omega
                    rw [e1]
                    have := hvs1.take (n * ie.size)
                    rw [List.take_take, Nat.min_eq_left q1] at this
                    exact this.append hzs') hall
                  have hlt : i < H.length := (List.getElem?_eq_some_iff.1 hb).1
                  have hmv := hset.moved (i := i) (ty := ty') (kn := .row) rfl (cs := cs.take (n * ie.size) ++ new) (l := lc) (by simp [hlt]) hl
                  rw [List.set_set] at hmv
                  have hj : (H.set i Blk.dead).length = H.length := by simp
                  refine ⟨_, _, _, rfl, Ext.append _ [lc], .sl (l := lc) (by rw [hj, ← hr.len]; simp) hle2 k2 (fun _ _ => hcap), hmv, ⟨rfl, rfl, rfl, by simp, fun k hk => setRow_other w lc.b k _ (by omega)⟩⟩
                · rw [if_neg hle2]
                  have hge := grownCap_ge w (n + l.toNat) c ty'
                  have hov' : VRs ρ μ (cs.take (n * ie.size) ++ new) (olds ++ vs) := by
                    refine VRs.append ?_ hzs'
                    simpa using hov
                  have hk := (hr.kill i).drew
                  obtain ⟨μ', hext, hloc, hr', hbel⟩ := fine_new hk (kn := .row) rfl hn hov' (Builtin.zeroCells zv.cells (grownCap w (n + l.toNat) c ty' - (n + l.toNat))).toList (grownCap w (n + l.toNat) c ty') (by
                    rw [hcell, List.length_append, hol, hzlen, Array.length_toList, size_zeroCells, hzl, ← Nat.add_mul, ← Nat.add_mul]
                    exact Nat.mul_le_mul_right _ (by omega)) true (by simp)
                  have e2 : (olds ++ vs ++ (Builtin.zeroCells zv.cells (grownCap w (n + l.toNat) c ty' - (n + l.toNat))).toList).toArray = olds.toArray ++ Builtin.zeroCells zv.cells l.toNat ++ Builtin.zeroCells zv.cells (grownCap w (n + l.toNat) c ty' - (n + l.toNat)) := by
                    apply Array.ext'; simp [hvv]
                  rw [e2] at hr' hbel
                  exact ⟨_, _, μ', rfl, hext, .sl hloc hge (grownCap_le_maxLen w (n + l.toNat) c ty' (by unfold maxLen; omega)) (fun _ _ => Nat.le_refl _), hr', (Below.refl base w).drew.trans hbel⟩
            · cases h
          · cases h
      · cases h
    · cases h
  · cases h
end
end Go.Proofs.YtiifcfngbbhgoagDoor.Ax

namespace Go.Proofs.YtiifcfngbbhgoagDoor.Ax
open Go Go.RowKit
section
variable {P : Program} {ρ : Nat → Value} {base : Nat} {μ : List Loc} {H : Heap} {w : World} {fr : List AV} {a : Act}
theorem copy_fine (hρ : ∀ j, (ρ j).oneCell' = true) (hr : HR P ρ base μ H w) {t1 t2 ty : TypeId} {d x v : AV} {d' x' : Value} {H' : Heap} (h : copyA P H t1 d x = some (v, H')) (hd : VR ρ μ d d') (hx : VR ρ μ x x') :
    Fine P ρ base μ w v H' ((Builtin.copy_ #[t1, t2] ty #[d', x']).run P w) := by
  unfold copyA at h
  split at h
  · rename_i e he
    split at h
    · rename_i hs
      split at h
      · rename_i i o n m new hnew
        cases hd with
        | sl hl k1 k2 k3 =>
          rename_i l c
          split at h
          · rename_i ty' kn cs hb
            split at h
            · rename_i hle
              obtain ⟨hk, hle⟩ := hle
              simp at h
              obtain ⟨rfl, rfl⟩ := h
              obtain ⟨vs, ⟨s1, s2, _, s4, s5⟩, hvs, hone⟩ := first_fine hr (Nat.lt_succ_self 0) hnew (fun _ => rfl) hx
              have hvl : vs.length = m := by simpa using s4
              have hnl : (new.take (min m n)).length = min m n := by have := hvs.1; simp; omega
              obtain ⟨w', hrun, hr', hbel⟩ := put_row hρ hr hk hb hl (new := new.take (min m n)) (o := o) (by rw [hnl]; omega) (by
                rw [List.all_eq_true] at hone ⊢
                exact fun y hy => hone y (List.mem_of_mem_take hy)) (hvs.take (min m n))
              have hf : (Builtin.firstCells 1 (min m n) x').run P w = .ok (vs.take (min m n)).toArray w := by
                have := s5 (min m n) (Nat.min_le_left _ _)
                rwa [Nat.mul_one] at this
              refine ⟨.int .i64 (min m n : Nat), w', μ, ?_, Ext.refl _, .i _ _, hr', hbel⟩
              have hf' : (Builtin.firstCells 1 (Nat.min m n) x').run P w = .ok (vs.take (min m n)).toArray w := hf
              simp only [Builtin.copy_, List.getElem?_toArray, List.getElem?_cons_zero, List.getElem?_cons_succ, Sem.run_bind, run_underlying (run_elemA he), Result.andThen_ok, s1, run_sizeA w hs, hf', hrun, Sem.run_pure]
              rfl
            · cases h
          · cases h
      · cases h
    · cases h
  · cases h
theorem len_fine (hr : HR P ρ base μ H w) {t ty : TypeId} {x v : AV} {x' : Value} (h : lenA P t x = some v) (hx : VR ρ μ x x') :
    Fine P ρ base μ w v H ((Builtin.len_ #[t] ty #[x']).run P w) := by
  unfold lenA at h
  split at h <;> first | (cases h; done) | skip
  all_goals
    rename_i hu
    simp at h; subst h
    cases hx
    first
      | (simp [Builtin.len_, run_underlying hu, goInt]; exact fine_pure hr (.i _ _))
theorem min_fine (hr : HR P ρ base μ H w) {t : Array TypeId} {ty : TypeId} {x y v : AV} {x' y' : Value} (h : minA x y = some v) (hx : VR ρ μ x x') (hy : VR ρ μ y y') :
    Fine P ρ base μ w v H ((Builtin.min_ t ty #[x', y']).run P w) := by
  unfold minA at h
  split at h
  · rename_i k p k' q
    cases hx; cases hy
    split at h
    · simp at h; subst h
      simp [Builtin.min_, Builtin.min2]
      exact fine_pure hr (.i _ _)
    · cases h
  · cases h
theorem max_fine (hr : HR P ρ base μ H w) {t : Array TypeId} {ty : TypeId} {x y v : AV} {x' y' : Value} (h : maxA x y = some v) (hx : VR ρ μ x x') (hy : VR ρ μ y y') :
    Fine P ρ base μ w v H ((Builtin.max_ t ty #[x', y']).run P w) := by
  unfold maxA at h
  split at h
  · rename_i k p k' q
    cases hx; cases hy
    split at h
    · simp at h; subst h
      simp [Builtin.max_, Builtin.max2]
      exact fine_pure hr (.i _ _)
    · cases h
  · cases h
theorem bytesOf_ints : ∀ (cs : List AV) (l : List UInt8) (vs : List Value), bytesOf cs = some l → VRs ρ μ cs vs → ∃ ns : List Int, vs = ns.map (Value.int .u8) ∧ l = ns.map fun n => UInt8.ofNat n.toNat
  | [], l, vs, h, hv => by
    simp [bytesOf] at h; subst h
    obtain rfl : vs = [] := List.eq_nil_of_length_eq_zero (by have := hv.1; simpa using this.symm)
    exact ⟨[], rfl, rfl⟩
  | c :: r, l, vs, h, hv => by
    cases vs with
    | nil => have := hv.1; simp at this
    | cons u s =>
      have h0 := hv.2 0 c u rfl rfl
      have hs : VRs ρ μ r s := ⟨by have := hv.1; simpa using this, fun j x v p q => hv.2 (j + 1) x v (by simpa using p) (by simpa using q)⟩
      unfold bytesOf at h
      split at h
      · rename_i heq; cases heq
      · rename_i n r' heq
        cases heq
        obtain ⟨l', hl', rfl⟩ := Option.map_eq_some_iff.1 h
        cases h0
        obtain ⟨ns, rfl, rfl⟩ := bytesOf_ints _ l' s hl' hs
        exact ⟨n :: ns, rfl, rfl⟩
      · cases h
theorem push_all : ∀ (ns : List Int) (acc : ByteArray), ns.foldl (fun r n => r.push (UInt8.ofNat n.toNat)) acc = ⟨acc.data ++ (ns.map fun n => UInt8.ofNat n.toNat).toArray⟩
  | [], acc => by simp
  | n :: ns, acc => by
    rw [List.foldl_cons, push_all ns]
    simp [ByteArray.push]
theorem conv_fine (hr : HR P ρ base μ H w) {s t : TypeId} {x v : AV} {x' : Value} (h : convA P s t x = some v) (hx : VR ρ μ x x') : Fine P ρ base μ w v H ((convert s t x').run P w) := by
  unfold convA at h
  split at h
  · rename_i k kd n hu hd
    simp at h; subst h
    cases hx
    have : (convert s t (.int kd n)).run P w = .ok (.int k (k.wrap n)) w := by
      obtain ⟨d, hs⟩ := Option.isSome_iff_exists.1 hu
      simp [convert, run_underlying hs, run_underlying hd, Conv.intToInt]
    rw [this]
    exact fine_pure hr (.i _ _)
  · cases h
theorem str_run (hr : HR P ρ base μ H w) {x : AV} {x' : Value} {bs : ByteArray} (h : strOf H x = some bs) (hx : VR ρ μ x x') : (Conv.bytesToString x').run P w = .ok (.string bs) w := by
  unfold strOf at h
  split at h
  · simp at h; subst h; cases hx; rfl
  · simp at h; subst h; cases hx
    simp [Conv.bytesToString, loadCells, loadCellsFrom]
  · rename_i i o n
    cases hx with
    | sl hl h1 h2 h3 =>
      rename_i l c
      split at h
      · rename_i ty kn cs hb
        split at h
        · rename_i hle
          obtain ⟨bl, hbl, rfl⟩ := Option.map_eq_some_iff.1 h
          obtain ⟨vs, hvl, hvs, _, hc⟩ := (hr.live i ty kn cs l hb hl).part hle
          have hld := run_loadCells_list (P := P) w ⟨l.b, o, none⟩ vs hc
          rw [hvl] at hld
          obtain ⟨ns, rfl, rfl⟩ := bytesOf_ints (ρ := ρ) (μ := μ) _ bl vs hbl hvs
          rw [run_bytesToString w _ n c ns hld, push_all]
          simp [ByteArray.empty, ByteArray.emptyWithCapacity]
          rfl
        · cases h
      · cases h
  · cases h
theorem strA_fine (hr : HR P ρ base μ H w) {s t : TypeId} {x v : AV} {x' : Value} (h : strA P H s t x = some v) (hx : VR ρ μ x x') : Fine P ρ base μ w v H ((convert s t x').run P w) := by
  unfold strA at h
  split at h
  · rename_i e hs hd
    split at h
    · rename_i he
      obtain ⟨bs, hbs, rfl⟩ := Option.map_eq_some_iff.1 h
      have hrun := str_run hr hbs hx
      have : (convert s t x').run P w = .ok (.string bs) w := by
        unfold strOf at hbs
        split at hbs
        · cases hx; simp [convert, run_underlying hs, run_underlying hd, run_underlying he, hrun]
        · cases hx; simp [convert, run_underlying hs, run_underlying hd, run_underlying he, hrun]
        · cases hx; simp [convert, run_underlying hs, run_underlying hd, run_underlying he, hrun]
        · cases hbs
      rw [this]
      exact fine_pure hr (.s _)
    · cases h
  · cases h
theorem bytesOfA_fine (hr : HR P ρ base μ H w) {s t : TypeId} {x v : AV} {x' : Value} {H' : Heap} (h : bytesOfA P H s t x = some (v, H')) (hx : VR ρ μ x x') : Fine P ρ base μ w v H' ((convert s t x').run P w) := by
  unfold bytesOfA at h
  split at h
  rotate_left
  · cases h
  split at h
  · rename_i e bs hs hd
    split at h
    · rename_i he
      split at h
      · rename_i hsz
        simp only [Option.some.injEq, Prod.mk.injEq] at h
        obtain ⟨rfl, rfl⟩ := h
        cases hx
        rw [Lib.run_convert_string_bytes w s t e bs hs hd he]
        have hge := grownCap_ge w bs.size 0 e
        have hv : VRs ρ μ (bs.data.toList.map fun c => AV.i .u8 c.toNat) (bs.data.toList.map fun b => Value.int .u8 b.toNat) := by
          refine ⟨by simp, fun j a u ha hu => ?_⟩
          simp only [List.getElem?_map, Option.map_eq_some_iff] at ha hu
          obtain ⟨c, h1, rfl⟩ := ha
          obtain ⟨c', h2, rfl⟩ := hu
          rw [h1] at h2; cases h2
          exact .i _ _
        have hHR := hr.allocC (w' := Lib.bytesWorld w e bs) e hv (more := List.replicate (grownCap w bs.size 0 e - bs.size) (.int .u8 0)) (fz := ((Lib.bytesCells w e bs).size, (Lib.bytesCells w e bs).size + 1)) (Lib.bytesWorld_size w e bs) (fun i hi => Lib.bytesWorld_at_old w e bs i hi) (by
          rw [Lib.bytesWorld_at_new]
          congr 2
          unfold Lib.bytesCells
          apply Array.ext'
          simp)
        refine ⟨_, _, _, rfl, Ext.append _ _, ?_, hHR, ⟨rfl, rfl, rfl, by rw [Lib.bytesWorld_size]; omega, fun k hk => Lib.bytesWorld_at_old w e bs k (by have := hr.base_le; omega)⟩⟩
        by_cases h0 : bs.size = 0
        · rw [if_pos h0, h0]; exact .se _ _
        · rw [if_neg h0]
          have hloc : (μ ++ [⟨w.heap.size, 0, false⟩])[H.length]? = some (⟨w.heap.size, 0, false⟩ : Loc) := by rw [← hr.len]; simp
          exact .sl hloc hge (grownCap_le_maxLen w bs.size 0 e (by unfold maxLen; omega)) (fun _ hh => by cases hh)
      · cases h
    · cases h
  · cases h
theorem un_fine (hr : HR P ρ base μ H w) {op : UnOp} {x v : AV} {x' : Value} (h : unA op x = some v) (hx : VR ρ μ x x') : Fine P ρ base μ w v H ((Op.unary op x').run P w) := by
  unfold unA at h
  split at h
  · simp at h; subst h; cases hx; exact fine_pure hr (.b _)
  · simp only [Option.some.injEq] at h; subst h; cases hx; exact fine_pure hr (.i _ _)
  · cases h
theorem ofSem_run {s : Sem Value} {v : AV} (h : ofSem s = some v) : ∃ v', (∀ w, s.run P w = .ok v' w) ∧ VR ρ μ v v' := by
  unfold ofSem at h
  split at h
  · rename_i v'
    exact ⟨v', fun w => rfl, (ofV1_VR h).1⟩
  · cases h
theorem eq_run {t : TypeId} {x y : AV} {b : Bool} {x' y' : Value} (h : eqA P t x y = some b) (hx : VR ρ μ x x') (hy : VR ρ μ y y') (w : World) : (Op.equal t x' y').run P w = .ok b w := by
  unfold Op.equal
  rw [show Op.maxDepth = 9999 + 1 from rfl]
  unfold eqA at h
  split at h <;> first | (cases h; done) | skip
  all_goals
    rename_i hu
    simp only [Option.some.injEq] at h
    subst h
    cases hx; cases hy
    unfold Op.equalIn
    simp [run_underlying hu]
theorem bin_fine (hr : HR P ρ base μ H w) {op : BinOp} {t : TypeId} {ox oy : Operand} {x y v : AV} {x' y' : Value} (h : binA P op t (isC ox || isC oy) x y = some v) (hx : VR ρ μ x x') (hy : VR ρ μ y y') :
    Fine P ρ base μ w v H ((do eqGuard op t ox oy x' y'; binOp op t x' y' : Sem Value).run P w) := by
  unfold binA at h
  split at h
  · cases hx; cases hy
    have hgo : ∀ b : Bool, b = (isC ox || isC oy) → b = true → (eqGuard .eql t ox oy .nilIface .nilIface).run P w = .ok () w ∧ (eqGuard .neq t ox oy .nilIface .nilIface).run P w = .ok () w := by
      intro b hb hc
      subst hc
      constructor <;> (unfold eqGuard; cases ox <;> cases oy <;> first | rfl | cases hb)
    generalize hbb : (isC ox || isC oy) = b at h
    split at h
    · rename_i hu
      simp at h; subst h
      simp only [Sem.run_bind, (hgo true hbb.symm rfl).1, Result.andThen_ok]
      have : (binOp .eql t .nilIface .nilIface).run P w = .ok (.bool true) w := by
        have he : (Op.equal t .nilIface .nilIface).run P w = .ok true w := by
          unfold Op.equal
          rw [show Op.maxDepth = 9999 + 1 from rfl]
          unfold Op.equalIn
          simp [run_underlying hu]
        rw [show binOp .eql t .nilIface .nilIface = (do pure (.bool ((← Op.equal t .nilIface .nilIface)))) from rfl]
        simp only [Sem.run_bind, he, Result.andThen_ok, Sem.run_pure]
      rw [this]
      exact fine_pure hr (.b _)
    · rename_i hu
      simp at h; subst h
      simp only [Sem.run_bind, (hgo true hbb.symm rfl).2, Result.andThen_ok]
      have : (binOp .neq t .nilIface .nilIface).run P w = .ok (.bool false) w := by
        have he : (Op.equal t .nilIface .nilIface).run P w = .ok true w := by
          unfold Op.equal
          rw [show Op.maxDepth = 9999 + 1 from rfl]
          unfold Op.equalIn
          simp [run_underlying hu]
        rw [show binOp .neq t .nilIface .nilIface = (do pure (.bool (!(← Op.equal t .nilIface .nilIface)))) from rfl]
        simp only [Sem.run_bind, he, Result.andThen_ok, Sem.run_pure, Bool.not_true]
      rw [this]
      exact fine_pure hr (.b _)
    · cases h
  · cases hx; cases hy
    obtain ⟨v', hv, hvr⟩ := ofSem_run (P := P) (ρ := ρ) (μ := μ) h
    have hg : ∀ k p l q, (eqGuard op t ox oy (.int k p) (.int l q)).run P w = .ok () w := by
      intro k p l q
      unfold eqGuard
      split <;> rfl
    simp only [Sem.run_bind, hg, Result.andThen_ok, hv]
    exact fine_pure hr hvr
  · cases hx; cases hy
    obtain ⟨v', hv, hvr⟩ := ofSem_run (P := P) (ρ := ρ) (μ := μ) h
    have hg : ∀ p q, (eqGuard op t ox oy (.string p) (.string q)).run P w = .ok () w := by
      intro p q
      unfold eqGuard
      split <;> rfl
    simp only [Sem.run_bind, hg, Result.andThen_ok, hv]
    exact fine_pure hr hvr
  · have key : ∀ b, eqA P t x y = some b → (∀ op, (eqGuard op t ox oy x' y').run P w = .ok () w) ∧ binOp .eql t x' y' = (do pure (.bool (← Op.equal t x' y'))) ∧ binOp .neq t x' y' = (do pure (.bool (!(← Op.equal t x' y')))) := by
      intro b hb
      unfold eqA at hb
      split at hb <;> first | (cases hb; done) | skip
      all_goals
        cases hx; cases hy
        refine ⟨fun op => ?_, rfl, rfl⟩
        unfold eqGuard
        split <;> rfl
    split at h
    · obtain ⟨b, hb, rfl⟩ := Option.map_eq_some_iff.1 h
      obtain ⟨k1, k2, _⟩ := key b hb
      simp only [Sem.run_bind, k1, Result.andThen_ok, k2, eq_run hb hx hy, Sem.run_pure]
      exact fine_pure hr (.b _)
    · obtain ⟨b, hb, rfl⟩ := Option.map_eq_some_iff.1 h
      obtain ⟨k1, _, k3⟩ := key b hb
      simp only [Sem.run_bind, k1, Result.andThen_ok, k3, eq_run hb hx hy, Sem.run_pure]
      exact fine_pure hr (.b _)
    · cases h
theorem lenM_fine (hr : HR P ρ base μ H w) {t ty : TypeId} {x v : AV} {x' : Value} (h : lenM P H t x = some v) (hx : VR ρ μ x x') :
    Fine P ρ base μ w v H ((Builtin.len_ #[t] ty #[x']).run P w) := by
  unfold lenM at h
  split at h
  · rename_i kd i hk
    split at h
    · rename_i kd' es hi
      simp at h; subst h
      cases hx with
      | mp hl =>
        rename_i l
        obtain ⟨xs, clk, h1, _, h3, _⟩ := hr.maps i kd' es l hi hl
        have hg : (getObj l.b).run P w = .ok (.map xs clk) w := by simp [getObj, Sem.run, h1]
        unfold keyA at hk
        split at hk
        · rename_i k e hu
          have : (Builtin.len_ #[t] ty #[.map (some l.b)]).run P w = .ok (.int .i64 xs.size) w := by
            simp [Builtin.len_, run_underlying hu, hg, goInt]
          rw [this, h3]
          exact fine_pure hr (.i _ _)
        · cases hk
    · cases h
  · cases h
theorem makeMap_fine (hr : HR P ρ base μ H w) {t : TypeId} {v : AV} {H' : Heap} (h : makeMapA P H t = some (v, H')) : Fine P ρ base μ w v H' ((Instr.makeMap t none).run P w) := by
  unfold makeMapA at h
  obtain ⟨kd, hk, hh⟩ := Option.map_eq_some_iff.1 h
  simp at hh
  obtain ⟨rfl, rfl⟩ := hh
  refine ⟨.map (some w.heap.size), w.alloc (.map #[] 0), _, ?_, Ext.append _ _, .mp (l := ⟨w.heap.size, 0, false⟩) (by rw [← hr.len]; simp), hr.newMap kd, (Below.refl _ _).alloc hr.base_le _⟩
  simp [Instr.makeMap]
theorem findNow_ints {d : TypeDesc} {kd : IntKind} (hd : ∃ k, d = .int k) (n : Int) : ∀ (xs : List MapEntry) (es : List (Int × AV)) (i : Nat), xs.length = es.length → (∀ (j : Nat) (x : MapEntry) (k : Int) (v : AV), xs[j]? = some x → es[j]? = some (k, v) → x.key = .int kd k) →
    ((n ∉ es.map (·.1)) ∧ Instr.findNow d (.int kd n) xs i = some none) ∨ ∃ j x v, xs[j]? = some x ∧ es[j]? = some (n, v) ∧ Instr.findNow d (.int kd n) xs i = some (some (i + j, x.val))
  | [], [], i, _, _ => .inl ⟨by simp, rfl⟩
  | [], _ :: _, _, h, _ => by simp at h
  | _ :: _, [], _, h, _ => by simp at h
  | x :: xs, (k, v) :: es, i, h, hk => by
    obtain ⟨k0, rfl⟩ := hd
    have hx := hk 0 x k v rfl rfl
    have hs : Instr.sameNow (.int k0) (.int kd n) x.key = some (n == k) := by rw [hx]; simp [Instr.sameNow]
    by_cases e : n = k
    · subst e
      right
      refine ⟨0, x, v, rfl, rfl, ?_⟩
      unfold Instr.findNow
      rw [hs]; simp
    · have hb : (n == k) = false := by simpa using e
      rw [hb] at hs
      rcases findNow_ints ⟨k0, rfl⟩ n xs es (i + 1) (by simpa using h) (fun j y k' v' hy hv' => hk (j + 1) y k' v' (by simpa using hy) (by simpa using hv')) with ⟨h1, h2⟩ | ⟨j, y, v', h1, h2, h3⟩
      · left
        refine ⟨by simp [e]; simpa using h1, ?_⟩
        unfold Instr.findNow
        rw [hs]; exact h2
      · right
        refine ⟨j + 1, y, v', by simpa using h1, by simpa using h2, ?_⟩
        unfold Instr.findNow
        rw [hs]
        rw [show i + (j + 1) = i + 1 + j by omega]
        exact h3
theorem mapSet_fine (hr : HR P ρ base μ H w) {t : TypeId} {m k x : AV} {m' k' x' : Value} {H' : Heap} (h : mapSetA P H t m k x = some H') (hm : VR ρ μ m m') (hk : VR ρ μ k k') (hx : VR ρ μ x x') :
    ∃ w', (Instr.mapUpdate t m' k' x').run P w = .ok () w' ∧ HR P ρ base μ H' w' ∧ Below base w w' := by
  unfold mapSetA at h
  split at h
  · rename_i i kd n kd' hkA
    split at h
    · rename_i kd'' es hi
      split at h
      · rename_i hc
        obtain ⟨rfl, rfl, h1⟩ := hc
        simp at h; subst h
        cases hk
        cases hm with
        | mp hl =>
          rename_i l
          have hM := hr.maps i _ es l hi hl
          obtain ⟨xs, clk, g1, g2, g3, g4, g5, g6, g7⟩ := hM
          unfold keyA at hkA
          split at hkA
          · rename_i kt et hu
            split at hkA
            · rename_i kd0 hku
              simp at hkA; subst hkA
              have hchk0 : ∀ m, (Instr.checkKey false (m + 1) kt (.int kd0 n)).run P w = .ok () w := fun m => by
                unfold Instr.checkKey
                simp only [Sem.run_bind, run_underlying hku, Result.andThen_ok, Sem.run_pure]
              have hchk : (Instr.checkKey false 10000 kt (.int kd0 n)).run P w = .ok () w := hchk0 9999
              have hlt := (Array.getElem?_eq_some_iff.1 g1).1
              have hg : (getObj l.b).run P w = .ok (.map xs clk) w := by simp [getObj, Sem.run, g1]
              have hset : ∀ o, (setObj l.b o).run P w = .ok () (setB w l.b o) := fun o => by simp [setObj, Sem.run, g1, setB]
              rcases findNow_ints (d := .int kd0) ⟨kd0, rfl⟩ n xs.toList es 0 (by simpa using g3) (fun j x k v hx hv => (g7 j x k v hx hv).1) with ⟨f1, f2⟩ | ⟨j, y, v, f1, f2, f3⟩
              · -- a new key
                have hrun : (Instr.mapUpdate t (.map (some l.b)) (.int kd0 n) x').run P w = .ok () (setB w l.b (.map (xs.push { key := .int kd0 n, val := x', born := clk }) (clk + 1))) := by
                  simp only [Instr.mapUpdate, Sem.run_bind, run_underlying hu, Result.andThen_ok, hg, hchk, Instr.findKey, run_underlying hku, f2, Sem.run_pure, hset]
                refine ⟨_, hrun, ?_, ?_⟩
                · refine hr.setMap hi hl _ _ ⟨_, _, setB_same _ hlt, g2, ?_, ?_, ?_, ?_, ?_⟩
                  · rw [putM_new f1]; simp [g3]
                  · intro z hz
                    simp at hz
                    rcases hz with hz | rfl
                    · have := g4 z (by simpa using hz); omega
                    · simp
                  · simp only [Array.toList_push, List.map_append, List.map_cons, List.map_nil]
                    rw [List.nodup_append]
                    refine ⟨g5, by simp, fun a ha b hb => ?_⟩
                    simp at hb; subst hb
                    obtain ⟨z, hz, rfl⟩ := List.mem_map.1 ha
                    have := g4 z hz
                    omega
                  · rw [putM_new f1]
                    simp only [List.map_append, List.map_cons, List.map_nil]
                    rw [List.nodup_append]
                    refine ⟨g6, by simp, fun a ha b hb => ?_⟩
                    simp at hb; subst hb
                    intro e; subst e; exact f1 ha
                  · intro j z k v hz hv
                    rw [putM_new f1] at hv
                    simp only [Array.toList_push] at hz
                    by_cases hj : j < es.length
                    · rw [List.getElem?_append_left hj] at hv
                      rw [List.getElem?_append_left (by simpa [g3] using hj)] at hz
                      exact g7 j z k v hz hv
                    · rw [List.getElem?_append_right (by omega)] at hv
                      rw [List.getElem?_append_right (by simp [g3]; omega)] at hz
                      have hj0 : j - es.length = 0 := by have := (List.getElem?_eq_some_iff.1 hv).1; simp at this; omega
                      have hj1 : j - xs.toList.length = 0 := by simp [g3]; omega
                      rw [hj0] at hv; rw [hj1] at hz
                      simp at hv hz
                      obtain ⟨rfl, rfl⟩ := hv
                      subst hz
                      exact ⟨rfl, h1, hx⟩
                · exact below_setB g2
              · have hjx : j < xs.toList.length := (List.getElem?_eq_some_iff.1 f1).1
                have hyk := (g7 j y n v f1 f2).1
                have hstay : (Instr.keyThatStays (((xs[j]?).map (·.key)).getD (.int kd0 n)) (.int kd0 n)).run P w = .ok (.int kd0 n) w := by
                  have e1 : xs[j]? = some y := by simpa using f1
                  rw [e1]
                  simp only [Option.map_some, Option.getD_some, hyk]
                  rw [show (Instr.keyThatStays (.int kd0 n) (.int kd0 n)) = pure (.int kd0 n) from by unfold Instr.keyThatStays; rw [show (10000 : Nat) = 9999 + 1 from rfl]; simp [Instr.sameBits]]
                  rfl
                have hrun : (Instr.mapUpdate t (.map (some l.b)) (.int kd0 n) x').run P w = .ok () (setB w l.b (.map (xs.modify j fun e => { e with key := .int kd0 n, val := x' }) clk)) := by
                  rw [Nat.zero_add] at f3
                  have e1 : xs[j]? = some y := by simpa using f1
                  simp only [e1, Option.map_some, Option.getD_some] at hstay
                  simp [Instr.mapUpdate, run_underlying hu, hg, hchk, Instr.findKey, run_underlying hku, f3, hset, e1, hstay]
                have hmod : (xs.modify j fun e => { e with key := .int kd0 n, val := x' }).toList = xs.toList.set j { y with key := .int kd0 n, val := x' } := by
                  rw [Array.toList_modify]
                  apply List.ext_getElem?
                  intro q
                  rw [List.getElem?_modify, List.getElem?_set]
                  by_cases hq : j = q
                  · subst hq
                    rw [if_pos rfl, if_pos hjx, f1]; simp
                  · rw [if_neg hq]
                    cases xs.toList[q]? <;> simp [hq]
                refine ⟨_, hrun, ?_, below_setB g2⟩
                refine hr.setMap hi hl _ _ ⟨_, _, setB_same _ hlt, g2, ?_, ?_, ?_, ?_, ?_⟩
                · rw [putM_old f2 g6]; simp [g3]
                · intro z hz
                  rw [hmod] at hz
                  rcases List.mem_or_eq_of_mem_set hz with hz | rfl
                  · exact g4 z hz
                  · exact g4 y (List.mem_of_getElem? f1)
                · rw [hmod, List.map_set]
                  have : (xs.toList.map (·.born)).set j y.born = xs.toList.map (·.born) := by
                    apply List.ext_getElem?
                    intro q
                    rw [List.getElem?_set]
                    split
                    · rename_i e; subst e
                      rw [List.getElem?_map, f1]
                      simp
                      simpa using hjx
                    · rfl
                  rw [this]; exact g5
                · rw [putM_old f2 g6, List.map_set]
                  have : (es.map (·.1)).set j n = es.map (·.1) := by
                    apply List.ext_getElem?
                    intro q
                    rw [List.getElem?_set]
                    split
                    · rename_i e; subst e
                      rw [List.getElem?_map, f2]
                      have := (List.getElem?_eq_some_iff.1 f2).1
                      simp [this]
                    · rfl
                  rw [this]; exact g6
                · intro q z k v' hz hv
                  rw [putM_old f2 g6] at hv
                  rw [hmod] at hz
                  rw [List.getElem?_set] at hz hv
                  by_cases hq : j = q
                  · subst hq
                    have hje := (List.getElem?_eq_some_iff.1 f2).1
                    rw [if_pos rfl, if_pos hje] at hv
                    rw [if_pos rfl, if_pos hjx] at hz
                    simp at hv hz
                    obtain ⟨rfl, rfl⟩ := hv
                    subst hz
                    exact ⟨rfl, h1, hx⟩
                  · rw [if_neg hq] at hz hv
                    exact g7 q z k v' hz hv
            · cases hkA
          · cases hkA
      · cases h
    · cases h
  · cases h
end
end Go.Proofs.YtiifcfngbbhgoagDoor.Ax

namespace Go.Proofs.YtiifcfngbbhgoagDoor.Ax
open Go
structure Ent where
  o : Oper
  wanted : Bool
  eff : Bool
  no : Nat
  lo : Nat
  val : AV
  fr : List AV
def depOf (es : List Ent) (i : Nat) : Nat :=
  match es[i]? with
  | some e => if e.eff then e.no + 1 else e.lo
  | none => 0
def loOf (es : List Ent) : List Edge → Nat
  | [] => 0
  | d :: r => if Region.binds .any d then max (depOf es d.on) (loOf es r) else loOf es r
def countEff (es : List Ent) : Nat := (es.filter (·.eff)).length
def restr (ts : List Tmp) (fr : List AV) : List AV := fr.zipIdx.map fun (x, t) => if ts.contains t then x else .u
def lexA (P : Program) (call : CallA) (ops : Array Oper) : List Oper → List Ent → List Heap → List AV → Heap → Option (List Ent × List Heap × List AV × Heap)
  | [], es, Hs, fr, H => some (es, Hs, fr, H)
  | o :: rest, es, Hs, fr, H =>
    match wantA ops (restr (o.looksAt ops) fr) o.guard with
    | some true =>
      if isEff o.op then
        match oneOp P call o.op (restr (o.looksAt ops) fr) H with
        | some (v, H') => lexA P call ops rest (es ++ [⟨o, true, true, countEff es, loOf es o.after.toList, v, restr (o.looksAt ops) fr⟩]) (Hs ++ [H']) (putA fr o.dst v) H'
        | none => none
      else
        match opA P o.op (restr (o.looksAt ops) fr) H with
        | some (v, _) => lexA P call ops rest (es ++ [⟨o, true, false, countEff es, loOf es o.after.toList, v, restr (o.looksAt ops) fr⟩]) Hs (putA fr o.dst v) H
        | none => none
    | some false => lexA P call ops rest (es ++ [⟨o, false, false, countEff es, loOf es o.after.toList, .t [], restr (o.looksAt ops) fr⟩]) Hs (putA fr o.dst (.t [])) H
    | none => none
def behind (o : Oper) (i : Nat) : Bool := o.after.toList.any fun e => Region.binds .any e && e.on == i
mutual
def sameV : AV → AV → Bool
  | .u, .u | .p0, .p0 | .s0, .s0 | .se, .se | .sn, .sn | .m0, .m0 | .n, .n | .e, .e => true
  | .mp a, .mp b => a == b
  | .gp a, .gp b => a == b
  | .ip t a b, .ip u c d => t == u && a == c && b == d
  | .k a, .k b => a == b
  | .b a, .b b => a == b
  | .i k a, .i l b => k == l && a == b
  | .f k a, .f l b => k == l && a == b
  | .s a, .s b => a.toList == b.toList
  | .p a b, .p c d => a == c && b == d
  | .sl a b n, .sl c d m => a == c && b == d && n == m
  | .fn f a, .fn g b => f == g && sameVs a b
  | .g a, .g b => sameVs a b
  | .t a, .t b => sameVs a b
  | _, _ => false
def sameVs : List AV → List AV → Bool
  | [], [] => true
  | a :: r, b :: s => sameV a b && sameVs r s
  | _, _ => false
end
def floatOk (P : Program) (e : Ent) (Hs : List Heap) : Bool :=
  (Hs.drop e.lo).all fun H => match opA P e.o.op e.fr H with
    | some (v, _) => sameV v e.val
    | none => false
def slotsOk (ops : Array Oper) (l : List Oper) : Bool :=
  l.zipIdx.all fun (o, k) => (o.looksAt ops).all fun t => l.zipIdx.all fun (o', i) => o'.dst != some t || i == k || behind o i || behind o' k
def edgesOk (l : List Oper) : Bool :=
  l.zipIdx.all fun (o, k) => o.after.toList.all fun e => !Region.binds .any e || e.on < k
def dstsOk (l : List Oper) : Bool :=
  l.zipIdx.all fun (o, k) => l.zipIdx.all fun (o', i) => i == k || o.dst == none || o'.dst != o.dst
def hiOf (es : List Ent) (i : Nat) : Nat := es.foldr (fun E m => if E.eff && behind E.o i then min E.no m else m) es.length
def drawA (P : Program) (call : CallA) (ops : Array Oper) (fr : List AV) (H : Heap) : Option (List AV × Heap) :=
  if P.follows .mixedOrders && edgesOk ops.toList && slotsOk ops ops.toList && dstsOk ops.toList then
    match lexA P call ops ops.toList [] [H] fr H with
    | some (es, Hs, fr', H') =>
      if es.zipIdx.all (fun x => if x.1.eff then x.1.no ≤ x.1.lo else !x.1.wanted || floatOk P x.1 (Hs.take (hiOf es x.2 + 1))) then some (fr', H') else none
    | none => none
  else none
def run (P : Program) (S : CallA) (n : Nat) : CallA := callWith P S (exec P S (drawA P) n)
end Go.Proofs.YtiifcfngbbhgoagDoor.Ax

namespace Go.Proofs.YtiifcfngbbhgoagDoor.Ax
open Go Go.RowKit
section
variable {P : Program} {ρ : Nat → Value} {base : Nat} {μ : List Loc} {H : Heap} {w : World} {fr : List AV} {a : Act}
theorem wp_of_fine {o : Oper} {K : Act → World → Prop} {Q : Exit → Act → World → Prop} {v : AV} {H' : Heap} {s : Sem Value} (he : execOp a.eval o = (do pure (.value (← s)))) (hf : Fine P ρ base μ w v H' (s.run P w))
    (hK : ∀ v' w' μ', Ext μ μ' → VR ρ μ' v v' → HR P ρ base μ' H' w' → Below base w w' → K (a.put o.dst v') w') : o.wp P a w K Q := by
  obtain ⟨v', w', μ', hrun, h1, h2, h3, h4⟩ := hf
  unfold Oper.wp
  rw [he]
  simp only [Sem.run_bind, hrun, Result.andThen_ok, Sem.run_pure]
  exact hK v' w' μ' h1 h2 h3 h4
theorem parts_arr (a : Act) (parts : Array (Nat × Operand)) : (parts.toList.map fun (i, x) => (i, a.eval x)).toArray = parts.map fun (i, x) => (i, a.eval x) := by apply Array.ext'; simp
theorem exec_builtin {o : Oper} {b : Builtin} {args : Array Operand} {argTypes : Array TypeId} (hop : o.op = .call { callee := .builtin b, args, argTypes }) {vs : Array Value} (hv : args.map a.eval = vs) {s : Sem Value}
    (hs : ∀ consts, builtin b argTypes o.type consts vs = (do pure (.value (← s)))) : execOp a.eval o = (do pure (.value (← s))) := by
  unfold execOp
  rw [hop]
  simp only [resolve, hv]
  exact hs _
theorem opA_wp (hρ : ∀ j, (ρ j).oneCell' = true) (hr : HR P ρ base μ H w) (hf : FR ρ μ fr a.tmps) {o : Oper} {v : AV} {H' : Heap} (h : opA P o.op fr H = some (v, H')) {K : Act → World → Prop} {Q : Exit → Act → World → Prop}
    (hK : ∀ v' w' μ', Ext μ μ' → VR ρ μ' v v' → HR P ρ base μ' H' w' → Below base w w' → K (a.put o.dst v') w') : o.wp P a w K Q := by
  have pu : ∀ {r : Option AV} {s : Sem Value}, (r.map fun v => (v, H)) = some (v, H') → execOp a.eval o = (do pure (.value (← s))) → (∀ v, r = some v → Fine P ρ base μ w v H (s.run P w)) → o.wp P a w K Q := by
    intro r s hr1 he hs
    obtain ⟨v0, rfl, hh⟩ := Option.map_eq_some_iff.1 hr1
    simp at hh
    obtain ⟨rfl, rfl⟩ := hh
    exact wp_of_fine he (hs _ rfl) hK
  unfold opA at h
  generalize hop : o.op = op at h
  cases op with
  | move x =>
    exact pu h (s := pure (a.eval x)) (by unfold execOp; rw [hop]; rfl) fun v hv => fine_pure hr (ev_VR hv hf)
  | assign x =>
    exact pu h (s := pure (a.eval x)) (by unfold execOp; rw [hop]; rfl) fun v hv => fine_pure hr (ev_VR hv hf)
  | pick c x y =>
    simp only at h
    have he : ∀ b, a.eval c = .bool b → execOp a.eval o = (do pure (.value (if b then a.eval x else a.eval y))) := by
      intro b hb; unfold execOp; rw [hop]; simp only [hb]; rfl
    split at h
    · rename_i hc
      have hb := ev_VR hc hf
      generalize hcv : a.eval c = cv at hb
      cases hb
      exact pu h (s := pure (a.eval x)) (by rw [he _ hcv]; rfl) fun v hv => fine_pure hr (ev_VR hv hf)
    · rename_i hc
      have hb := ev_VR hc hf
      generalize hcv : a.eval c = cv at hb
      cases hb
      exact pu h (s := pure (a.eval y)) (by rw [he _ hcv]; rfl) fun v hv => fine_pure hr (ev_VR hv hf)
    · cases h
  | alloc e =>
    obtain ⟨z, hz, h⟩ := Option.bind_eq_some_iff.1 h
    obtain ⟨⟨i, H1⟩, hn, hh⟩ := Option.map_eq_some_iff.1 h
    simp at hh
    obtain ⟨rfl, rfl⟩ := hh
    obtain ⟨zv, hzr, hzv, _⟩ := run_zeroA hz
    refine wp_of_fine (s := Instr.alloc e true (.tuple #[])) (by unfold execOp; rw [hop]) ?_ hK
    have hzc := (ofV_VR (ρ := ρ) (μ := μ) hzv).cells hρ (newBlk_some hn).2.2
    obtain ⟨μ', hext, hloc, hr', hbel⟩ := fine_new hr (kn := .vr) rfl hn hzc [] 0 (by simp) false (by simp)
    refine ⟨.pointer (some ⟨w.heap.size, 0, none⟩), _, μ', ?_, hext, .p hloc, hr', hbel⟩
    simp [Instr.alloc, hzr, newVar, newRow]
  | box e x =>
    obtain ⟨z, hz, h⟩ := Option.bind_eq_some_iff.1 h
    obtain ⟨⟨i, H1⟩, hn, hh⟩ := Option.map_eq_some_iff.1 h
    simp at hh
    obtain ⟨rfl, rfl⟩ := hh
    refine wp_of_fine (s := Instr.box e (a.eval x)) (by unfold execOp; rw [hop]) ?_ hK
    have hzc := (ev_VR hz hf).cells hρ (newBlk_some hn).2.2
    obtain ⟨μ', hext, hloc, hr', hbel⟩ := fine_new hr (kn := .vr) rfl hn hzc [] 0 (by simp) false (by simp)
    refine ⟨.pointer (some ⟨w.heap.size, 0, none⟩), _, μ', ?_, hext, .p hloc, hr', hbel⟩
    simp [Instr.box, newVar, newRow]
  | build t parts =>
    obtain ⟨ps, hps, h⟩ := Option.bind_eq_some_iff.1 h
    refine pu h (s := Instr.build t (parts.map fun (i, x) => (i, a.eval x))) (by unfold execOp; rw [hop]) fun v hv => ?_
    have := build_fine hρ hr (evs_PR hf hps) hv
    rwa [parts_arr] at this
  | buildSlice t len parts =>
    obtain ⟨ps, hps, h⟩ := Option.bind_eq_some_iff.1 h
    refine wp_of_fine (s := Instr.buildSlice t len (parts.map fun (i, x) => (i, a.eval x))) (by unfold execOp; rw [hop]) ?_ hK
    have := buildSlice_fine hρ hr (evs_PR hf hps) h
    rwa [parts_arr] at this
  | load t x =>
    obtain ⟨p, hp, h⟩ := Option.bind_eq_some_iff.1 h
    exact pu h (s := Instr.loadAt t (a.eval x)) (by unfold execOp; rw [hop]) fun v hv => load_fine hr hv (ev_VR hp hf)
  | store t x y =>
    obtain ⟨p, hp, h⟩ := Option.bind_eq_some_iff.1 h
    obtain ⟨q, hq, h⟩ := Option.bind_eq_some_iff.1 h
    obtain ⟨H1, hs, hh⟩ := Option.map_eq_some_iff.1 h
    simp at hh
    obtain ⟨rfl, rfl⟩ := hh
    obtain ⟨w', hrun, hr', hbel⟩ := store_fine hρ hr hs (ev_VR hp hf) (ev_VR hq hf)
    unfold Oper.wp execOp
    rw [hop]
    simp only [Sem.run_bind, hrun, Result.andThen_ok, Sem.run_pure]
    exact hK undef w' μ (Ext.refl _) (.u _) hr' hbel
  | nilCheck x =>
    obtain ⟨p, hp, h⟩ := Option.bind_eq_some_iff.1 h
    have hx := ev_VR hp hf
    obtain ⟨v0, hv0, hh⟩ := Option.map_eq_some_iff.1 h
    simp at hh
    obtain ⟨rfl, rfl⟩ := hh
    unfold nilCheckA at hv0
    split at hv0
    · simp at hv0; subst hv0
      generalize hxv : a.eval x = xv at hx
      cases hx with
      | p hl =>
        refine wp_of_fine (s := pure (.pointer (some ⟨_, _, none⟩))) (by unfold execOp; rw [hop]; simp only [hxv]; rfl) (fine_pure hr (.p hl)) hK
    · cases hv0
  | binOp op t x y yt =>
    obtain ⟨p, hp, h⟩ := Option.bind_eq_some_iff.1 h
    obtain ⟨q, hq, h⟩ := Option.bind_eq_some_iff.1 h
    exact pu h (s := do eqGuard op t x y (a.eval x) (a.eval y); binOp op t (a.eval x) (a.eval y)) (by unfold execOp; rw [hop]) fun v hv => bin_fine hr hv (ev_VR hp hf) (ev_VR hq hf)
  | unOp op t x =>
    obtain ⟨p, hp, h⟩ := Option.bind_eq_some_iff.1 h
    exact pu h (s := Op.unary op (a.eval x)) (by unfold execOp; rw [hop]) fun v hv => un_fine hr hv (ev_VR hp hf)
  | convert s t x =>
    obtain ⟨p, hp, h⟩ := Option.bind_eq_some_iff.1 h
    refine wp_of_fine (s := convert s t (a.eval x)) (by unfold execOp; rw [hop]) ?_ hK
    split at h
    · rename_i v1 hc
      simp only [Option.some.injEq, Prod.mk.injEq] at h
      obtain ⟨rfl, rfl⟩ := h
      exact conv_fine hr hc (ev_VR hp hf)
    · split at h
      · rename_i v1 hc
        simp only [Option.some.injEq, Prod.mk.injEq] at h
        obtain ⟨rfl, rfl⟩ := h
        exact strA_fine hr hc (ev_VR hp hf)
      · exact bytesOfA_fine hr h (ev_VR hp hf)
  | makeSlice t l c =>
    obtain ⟨p, hp, h⟩ := Option.bind_eq_some_iff.1 h
    obtain ⟨q, hq, h⟩ := Option.bind_eq_some_iff.1 h
    exact wp_of_fine (s := Instr.makeSlice t (a.eval l) (a.eval c)) (by unfold execOp; rw [hop]) (makeSlice_fine hρ hr h (ev_VR hp hf) (ev_VR hq hf)) hK
  | slice t x lo hi mx =>
    cases mx with
    | some m =>
      cases lo with
      | some _ => simp at h
      | none =>
        cases hi with
        | none => simp at h
        | some hh =>
          simp only at h
          obtain ⟨p, hp, h⟩ := Option.bind_eq_some_iff.1 h
          obtain ⟨q, hq, h⟩ := Option.bind_eq_some_iff.1 h
          obtain ⟨r, hrr, h⟩ := Option.bind_eq_some_iff.1 h
          exact pu h (s := Instr.sliceAt t (a.eval x) none (some (a.eval hh)) (some (a.eval m))) (by unfold execOp; rw [hop]; rfl) fun v hv => sliceMax_fine hr hv (ev_VR hp hf) (ev_VR hq hf) (ev_VR hrr hf)
    | none =>
      simp only at h
      obtain ⟨p, hp, h⟩ := Option.bind_eq_some_iff.1 h
      have hx := ev_VR hp hf
      cases lo with
      | some l =>
        cases hi with
        | some r =>
          simp only at h
          obtain ⟨q, hq, h⟩ := Option.bind_eq_some_iff.1 h
          obtain ⟨q2, hq2, h⟩ := Option.bind_eq_some_iff.1 h
          refine pu h (s := Instr.sliceAt t (a.eval x) (some (a.eval l)) (some (a.eval r)) none) (by unfold execOp; rw [hop]; rfl) fun v hv => ?_
          exact slice_fine hr hv hx (fun l' e => by cases e; exact ⟨_, rfl, ev_VR hq hf⟩) (fun e => by cases e) (fun l' e => by cases e; exact ⟨_, rfl, ev_VR hq2 hf⟩) (fun e => by cases e)
        | none =>
          simp only at h
          obtain ⟨q, hq, h⟩ := Option.bind_eq_some_iff.1 h
          refine pu h (s := Instr.sliceAt t (a.eval x) (some (a.eval l)) none none) (by unfold execOp; rw [hop]; rfl) fun v hv => ?_
          exact slice_fine hr hv hx (fun l' e => by cases e; exact ⟨_, rfl, ev_VR hq hf⟩) (fun e => by cases e) (fun l' e => by cases e) (fun _ => rfl)
      | none =>
        cases hi with
        | some r =>
          simp only at h
          obtain ⟨q, hq, h⟩ := Option.bind_eq_some_iff.1 h
          refine pu h (s := Instr.sliceAt t (a.eval x) none (some (a.eval r)) none) (by unfold execOp; rw [hop]; rfl) fun v hv => ?_
          exact slice_fine hr hv hx (fun l' e => by cases e) (fun _ => rfl) (fun l' e => by cases e; exact ⟨_, rfl, ev_VR hq hf⟩) (fun e => by cases e)
        | none =>
          simp only at h
          exact pu h (s := Instr.sliceAt t (a.eval x) none none none) (by unfold execOp; rw [hop]; rfl) fun v hv => sliceArr_fine hr hv hx
  | makeInterface t x =>
    obtain ⟨p, hp, h⟩ := Option.bind_eq_some_iff.1 h
    exact pu h (s := Instr.makeInterface t (a.eval x)) (by unfold execOp; rw [hop]) fun v hv => iface_fine hr hv (ev_VR hp hf)
  | fieldAddr t x k =>
    obtain ⟨p, hp, h⟩ := Option.bind_eq_some_iff.1 h
    exact pu h (s := Instr.fieldAt t (a.eval x) k) (by unfold execOp; rw [hop]) fun v hv => fieldAddr_fine hr hv (ev_VR hp hf)
  | field t x k =>
    obtain ⟨p, hp, h⟩ := Option.bind_eq_some_iff.1 h
    exact pu h (s := Instr.field t (a.eval x) k) (by unfold execOp; rw [hop]) fun v hv => field_fine hr hv (ev_VR hp hf)
  | indexAddr t x k =>
    obtain ⟨p, hp, h⟩ := Option.bind_eq_some_iff.1 h
    obtain ⟨q, hq, h⟩ := Option.bind_eq_some_iff.1 h
    exact pu h (s := Instr.indexAt t (a.eval x) (a.eval k)) (by unfold execOp; rw [hop]) fun v hv => indexAddr_fine hr hv (ev_VR hp hf) (ev_VR hq hf)
  | index t x k =>
    obtain ⟨p, hp, h⟩ := Option.bind_eq_some_iff.1 h
    obtain ⟨q, hq, h⟩ := Option.bind_eq_some_iff.1 h
    exact pu h (s := Instr.index t (a.eval x) (a.eval k)) (by unfold execOp; rw [hop]) fun v hv => index_fine hr hv (ev_VR hp hf) (ev_VR hq hf)
  | extract x k =>
    simp only at h
    split at h
    · rename_i vs hp
      have hx := ev_VR hp hf
      generalize hxv : a.eval x = xv at hx
      cases hx with
      | t hl hh =>
        rename_i us
        refine pu h (s := Instr.extract (.tuple us.toArray) k) (by unfold execOp; rw [hop]; simp only [hxv]) fun v hv => ?_
        obtain ⟨u, hu, huv⟩ := (show VRs ρ μ vs us from ⟨hl, hh⟩).at hv
        have : (Instr.extract (.tuple us.toArray) k).run P w = .ok u w := by simp [Instr.extract, hu]
        rw [this]
        exact fine_pure hr huv
    · cases h
  | makeMap t r =>
    cases r with
    | some r => simp at h
    | none =>
      simp only at h
      exact wp_of_fine (s := Instr.makeMap t none) (by unfold execOp; rw [hop]; rfl) (makeMap_fine hr h) hK
  | mapUpdate t m k x =>
    obtain ⟨a1, h1, h⟩ := Option.bind_eq_some_iff.1 h
    obtain ⟨a2, h2, h⟩ := Option.bind_eq_some_iff.1 h
    obtain ⟨a3, h3, h⟩ := Option.bind_eq_some_iff.1 h
    obtain ⟨H1, hs, hh⟩ := Option.map_eq_some_iff.1 h
    simp at hh
    obtain ⟨rfl, rfl⟩ := hh
    obtain ⟨w', hrun, hr', hbel⟩ := mapSet_fine hr hs (ev_VR h1 hf) (ev_VR h2 hf) (ev_VR h3 hf)
    unfold Oper.wp execOp
    rw [hop]
    simp only [Sem.run_bind, hrun, Result.andThen_ok, Sem.run_pure]
    exact hK undef w' μ (Ext.refl _) (.u _) hr' hbel
  | makeFunc fn first caps =>
    cases fn with
    | func f =>
      simp only at h
      split at h
      · rename_i h0
        obtain ⟨cs, hcs, h⟩ := Option.bind_eq_some_iff.1 h
        have hv := evl_VRs hf hcs
        refine pu h (s := Instr.makeFunc (.func f) (first.map a.eval) (caps.map a.eval)) (by unfold execOp; rw [hop]) fun v hv' => ?_
        split at hv'
        · simp at hv'; subst hv'
          have e1 : first.map a.eval = #[] := by
            have : first = #[] := Array.eq_empty_of_size_eq_zero h0
            rw [this, Array.map_empty]
          have e2 : caps.map a.eval = (caps.toList.map a.eval).toArray := by apply Array.ext'; rw [Array.toList_map]
          rw [e1, e2]
          exact fine_pure hr (.fn hv.1 hv.2)
        · cases hv'
      · cases h
    | _ => simp at h
  | call c =>
    obtain ⟨callee, args, argTypes⟩ := c
    cases callee with
    | builtin b =>
      simp only at h
      have hargs : ∀ l, args.toList = l → args = l.toArray := fun l e => by rw [← e]
      split at h
      · rename_i x t hx1 hx2
        obtain ⟨p, hp, h⟩ := Option.bind_eq_some_iff.1 h
        refine pu h (s := Builtin.len_ #[t] o.type #[a.eval x]) (exec_builtin hop (vs := #[a.eval x]) (by rw [hargs _ hx1]; simp) fun consts => by
          have : argTypes = #[t] := by rw [← Array.toArray_toList (xs := argTypes), hx2]
          rw [this]; rfl) fun v hv => by
          cases hl : lenA P t p with
          | some w => rw [hl] at hv; cases hv; exact len_fine hr hl (ev_VR hp hf)
          | none => rw [hl] at hv; exact lenM_fine hr hv (ev_VR hp hf)
      · rename_i x y hx1
        obtain ⟨p, hp, h⟩ := Option.bind_eq_some_iff.1 h
        obtain ⟨q, hq, h⟩ := Option.bind_eq_some_iff.1 h
        refine pu h (s := Builtin.max_ argTypes o.type #[a.eval x, a.eval y]) (exec_builtin hop (vs := #[a.eval x, a.eval y]) (by rw [hargs _ hx1]; simp) fun consts => rfl) fun v hv => max_fine hr hv (ev_VR hp hf) (ev_VR hq hf)
      · rename_i x y hx1
        obtain ⟨p, hp, h⟩ := Option.bind_eq_some_iff.1 h
        obtain ⟨q, hq, h⟩ := Option.bind_eq_some_iff.1 h
        refine pu h (s := Builtin.min_ argTypes o.type #[a.eval x, a.eval y]) (exec_builtin hop (vs := #[a.eval x, a.eval y]) (by rw [hargs _ hx1]; simp) fun consts => rfl) fun v hv => min_fine hr hv (ev_VR hp hf) (ev_VR hq hf)
      · rename_i s x t1 t2 hx1 hx2
        obtain ⟨p, hp, h⟩ := Option.bind_eq_some_iff.1 h
        obtain ⟨q, hq, h⟩ := Option.bind_eq_some_iff.1 h
        have he : execOp a.eval o = (do pure (.value (← Builtin.append_ #[t1, t2] o.type #[a.eval s, a.eval x]))) := by
          refine exec_builtin hop (vs := #[a.eval s, a.eval x]) (by rw [hargs _ hx1]; simp) fun consts => ?_
          have : argTypes = #[t1, t2] := by rw [← Array.toArray_toList (xs := argTypes), hx2]
          rw [this]; rfl
        split at h
        · rename_i hu
          exact wp_of_fine he (append_fine hρ hr h (.inl hu) (fun _ => rfl) (ev_VR hp hf) (ev_VR hq hf)) hK
        · rename_i e' hu
          split at h
          · rename_i e12
            obtain ⟨e12, hns⟩ := e12
            have h3 := h
            subst e12
            refine wp_of_fine he (append_fine hρ hr h3 (.inr ⟨_, hu⟩) (fun hb => ?_) (ev_VR hp hf) (ev_VR hq hf)) hK
            obtain ⟨bs, rfl⟩ := hb
            cases hns
          · cases h
        · rename_i k0 hu
          exact wp_of_fine he (appendZ_fine hρ hr h hu (ev_VR hp hf) (ev_VR hq hf)) hK
        · cases h
      · rename_i d x t1 t2 hx1 hx2
        obtain ⟨p, hp, h⟩ := Option.bind_eq_some_iff.1 h
        obtain ⟨q, hq, h⟩ := Option.bind_eq_some_iff.1 h
        have he : execOp a.eval o = (do pure (.value (← Builtin.copy_ #[t1, t2] o.type #[a.eval d, a.eval x]))) := by
          refine exec_builtin hop (vs := #[a.eval d, a.eval x]) (by rw [hargs _ hx1]; simp) fun consts => ?_
          have : argTypes = #[t1, t2] := by rw [← Array.toArray_toList (xs := argTypes), hx2]
          rw [this]; rfl
        exact wp_of_fine he (copy_fine hρ hr h (ev_VR hp hf) (ev_VR hq hf)) hK
      · cases h
    | _ => simp at h
  | _ => simp at h
end
end Go.Proofs.YtiifcfngbbhgoagDoor.Ax

namespace Go.Proofs.YtiifcfngbbhgoagDoor.Ax
open Go Go.RowKit
def exitOf : AX → Exit
  | .normal => .normal
  | .ret => .ret
  | .exit i => .exit i
  | .goto l => .goto l
def Meets (P : Program) (ρ : Nat → Value) (base : Nat) (μ : List Loc) (w : World) (v : AV) (H' : Heap) (e : Ending) (w' : World) : Prop :=
  ∃ v' μ', e = .returned v' ∧ Ext μ μ' ∧ VR ρ μ' v v' ∧ HR P ρ base μ' H' w' ∧ Below base w w'
def Bodied (P : Program) (f : FuncId) : Prop := ∃ fn, P.funcs[f]? = some fn ∧ fn.body.isSome = true
def Bare (P : Program) (ρ : Nat → Value) (f : FuncId) (args : List AV) (H : Heap) (v : AV) (H' : Heap) : Prop :=
  ¬ Bodied P f ∧ H' = H ∧ ∀ (μ : List Loc) (w : World) (vs : List Value), VRs ρ μ args vs → ∃ v', VR ρ μ v v' ∧ (callFunc f vs.toArray).run P w = .ok (.value v') w
def CallSound (P : Program) (ρ : Nat → Value) (base : Nat) (call : CallA) : Prop :=
  ∀ (f : FuncId) (args : List AV) (H : Heap) (v : AV) (H' : Heap), call f args H = some (v, H') → (Bodied P f ∧
    ∀ (μ : List Loc) (w : World) (vs : List Value), HR P ρ base μ H w → VRs ρ μ args vs → Calls P f vs.toArray w (Meets P ρ base μ w v H')) ∨ Bare P ρ f args H v H'
theorem CallSound.at_ {P : Program} {ρ : Nat → Value} {base : Nat} {call : CallA} (h : CallSound P ρ base call) {f : FuncId} (hb : Bodied P f) {args : List AV} {H : Heap} {v : AV} {H' : Heap} (hc : call f args H = some (v, H')) {μ : List Loc} {w : World} {vs : List Value} (hr : HR P ρ base μ H w) (hv : VRs ρ μ args vs) : Calls P f vs.toArray w (Meets P ρ base μ w v H') := by
  rcases h f args H v H' hc with h | h
  · exact h.2 μ w vs hr hv
  · exact absurd hb h.1
def DrawSound (P : Program) (ρ : Nat → Value) (base : Nat) (draw : CallA → Array Oper → List AV → Heap → Option (List AV × Heap)) : Prop :=
  ∀ call, CallSound P ρ base call → ∀ id ops fr H fr' H', draw call ops fr H = some (fr', H') → ∀ μ a w Q, HR P ρ base μ H w → FR ρ μ fr a.tmps →
    (∀ a' w' μ', Ext μ μ' → FR ρ μ' fr' a'.tmps → a'.defers = a.defers → HR P ρ base μ' H' w' → Below base w w' → Q .normal a' w') → (Code.region id ops true).wp P Q a w
def NoCount (P : Program) : Prop := ∀ (f : FuncId) (fn : Func), P.funcs[f]? = some fn → (fn.name == "runtime.NumGoroutine") = false
def resOf (tmps : Array Value) : ResultVar → Sem Value
  | .tmp t => pure (tmps.getD t undef)
  | .cell a t => do loadVar t (← asAddr (tmps.getD a undef))
section
variable {P : Program} {ρ : Nat → Value} {base : Nat} {μ : List Loc} {H : Heap} {w : World} {fr : List AV} {a : Act}
theorem VR.undef : VR ρ μ (.t []) undef := .t (vs := []) rfl (fun j x v h => by simp at h)
theorem FR.put (hf : FR ρ μ fr a.tmps) {d : Option Tmp} {v : AV} {v' : Value} (hv : VR ρ μ v v') : FR ρ μ (putA fr d v) (a.put d v').tmps := by
  cases d with
  | none => exact hf
  | some d =>
    simp only [putA, Act.put]
    refine ⟨by simp [hf.1], fun j x u p q => ?_⟩
    rw [Array.toList_setIfInBounds, List.getElem?_set] at q
    rw [List.getElem?_set] at p
    split at p
    · rename_i e
      subst e
      rw [if_pos rfl] at q
      split at p
      · rename_i h1
        rw [if_pos (by rw [← hf.1]; exact h1)] at q
        simp at p q
        subst p; subst q
        exact hv
      · cases p
    · rename_i e
      rw [if_neg e] at q
      exact hf.2 j x u p q
theorem put_defers (a : Act) (d : Option Tmp) (v : Value) : (a.put d v).defers = a.defers := by cases d <;> rfl
theorem want_eq (hf : FR ρ μ fr a.tmps) {ops : Array Oper} {o : Oper} {b : Bool} (h : wantA ops fr o.guard = some b) : Region.wanted o (yielded ops a.tmps) = b := by
  unfold wantA at h
  unfold Region.wanted
  split at h
  · rename_i hg; simp at h; subst h; simp [hg]
  · rename_i j wnt hg
    simp only [hg]
    split at h
    · rename_i d hd
      split at h
      · rename_i x hx
        simp at h
        obtain ⟨u, hu, huv⟩ := VRs.at hf hx
        cases huv
        unfold yielded
        rw [Array.getElem?_toList] at hu
        simp only [hd, Option.bind_some, hu]
        rw [← h]
        cases x <;> cases wnt <;> rfl
      · rename_i vs hx
        simp at h
        subst h
        obtain ⟨u, hu, huv⟩ := VRs.at hf hx
        cases huv
        unfold yielded
        rw [Array.getElem?_toList] at hu
        simp only [hd, Option.bind_some, hu]
        cases wnt <;> rfl
      · cases h
    · cases h
theorem met_run {t : TypeId} {name : String} {f : FuncId} (h : metA P t name = some f) (w : World) (p : Option Addr) (args : Array Value) : (callMethod (.iface t (.pointer p)) name args).run P w = (callFunc f (#[.pointer p] ++ args)).run P w := by
  unfold metA at h
  split at h
  rotate_left
  · cases h
  rename_i i e hi hu
  split at h
  rotate_left
  · cases h
  rename_i m hm
  split at h
  rotate_left
  · cases h
  rename_i f' hp hf
  simp only [Option.some.injEq] at h
  subst h
  obtain ⟨n, hn⟩ : ∃ n, P.types.size + Made.depth = n + 1 := ⟨P.types.size + (Made.depth - 1), by simp [Made.depth]⟩
  have hti : (typeInfo t).run P w = .ok i w := by simp [typeInfo, hi]
  simp only [callMethod, Sem.run_bind, run_program, Result.andThen_ok, hn, method, hti, hm, hp, hf, follow, Sem.run_pure, receiverAt, run_underlying hu, Place.get]
theorem oneOp_wp (hρ : ∀ j, (ρ j).oneCell' = true) (hN : NoCount P) {call : CallA} (hc : CallSound P ρ base call) (hr : HR P ρ base μ H w) (hf : FR ρ μ fr a.tmps) {o : Oper} {v : AV} {H' : Heap} (h : oneOp P call o.op fr H = some (v, H')) {K : Act → World → Prop} {Q : Exit → Act → World → Prop}
    (hK : ∀ v' w' μ', Ext μ μ' → VR ρ μ' v v' → HR P ρ base μ' H' w' → Below base w w' → K (a.put o.dst v') w') : o.wp P a w K Q := by
  unfold oneOp at h
  split at h
  · rename_i f args argTypes hop
    split at h
    · rename_i fid caps as hfv has
      have h1 := ev_VR hfv hf
      have h2 := evl_VRs hf has
      generalize hfx : a.eval f = fx at h1
      cases h1 with
      | fn hl hh =>
        rename_i cvs
        have hargs : VRs ρ μ (as ++ caps) (args.toList.map a.eval ++ cvs) := h2.append ⟨hl, hh⟩
        rcases hc _ _ _ _ _ h with ⟨⟨fn, hfn, hb⟩, hcalls⟩ | ⟨_, hH, hbare⟩
        rotate_left
        · obtain ⟨v', hv', hrun⟩ := hbare μ w _ hargs
          subst hH
          unfold Oper.wp execOp
          rw [hop]
          have hres : (do let d ← resolve a.eval { callee := .value f, args := args, argTypes := argTypes } o.type; invoke d.target d.args : Sem Next).run P w = .ok (.value v') w := by
            simp only [resolve, hfx, Deferred.ofValue, Sem.run_bind, Sem.run_pure, Result.andThen_ok, invoke]
            have he : (#[] ++ args.map a.eval) ++ cvs.toArray = (args.toList.map a.eval ++ cvs).toArray := by
              apply Array.ext'
              simp
            rw [← hrun, ← he]
          simp only [hres]
          exact hK v' w μ (Ext.refl _) hv' hr (Below.refl _ _)
        have hcall := hcalls μ w _ hr hargs
        unfold Oper.wp execOp
        rw [hop]
        have hres : (do let d ← resolve a.eval { callee := .value f, args := args, argTypes := argTypes } o.type; invoke d.target d.args : Sem Next).run P w = .ok (.enter fid ((args.toList.map a.eval ++ cvs).toArray)) w := by
          have hnn : (fn.name == "runtime.NumGoroutine") = false := hN fid fn hfn
          obtain ⟨c, hcb⟩ := Option.isSome_iff_exists.1 hb
          have hbn : fn.body.isNone = false := by simp [hcb]
          simp only [resolve, hfx, Deferred.ofValue, Sem.run_bind, Sem.run_pure, Result.andThen_ok, invoke, callFunc, run_program, hfn, hnn, hbn, if_false, Bool.false_eq_true]
          congr 2
          apply Array.ext'
          simp
        simp only [hres]
        show Calls P fid _ w _
        refine hcall.mono fun e w' hm => ?_
        obtain ⟨v', μ', rfl, e1, e2, e3, e4⟩ := hm
        exact hK v' w' μ' e1 e2 e3 e4
    · cases h
  · rename_i x name args argTypes hop
    split at h
    rotate_left
    · cases h
    rename_i t i o' as hxv has
    split at h
    rotate_left
    · cases h
    rename_i fid hmet
    have h1 := ev_VR hxv hf
    have h2 := evl_VRs hf has
    generalize hfx : a.eval x = fx at h1
    cases h1 with
    | ip hl =>
      rename_i lc
      have hargs : VRs ρ μ (.p i o' :: as) (.pointer (some ⟨lc.b, o', none⟩) :: args.toList.map a.eval) := .cons (.p hl) h2
      have hcm : ∀ args', (callMethod (.iface t (.pointer (some ⟨lc.b, o', none⟩))) name args').run P w = (callFunc fid (#[.pointer (some ⟨lc.b, o', none⟩)] ++ args')).run P w := fun args' => met_run hmet w _ args'
      have hea : (#[a.eval x] ++ args.map a.eval).extract 1 (#[a.eval x] ++ args.map a.eval).size = args.map a.eval := by
        apply Array.ext'
        simp
        rw [List.take_of_length_le (by simp)]
      have hea0 : (#[a.eval x] ++ args.map a.eval)[0]? = some (a.eval x) := by
        rw [Array.getElem?_append_left (by simp)]; rfl
      have hri : (do let d ← resolve a.eval { callee := .invoke x name, args := args, argTypes := argTypes } o.type; invoke d.target d.args : Sem Next).run P w = (callFunc fid ((.pointer (some ⟨lc.b, o', none⟩) :: args.toList.map a.eval).toArray)).run P w := by
        simp only [resolve, Sem.run_bind, Sem.run_pure, Result.andThen_ok, invoke, hea, hea0]
        rw [hfx, hcm]
        congr 2
        apply Array.ext'
        simp
      rcases hc _ _ _ _ _ h with ⟨⟨fn, hfn, hb⟩, hcalls⟩ | ⟨_, hH, hbare⟩
      rotate_left
      · obtain ⟨v', hv', hrun⟩ := hbare μ w _ hargs
        subst hH
        unfold Oper.wp execOp
        rw [hop]
        simp only [hri, hrun]
        exact hK v' w μ (Ext.refl _) hv' hr (Below.refl _ _)
      have hcall := hcalls μ w _ hr hargs
      unfold Oper.wp execOp
      rw [hop]
      have hres : (callFunc fid ((.pointer (some ⟨lc.b, o', none⟩) :: args.toList.map a.eval).toArray)).run P w = .ok (.enter fid ((.pointer (some ⟨lc.b, o', none⟩) :: args.toList.map a.eval).toArray)) w := by
        have hnn : (fn.name == "runtime.NumGoroutine") = false := hN fid fn hfn
        obtain ⟨c, hcb⟩ := Option.isSome_iff_exists.1 hb
        have hbn : fn.body.isNone = false := by simp [hcb]
        simp only [callFunc, Sem.run_bind, Sem.run_pure, Result.andThen_ok, run_program, hfn, hnn, hbn, if_false, Bool.false_eq_true]
      simp only [hri, hres]
      show Calls P fid _ w _
      refine hcall.mono fun e w' hm => ?_
      obtain ⟨v', μ', rfl, e1, e2, e3, e4⟩ := hm
      exact hK v' w' μ' e1 e2 e3 e4
  · exact opA_wp hρ hr hf h hK
theorem opsA_wp (hρ : ∀ j, (ρ j).oneCell' = true) (hN : NoCount P) {call : CallA} (hc : CallSound P ρ base call) {ops : Array Oper} {Q : Exit → Act → World → Prop} :
    ∀ (l : List Oper) (fr : List AV) (H : Heap) (fr' : List AV) (H' : Heap) (μ : List Loc) (a : Act) (w : World), opsA P call ops l fr H = some (fr', H') → HR P ρ base μ H w → FR ρ μ fr a.tmps →
    (∀ a' w' μ', Ext μ μ' → FR ρ μ' fr' a'.tmps → a'.defers = a.defers → HR P ρ base μ' H' w' → Below base w w' → Q .normal a' w') → wpList P ops Q l a w
  | [], fr, H, fr', H', μ, a, w, h, hr, hf, hQ => by
    simp [opsA] at h
    obtain ⟨rfl, rfl⟩ := h
    exact hQ a w μ (Ext.refl _) hf rfl hr (Below.refl _ _)
  | o :: rest, fr, H, fr', H', μ, a, w, h, hr, hf, hQ => by
    unfold opsA at h
    split at h
    · rename_i hw
      split at h
      · rename_i v H1 hv
        unfold wpList
        rw [if_pos (want_eq hf hw)]
        refine .inl (oneOp_wp hρ hN hc hr hf hv fun v' w' μ' e1 e2 e3 e4 => ?_)
        refine opsA_wp hρ hN hc rest _ H1 fr' H' μ' _ w' h e3 (FR.put (hf.mono e1) e2) fun a' w'' μ'' d1 d2 d3 d4 d5 => ?_
        exact hQ a' w'' μ'' (e1.trans d1) d2 (d3.trans (put_defers ..)) d4 (e4.trans d5)
      · cases h
    · rename_i hw
      unfold wpList
      rw [if_neg (by rw [want_eq hf hw]; simp)]
      exact opsA_wp hρ hN hc rest _ H fr' H' μ _ w h hr (FR.put hf VR.undef) fun a' w'' μ'' d1 d2 d3 d4 d5 => hQ a' w'' μ'' d1 d2 (d3.trans (put_defers ..)) d4 d5
    · cases h
def Standing (P : Program) (c rest : Code) (Q : Exit → Act → World → Prop) (a : Act) (w : World) : Prop :=
  ∀ (b : Frame) (k : List Item) (cs : List Frame), ∃ e a' w', Q e a' w' ∧ Arrives P (lone (b.at a (.code rest :: .inScope c :: k)) cs w) b k cs e a' w'
def jumped (P : Program) (c : Code) (Q : Exit → Act → World → Prop) : Exit → Act → World → Prop
  | .goto l, a, w => ∃ rest, findLabel c l = some rest ∧ Standing P c rest Q a w
  | e, a, w => Q e a w
theorem wp_scope_of {c : Code} {Q : Exit → Act → World → Prop} (h : Standing P c c Q a w) : (Code.scope c).wp P Q a w := by
  intro b k cs
  obtain ⟨e, a₁, w₁, hq, harr⟩ := h b k cs
  exact ⟨e, a₁, w₁, hq, .of_steps (.one step_scope) harr⟩
theorem standing_of {c rest : Code} {Q : Exit → Act → World → Prop} (h : rest.wp P (jumped P c Q) a w) : Standing P c rest Q a w := by
  intro b k cs
  obtain ⟨e, a₁, w₁, hq, harr⟩ := h b (.inScope c :: k) cs
  cases e with
  | normal => exact ⟨.normal, a₁, w₁, hq, Steps.trans harr (.one step_inScope)⟩
  | exit id => exact ⟨.exit id, a₁, w₁, hq, fun k' hk => harr k' (by simp [exitTo, hk])⟩
  | goto l' =>
    obtain ⟨rest', hf, hst⟩ := hq
    have hg : gotoIn l' (.inScope c :: k) = some (.code rest' :: .inScope c :: k) := by simp [gotoIn, hf]
    obtain ⟨e₂, a₂, w₂, hq₂, harr₂⟩ := hst b k cs
    exact ⟨e₂, a₂, w₂, hq₂, .of_steps (harr _ hg) harr₂⟩
  | ret => exact ⟨_, a₁, w₁, hq, harr⟩
  | panic ch => exact ⟨_, a₁, w₁, hq, harr⟩
  | outgrown => exact ⟨_, a₁, w₁, hq, harr⟩
theorem jump_sound {run : Code → List AV → Heap → Option (AX × List AV × Heap)} {c : Code}
    (ih : ∀ c fr H x fr' H', run c fr H = some (x, fr', H') → ∀ μ a w Q, HR P ρ base μ H w → FR ρ μ fr a.tmps →
      (∀ a' w' μ', Ext μ μ' → FR ρ μ' fr' a'.tmps → a'.defers = a.defers → HR P ρ base μ' H' w' → Below base w w' → Q (exitOf x) a' w') → c.wp P Q a w) :
    ∀ k rest fr H x fr' H', jumpA run c k (run rest fr H) = some (x, fr', H') → ∀ μ a w Q, HR P ρ base μ H w → FR ρ μ fr a.tmps →
      (∀ a' w' μ', Ext μ μ' → FR ρ μ' fr' a'.tmps → a'.defers = a.defers → HR P ρ base μ' H' w' → Below base w w' → Q (exitOf x) a' w') → Standing P c rest Q a w := by
  have stop : ∀ rest fr H x fr' H', run rest fr H = some (x, fr', H') → (∀ l, x ≠ .goto l) → ∀ μ a w Q, HR P ρ base μ H w → FR ρ μ fr a.tmps →
      (∀ a' w' μ', Ext μ μ' → FR ρ μ' fr' a'.tmps → a'.defers = a.defers → HR P ρ base μ' H' w' → Below base w w' → Q (exitOf x) a' w') → Standing P c rest Q a w := by
    intro rest fr H x fr' H' h hx μ a w Q hr hf hQ
    refine standing_of (ih rest fr H x fr' H' h μ a w _ hr hf fun a' w' μ' e1 e2 e3 e4 e5 => ?_)
    have := hQ a' w' μ' e1 e2 e3 e4 e5
    cases x with
    | goto l => exact absurd rfl (hx l)
    | _ => exact this
  intro k
  induction k with
  | zero =>
    intro rest fr H x fr' H' h μ a w Q hr hf hQ
    unfold jumpA at h
    split at h
    · cases h
    · rename_i hne
      exact stop rest fr H x fr' H' h (fun l e => by subst e; exact hne _ _ _ h) μ a w Q hr hf hQ
  | succ k ihk =>
    intro rest fr H x fr' H' h μ a w Q hr hf hQ
    unfold jumpA at h
    split at h
    · rename_i l fr1 H1 h1
      split at h
      · rename_i rest' hfl
        refine standing_of (ih rest fr H (.goto l) fr1 H1 h1 μ a w _ hr hf fun a' w' μ' e1 e2 e3 e4 e5 => ?_)
        exact ⟨rest', hfl, ihk rest' fr1 H1 x fr' H' h μ' a' w' Q e4 e2 fun a'' w'' μ'' d1 d2 d3 d4 d5 => hQ a'' w'' μ'' (e1.trans d1) d2 (d3.trans e3) d4 (e5.trans d5)⟩
      · cases h
    · rename_i hne
      exact stop rest fr H x fr' H' h (fun l e => by subst e; exact hne _ _ _ h) μ a w Q hr hf hQ
theorem exec_wp (hρ : ∀ j, (ρ j).oneCell' = true) (hN : NoCount P) {S : CallA} {draw : CallA → Array Oper → List AV → Heap → Option (List AV × Heap)} (hdraw : DrawSound P ρ base draw)
    (hcw : ∀ n, (∀ c fr H x fr' H', exec P S draw n c fr H = some (x, fr', H') → ∀ μ a w Q, HR P ρ base μ H w → FR ρ μ fr a.tmps →
      (∀ a' w' μ', Ext μ μ' → FR ρ μ' fr' a'.tmps → a'.defers = a.defers → HR P ρ base μ' H' w' → Below base w w' → Q (exitOf x) a' w') → c.wp P Q a w) → CallSound P ρ base (callWith P S (exec P S draw n))) :
    ∀ n, (∀ c fr H x fr' H', exec P S draw n c fr H = some (x, fr', H') → ∀ μ a w Q, HR P ρ base μ H w → FR ρ μ fr a.tmps →
      (∀ a' w' μ', Ext μ μ' → FR ρ μ' fr' a'.tmps → a'.defers = a.defers → HR P ρ base μ' H' w' → Below base w w' → Q (exitOf x) a' w') → c.wp P Q a w) ∧
    (∀ c fr H x fr' H', exec P S draw n (.loop c) fr H = some (x, fr', H') → ∀ μ a w Q, HR P ρ base μ H w → FR ρ μ fr a.tmps →
      (∀ a' w' μ', Ext μ μ' → FR ρ μ' fr' a'.tmps → a'.defers = a.defers → HR P ρ base μ' H' w' → Below base w w' → Q (exitOf x) a' w') → Code.rounds P c Q n a w) := by
  intro n
  induction n with
  | zero => exact ⟨fun c fr H x fr' H' h => by simp [exec] at h, fun c fr H x fr' H' h => by simp [exec] at h⟩
  | succ n ih =>
    obtain ⟨ihA, ihB⟩ := ih
    have hcs := hcw n ihA
    have B : ∀ c fr H x fr' H', exec P S draw (n + 1) (.loop c) fr H = some (x, fr', H') → ∀ μ a w Q, HR P ρ base μ H w → FR ρ μ fr a.tmps →
      (∀ a' w' μ', Ext μ μ' → FR ρ μ' fr' a'.tmps → a'.defers = a.defers → HR P ρ base μ' H' w' → Below base w w' → Q (exitOf x) a' w') → Code.rounds P c Q (n + 1) a w := by
      intro c fr H x fr' H' h μ a w Q hr hf hQ
      simp only [exec] at h
      rw [rounds_succ]
      split at h
      · rename_i fr1 H1 h1
        refine ihA c fr H .normal fr1 H1 h1 μ a w _ hr hf fun a' w' μ' e1 e2 e3 e4 e5 => ?_
        show Code.rounds P c Q n a' w'
        exact ihB c fr1 H1 x fr' H' h μ' a' w' Q e4 e2 fun a'' w'' μ'' d1 d2 d3 d4 d5 => hQ a'' w'' μ'' (e1.trans d1) d2 (d3.trans e3) d4 (e5.trans d5)
      · rename_i hne
        refine ihA c fr H x fr' H' h μ a w _ hr hf fun a' w' μ' e1 e2 e3 e4 e5 => ?_
        have := hQ a' w' μ' e1 e2 e3 e4 e5
        cases x with
        | normal => exact absurd h (hne _ _)
        | _ => exact this
    refine ⟨?_, B⟩
    intro c fr H x fr' H' h μ a w Q hr hf hQ
    cases c with
    | loop c => exact wp_loop_rounds (n + 1) (B c fr H x fr' H' h μ a w Q hr hf hQ)
    | skip =>
      simp [exec] at h
      obtain ⟨rfl, rfl, rfl⟩ := h
      exact wp_skip (hQ a w μ (Ext.refl _) hf rfl hr (Below.refl _ _))
    | ret =>
      simp [exec] at h
      obtain ⟨rfl, rfl, rfl⟩ := h
      exact wp_ret (hQ a w μ (Ext.refl _) hf rfl hr (Below.refl _ _))
    | label l =>
      simp [exec] at h
      obtain ⟨rfl, rfl, rfl⟩ := h
      exact wp_label (hQ a w μ (Ext.refl _) hf rfl hr (Below.refl _ _))
    | goto l =>
      simp [exec] at h
      obtain ⟨rfl, rfl, rfl⟩ := h
      exact wp_goto (hQ a w μ (Ext.refl _) hf rfl hr (Below.refl _ _))
    | scope c =>
      simp only [exec] at h
      exact wp_scope_of (jump_sound ihA 3 c fr H x fr' H' h μ a w Q hr hf hQ)
    | exit id =>
      simp [exec] at h
      obtain ⟨rfl, rfl, rfl⟩ := h
      exact wp_exit (hQ a w μ (Ext.refl _) hf rfl hr (Below.refl _ _))
    | region id ops dr =>
      simp only [exec] at h
      split at h
      · rename_i hd
        obtain ⟨⟨fr1, H1⟩, h1, hh⟩ := Option.map_eq_some_iff.1 h
        simp at hh
        obtain ⟨rfl, rfl, rfl⟩ := hh
        subst hd
        exact hdraw _ hcs id ops fr H fr1 H1 h1 μ a w Q hr hf hQ
      · rename_i hd
        obtain ⟨⟨fr1, H1⟩, h1, hh⟩ := Option.map_eq_some_iff.1 h
        simp at hh
        obtain ⟨rfl, rfl, rfl⟩ := hh
        have : dr = false := by simpa using hd
        subst this
        exact wp_region_list (opsA_wp hρ hN hcs ops.toList fr H fr1 H1 μ a w h1 hr hf hQ)
    | seq c1 c2 =>
      simp only [exec] at h
      split at h
      · rename_i fr1 H1 h1
        refine wp_seq (ihA c1 fr H .normal fr1 H1 h1 μ a w _ hr hf fun a' w' μ' e1 e2 e3 e4 e5 => ?_)
        exact ihA c2 fr1 H1 x fr' H' h μ' a' w' Q e4 e2 fun a'' w'' μ'' d1 d2 d3 d4 d5 => hQ a'' w'' μ'' (e1.trans d1) d2 (d3.trans e3) d4 (e5.trans d5)
      · rename_i hne
        refine wp_seq (ihA c1 fr H x fr' H' h μ a w _ hr hf fun a' w' μ' e1 e2 e3 e4 e5 => ?_)
        have := hQ a' w' μ' e1 e2 e3 e4 e5
        cases x with
        | normal => exact absurd h (hne _ _)
        | _ => exact this
    | cond c c1 c2 =>
      simp only [exec] at h
      split at h
      · rename_i hc
        have hv := ev_VR hc hf
        generalize hcv : a.eval c = cv at hv
        cases hv
        exact wp_cond_true hcv (ihA c1 fr H x fr' H' h μ a w Q hr hf hQ)
      · rename_i hc
        have hv := ev_VR hc hf
        generalize hcv : a.eval c = cv at hv
        cases hv
        exact wp_cond_false hcv (ihA c2 fr H x fr' H' h μ a w Q hr hf hQ)
      · cases h
    | block id c =>
      simp only [exec] at h
      split at h
      · rename_i j fr1 H1 h1
        refine wp_block (ihA c fr H (.exit j) fr1 H1 h1 μ a w _ hr hf fun a' w' μ' e1 e2 e3 e4 e5 => ?_)
        simp only [exitOf, Exit.inBlock]
        split at h
        · rename_i e
          simp at h
          obtain ⟨rfl, rfl, rfl⟩ := h
          rw [if_pos e]
          exact hQ a' w' μ' e1 e2 e3 e4 e5
        · rename_i e
          simp at h
          obtain ⟨rfl, rfl, rfl⟩ := h
          rw [if_neg e]
          exact hQ a' w' μ' e1 e2 e3 e4 e5
      · rename_i hne
        refine wp_block (ihA c fr H x fr' H' h μ a w _ hr hf fun a' w' μ' e1 e2 e3 e4 e5 => ?_)
        have := hQ a' w' μ' e1 e2 e3 e4 e5
        cases x with
        | exit j => exact absurd h (hne _ _ _)
        | _ => exact this
    | _ => simp [exec] at h
theorem results_fine (hr : HR P ρ base μ H w) (hf : FR ρ μ fr a.tmps) : ∀ (l : List ResultVar) (vs : List AV), resultsA P H fr l = some vs →
    ∃ us, (l.mapM (resOf a.tmps)).run P w = .ok us w ∧ VRs ρ μ vs us
  | [], vs, h => by simp [resultsA] at h; subst h; exact ⟨[], rfl, .nil⟩
  | r :: l, vs, h => by
    unfold resultsA at h
    split at h
    · rename_i v vs' h1 h2
      simp at h; subst h
      obtain ⟨us, hus, huv⟩ := results_fine hr hf l vs' h2
      cases r with
      | tmp t =>
        have hv := ev_VR (x := .tmp t) (show ev fr (.tmp t) = some v from h1) hf
        refine ⟨a.tmps.getD t undef :: us, ?_, .cons hv huv⟩
        simp [List.mapM_cons, resOf, hus]
      | cell x t =>
        simp only at h1
        obtain ⟨p, hp, hl⟩ := Option.bind_eq_some_iff.1 h1
        have hx := ev_VR (x := .tmp x) (show ev fr (.tmp x) = some p from hp) hf
        obtain ⟨ad, u, had, hrun, hu⟩ := load_run hr hl hx
        have had' : a.tmps.getD x undef = .pointer (some ad) := had
        refine ⟨u :: us, ?_, .cons hu huv⟩
        simp [List.mapM_cons, resOf, had', asAddr, hrun, hus]
    · cases h
end
end Go.Proofs.YtiifcfngbbhgoagDoor.Ax

namespace Go.Proofs.YtiifcfngbbhgoagDoor.Ax
open Go Go.RowKit
section
variable {P : Program} {ρ : Nat → Value} {base : Nat} {μ : List Loc} {H : Heap} {w : World} {fr : List AV} {a : Act}
theorem pack_VR {vs : List AV} {us : List Value} (h : VRs ρ μ vs us) : VR ρ μ (packA vs) (if h : us.toArray.size = 1 then us.toArray[0] else .tuple us.toArray) := by
  cases vs with
  | nil =>
    obtain rfl : us = [] := List.eq_nil_of_length_eq_zero h.1.symm
    exact .t (vs := []) rfl (fun j x v h => by simp at h)
  | cons v r =>
    cases r with
    | nil =>
      cases us with
      | nil => have := h.1; simp at this
      | cons u s =>
        cases s with
        | nil => simpa [packA] using h.2 0 v u rfl rfl
        | cons _ _ => have := h.1; simp at this
    | cons v2 r =>
      have hl := h.1
      have : ¬ us.toArray.size = 1 := by simp at hl ⊢; omega
      rw [dif_neg this]
      exact .t h.1 h.2
theorem results_run {fn : Func} {tmps : Array Value} {us : List Value} (h : (fn.results.toList.mapM (resOf tmps)).run P w = .ok us w) :
    (results fn tmps).run P w = .ok (if h : us.toArray.size = 1 then us.toArray[0] else .tuple us.toArray) w := by
  have hm : (fn.results.mapM (resOf tmps)).run P w = .ok us.toArray w := by
    rw [Array.mapM_eq_mapM_toList, Sem.run_map, h]; rfl
  have he : results fn tmps = (do let vs ← fn.results.mapM (resOf tmps); pure (if h : vs.size = 1 then vs[0] else .tuple vs)) := by
    unfold results
    congr 1
  rw [he]
  simp only [Sem.run_bind, hm, Result.andThen_ok, Sem.run_pure]
theorem callWith_sound {S : CallA} (hS : CallSound P ρ base S) {run : Code → List AV → Heap → Option (AX × List AV × Heap)}
    (hrun : ∀ c fr H x fr' H', run c fr H = some (x, fr', H') → ∀ μ a w Q, HR P ρ base μ H w → FR ρ μ fr a.tmps →
      (∀ a' w' μ', Ext μ μ' → FR ρ μ' fr' a'.tmps → a'.defers = a.defers → HR P ρ base μ' H' w' → Below base w w' → Q (exitOf x) a' w') → c.wp P Q a w) :
    CallSound P ρ base (callWith P S run) := by
  intro f args H v H' h
  unfold callWith at h
  split at h
  · rename_i r hs
    simp at h; subst h
    exact hS f args H v H' hs
  · split at h
    · rename_i fn hf
      split at h
      · rename_i c hc
        refine .inl ⟨⟨fn, hf, by simp [hc]⟩, fun μ w vs hr hv => ?_⟩
        have key : ∀ x fr' H1, (x = AX.normal ∨ x = AX.ret) → run c (args ++ List.replicate (fn.ntmps - args.length) (.t [])) H = some (x, fr', H1) → ((resultsA P H1 fr' fn.results.toList).map fun vs => (packA vs, H1)) = some (v, H') →
            Calls P f vs.toArray w (Meets P ρ base μ w v H') := by
          intro x fr' H1 hx hex hres
          obtain ⟨rs, hrs, hh⟩ := Option.map_eq_some_iff.1 hres
          simp at hh
          obtain ⟨rfl, rfl⟩ := hh
          have hf0 : FR ρ μ (args ++ List.replicate (fn.ntmps - args.length) (.t [])) (vs.toArray ++ Array.replicate (fn.ntmps - vs.toArray.size) undef) := by
            unfold FR
            have e : (vs.toArray ++ Array.replicate (fn.ntmps - vs.toArray.size) undef).toList = vs ++ List.replicate (fn.ntmps - args.length) undef := by
              simp [hv.1]
            rw [e]
            exact hv.append (.replicate VR.undef _)
          refine calls_of_wp hf hc (hrun c _ H x fr' H1 hex μ ⟨_, []⟩ w _ hr hf0 fun a' w' μ' e1 e2 e3 e4 e5 => ?_)
          obtain ⟨us, hus, huv⟩ := results_fine e4 e2 _ _ hrs
          have hR : Meets P ρ base μ w (packA rs) H1 (.returned (if h : us.toArray.size = 1 then us.toArray[0] else .tuple us.toArray)) w' := ⟨_, μ', rfl, e1, pack_VR huv, e4, e5⟩
          rcases hx with rfl | rfl
          · exact ⟨e3, _, results_run hus, hR⟩
          · exact ⟨e3, _, results_run hus, hR⟩
        split at h
        · rename_i fr' H1 hex
          exact key .normal fr' H1 (.inl rfl) hex h
        · rename_i fr' H1 hex
          exact key .ret fr' H1 (.inr rfl) hex h
        · cases h
      · cases h
    · cases h
theorem callWith_bodied {S : CallA} {run : Code → List AV → Heap → Option (AX × List AV × Heap)} {f : FuncId} {args : List AV} {r : AV × Heap} (hs : S f args H = none) (h : callWith P S run f args H = some r) : Bodied P f := by
  unfold callWith at h
  rw [hs] at h
  simp only at h
  split at h
  · rename_i fn hf
    split at h
    · rename_i c hc
      exact ⟨fn, hf, by simp [hc]⟩
    · cases h
  · cases h
theorem run_sound (hρ : ∀ j, (ρ j).oneCell' = true) (hN : NoCount P) {S : CallA} (hS : CallSound P ρ base S) {draw : CallA → Array Oper → List AV → Heap → Option (List AV × Heap)} (hdraw : DrawSound P ρ base draw) (n : Nat) :
    CallSound P ρ base (callWith P S (exec P S draw n)) :=
  callWith_sound hS (exec_wp hρ hN hdraw (fun _ hn => callWith_sound hS hn) n).1
end
end Go.Proofs.YtiifcfngbbhgoagDoor.Ax

namespace Go.Proofs.YtiifcfngbbhgoagDoor.Ax
open Go Go.RowKit
mutual
theorem sameV_eq : ∀ {x y : AV}, sameV x y = true → x = y
  | .u, y, h => by cases y <;> simp [sameV] at h; rfl
  | .k a, y, h => by cases y <;> simp [sameV] at h; subst h; rfl
  | .b a, y, h => by cases y <;> simp [sameV] at h; subst h; rfl
  | .i k a, y, h => by cases y <;> simp [sameV] at h; obtain ⟨rfl, rfl⟩ := h; rfl
  | .f k a, y, h => by cases y <;> simp [sameV] at h; obtain ⟨rfl, rfl⟩ := h; rfl
  | .s a, y, h => by
    cases y <;> simp [sameV] at h
    rename_i b
    rw [ByteArray.toList_eq, ByteArray.toList_eq] at h
    congr 1
    cases a; cases b
    congr 1
    exact Array.toList_inj.1 h
  | .p0, y, h => by cases y <;> simp [sameV] at h; rfl
  | .p a b, y, h => by cases y <;> simp [sameV] at h; obtain ⟨rfl, rfl⟩ := h; rfl
  | .s0, y, h => by cases y <;> simp [sameV] at h; rfl
  | .se, y, h => by cases y <;> simp [sameV] at h; rfl
  | .sn, y, h => by cases y <;> simp [sameV] at h; rfl
  | .sl a b n, y, h => by cases y <;> simp [sameV] at h; obtain ⟨⟨rfl, rfl⟩, rfl⟩ := h; rfl
  | .m0, y, h => by cases y <;> simp [sameV] at h; rfl
  | .n, y, h => by cases y <;> simp [sameV] at h; rfl
  | .e, y, h => by cases y <;> simp [sameV] at h; rfl
  | .mp a, y, h => by cases y <;> simp [sameV] at h; subst h; rfl
  | .gp a, y, h => by cases y <;> simp [sameV] at h; subst h; rfl
  | .ip t a b, y, h => by cases y <;> simp [sameV] at h; obtain ⟨⟨rfl, rfl⟩, rfl⟩ := h; rfl
  | .fn f a, y, h => by
    cases y <;> simp [sameV] at h
    obtain ⟨rfl, h⟩ := h
    rw [sameVs_eq h]
  | .g a, y, h => by
    cases y <;> simp [sameV] at h
    rw [sameVs_eq h]
  | .t a, y, h => by
    cases y <;> simp [sameV] at h
    rw [sameVs_eq h]
theorem sameVs_eq : ∀ {x y : List AV}, sameVs x y = true → x = y
  | [], y, h => by cases y <;> simp [sameVs] at h; rfl
  | a :: r, y, h => by
    cases y <;> simp [sameVs] at h
    rw [sameV_eq h.1, sameVs_eq h.2]
end
theorem float_heap {P : Program} {op : Op} {fr : List AV} {H H' : Heap} {v : AV} (hn : isEff op = false) (h : opA P op fr H = some (v, H')) : H' = H := by
  have pu : ∀ {r : Option AV}, (r.map fun v => (v, H)) = some (v, H') → H' = H := by
    intro r h
    obtain ⟨_, _, hh⟩ := Option.map_eq_some_iff.1 h
    simp at hh
    exact hh.2.symm
  unfold opA at h
  cases op with
  | move x => exact pu h
  | assign x => exact pu h
  | pick c x y => simp only at h; split at h <;> first | exact pu h | cases h
  | build t ps => obtain ⟨_, _, h⟩ := Option.bind_eq_some_iff.1 h; exact pu h
  | load t x => obtain ⟨_, _, h⟩ := Option.bind_eq_some_iff.1 h; exact pu h
  | nilCheck x => obtain ⟨_, _, h⟩ := Option.bind_eq_some_iff.1 h; exact pu h
  | binOp op t x y yt => obtain ⟨_, _, h⟩ := Option.bind_eq_some_iff.1 h; obtain ⟨_, _, h⟩ := Option.bind_eq_some_iff.1 h; exact pu h
  | unOp op t x => obtain ⟨_, _, h⟩ := Option.bind_eq_some_iff.1 h; exact pu h
  | convert s t x =>
    obtain ⟨p, _, h⟩ := Option.bind_eq_some_iff.1 h
    cases hcv : convA P s t p with
    | some w => simp only [hcv] at h; simp at h; exact h.2.symm
    | none =>
      simp only [hcv] at h
      cases hs : strA P H s t p with
      | some w => simp only [hs] at h; simp at h; exact h.2.symm
      | none => simp only [hs] at h; rw [bytesOfA_none hn] at h; cases h
  | slice t x lo hi mx =>
    cases mx with
    | some m =>
      cases lo <;> cases hi <;> simp only at h
      · cases h
      · obtain ⟨_, _, h⟩ := Option.bind_eq_some_iff.1 h; obtain ⟨_, _, h⟩ := Option.bind_eq_some_iff.1 h; obtain ⟨_, _, h⟩ := Option.bind_eq_some_iff.1 h; exact pu h
      · cases h
      · cases h
    | none =>
      obtain ⟨_, _, h⟩ := Option.bind_eq_some_iff.1 h
      cases lo <;> cases hi <;> simp only at h
      · exact pu h
      · obtain ⟨_, _, h⟩ := Option.bind_eq_some_iff.1 h; exact pu h
      · obtain ⟨_, _, h⟩ := Option.bind_eq_some_iff.1 h; exact pu h
      · obtain ⟨_, _, h⟩ := Option.bind_eq_some_iff.1 h; obtain ⟨_, _, h⟩ := Option.bind_eq_some_iff.1 h; exact pu h
  | makeInterface t x => obtain ⟨_, _, h⟩ := Option.bind_eq_some_iff.1 h; exact pu h
  | fieldAddr t x k => obtain ⟨_, _, h⟩ := Option.bind_eq_some_iff.1 h; exact pu h
  | field t x k => obtain ⟨_, _, h⟩ := Option.bind_eq_some_iff.1 h; exact pu h
  | indexAddr t x k => obtain ⟨_, _, h⟩ := Option.bind_eq_some_iff.1 h; obtain ⟨_, _, h⟩ := Option.bind_eq_some_iff.1 h; exact pu h
  | index t x k => obtain ⟨_, _, h⟩ := Option.bind_eq_some_iff.1 h; obtain ⟨_, _, h⟩ := Option.bind_eq_some_iff.1 h; exact pu h
  | extract x k => simp only at h; split at h <;> first | exact pu h | cases h
  | makeFunc fn first caps =>
    cases fn <;> simp only at h <;> first | (split at h; · obtain ⟨_, _, h⟩ := Option.bind_eq_some_iff.1 h; exact pu h
                                             · cases h) | cases h
  | call c =>
    obtain ⟨callee, args, argTypes⟩ := c
    cases callee with
    | builtin b =>
      simp only at h
      split at h
      · obtain ⟨_, _, h⟩ := Option.bind_eq_some_iff.1 h; exact pu h
      · obtain ⟨_, _, h⟩ := Option.bind_eq_some_iff.1 h; obtain ⟨_, _, h⟩ := Option.bind_eq_some_iff.1 h; exact pu h
      · obtain ⟨_, _, h⟩ := Option.bind_eq_some_iff.1 h; obtain ⟨_, _, h⟩ := Option.bind_eq_some_iff.1 h; exact pu h
      · simp [isEff] at hn
      · simp [isEff] at hn
      · cases h
    | _ => simp at h
  | alloc _ => simp [isEff] at hn
  | box _ _ => simp [isEff] at hn
  | buildSlice _ _ _ => simp [isEff] at hn
  | store _ _ _ => simp [isEff] at hn
  | makeSlice _ _ _ => simp [isEff] at hn
  | makeMap _ _ => simp [isEff] at hn
  | mapUpdate _ _ _ _ => simp [isEff] at hn
  | _ => simp at h
def frs (fr0 : List AV) (es : List Ent) : List AV := es.foldl (fun f e => putA f e.o.dst e.val) fr0
theorem frs_snoc (fr0 : List AV) (es : List Ent) (e : Ent) : frs fr0 (es ++ [e]) = putA (frs fr0 es) e.o.dst e.val := by simp [frs]
theorem frs_length (fr0 : List AV) (es : List Ent) : (frs fr0 es).length = fr0.length := by
  induction es generalizing fr0 with
  | nil => rfl
  | cons e r ih =>
    show (frs (putA fr0 e.o.dst e.val) r).length = _
    rw [ih]
    cases e.o.dst <;> simp [putA]
theorem countEff_snoc (es : List Ent) (e : Ent) : countEff (es ++ [e]) = countEff es + (if e.eff then 1 else 0) := by
  unfold countEff
  rw [List.filter_append, List.length_append]
  cases h : e.eff <;> simp [h]
structure EntOk (P : Program) (call : CallA) (ops : Array Oper) (fr0 : List AV) (Hs : List Heap) (before : List Ent) (e : Ent) : Prop where
  fr : e.fr = restr (e.o.looksAt ops) (frs fr0 before)
  want : wantA ops e.fr e.o.guard = some e.wanted
  no : e.no = countEff before
  lo : e.lo = loOf before e.o.after.toList
  eff : e.eff = true → e.wanted = true ∧ ∃ H H', Hs[e.no]? = some H ∧ Hs[e.no + 1]? = some H' ∧ oneOp P call e.o.op e.fr H = some (e.val, H')
  flt : e.eff = false → e.wanted = true → isEff e.o.op = false
  skip : e.wanted = false → e.eff = false ∧ e.val = .t []
theorem lexA_spec {P : Program} {call : CallA} {ops : Array Oper} {fr0 : List AV} : ∀ (l : List Oper) (es : List Ent) (Hs : List Heap) (H : Heap) (es' : List Ent) (Hs' : List Heap) (fr' : List AV) (H' : Heap),
    lexA P call ops l es Hs (frs fr0 es) H = some (es', Hs', fr', H') → Hs.length = countEff es + 1 → Hs[countEff es]? = some H →
    ∃ et, es' = es ++ et ∧ et.map (·.o) = l ∧ fr' = frs fr0 es' ∧ Hs'.length = countEff es' + 1 ∧ Hs'[countEff es']? = some H' ∧ (∀ j, j < Hs.length → Hs'[j]? = Hs[j]?) ∧
      ∀ j e, et[j]? = some e → EntOk P call ops fr0 Hs' (es ++ et.take j) e
  | [], es, Hs, H, es', Hs', fr', H', h, hl, hH => by
    simp [lexA] at h
    obtain ⟨rfl, rfl, rfl, rfl⟩ := h
    exact ⟨[], by simp, rfl, rfl, hl, hH, fun _ _ => rfl, fun j e h => by simp at h⟩
  | o :: rest, es, Hs, H, es', Hs', fr', H', h, hl, hH => by
    unfold lexA at h
    have go : ∀ (e : Ent) (Hs1 : List Heap) (H1 : Heap), e.o = o → lexA P call ops rest (es ++ [e]) Hs1 (putA (frs fr0 es) o.dst e.val) H1 = some (es', Hs', fr', H') → Hs1.length = countEff (es ++ [e]) + 1 → Hs1[countEff (es ++ [e])]? = some H1 → (∀ j, j < Hs.length → Hs1[j]? = Hs[j]?) → Hs.length ≤ Hs1.length →
        (∀ Hs2 : List Heap, (∀ j, j < Hs1.length → Hs2[j]? = Hs1[j]?) → EntOk P call ops fr0 Hs2 es e) →
        ∃ et, es' = es ++ et ∧ et.map (·.o) = o :: rest ∧ fr' = frs fr0 es' ∧ Hs'.length = countEff es' + 1 ∧ Hs'[countEff es']? = some H' ∧ (∀ j, j < Hs.length → Hs'[j]? = Hs[j]?) ∧
          ∀ j e, et[j]? = some e → EntOk P call ops fr0 Hs' (es ++ et.take j) e := by
      intro e Hs1 H1 he hx h1 h2 h3 h3' h4
      rw [← he, ← frs_snoc] at hx
      obtain ⟨et, rfl, e2, e3, e4, e5, e6, e7⟩ := lexA_spec rest _ _ _ _ _ _ _ hx h1 h2
      refine ⟨e :: et, by simp, by simp [e2, he], e3, e4, e5, fun j hj => (e6 j (by omega)).trans (h3 j hj), fun j x hx => ?_⟩
      cases j with
      | zero => simp at hx; subst hx; simpa using h4 Hs' e6
      | succ j =>
        simp at hx
        have := e7 j x hx
        simpa [List.append_assoc] using this
    split at h
    · rename_i hw
      split at h
      · rename_i hi
        split at h
        · rename_i v H1 hv
          refine go ⟨o, true, true, countEff es, loOf es o.after.toList, v, restr (o.looksAt ops) (frs fr0 es)⟩ _ _ rfl h (by simp [countEff_snoc, hl]) (by simp [countEff_snoc, ← hl]) (fun j hj => List.getElem?_append_left hj) (by simp) fun Hs2 h2 => ?_
          refine ⟨rfl, hw, rfl, rfl, fun _ => ⟨rfl, H, H1, ?_, ?_, hv⟩, fun h => by (cases h), fun h => by (cases h)⟩
          · show Hs2[countEff es]? = some H
            rw [h2 _ (by simp; omega), List.getElem?_append_left (by omega)]; exact hH
          · show Hs2[countEff es + 1]? = some H1
            rw [h2 _ (by simp; omega)]; simp [← hl]
        · cases h
      · rename_i hi
        split at h
        · rename_i v H1 hv
          refine go ⟨o, true, false, countEff es, loOf es o.after.toList, v, restr (o.looksAt ops) (frs fr0 es)⟩ _ _ rfl h (by simp [countEff_snoc, hl]) (by simpa [countEff_snoc] using hH) (fun j hj => rfl) (Nat.le_refl _) fun Hs2 h2 => ?_
          exact ⟨rfl, hw, rfl, rfl, fun h => by (cases h), fun _ _ => by simpa using hi, fun h => by (cases h)⟩
        · cases h
    · rename_i hw
      refine go ⟨o, false, false, countEff es, loOf es o.after.toList, .t [], restr (o.looksAt ops) (frs fr0 es)⟩ _ _ rfl h (by simp [countEff_snoc, hl]) (by simpa [countEff_snoc] using hH) (fun j hj => rfl) (Nat.le_refl _) fun Hs2 h2 => ?_
      exact ⟨rfl, hw, rfl, rfl, fun h => by (cases h), fun _ h => by (cases h), fun _ => ⟨rfl, rfl⟩⟩
    · cases h
theorem restr_at (ts : List Tmp) (fr : List AV) (t : Nat) : (restr ts fr)[t]? = (fr[t]?).map fun x => if ts.contains t then x else .u := by
  unfold restr
  simp only [List.getElem?_map, List.getElem?_zipIdx, Nat.zero_add]
  cases fr[t]? <;> rfl
theorem putA_at (fr : List AV) (d : Option Tmp) (v : AV) (t : Nat) : (putA fr d v)[t]? = if d = some t ∧ t < fr.length then some v else fr[t]? := by
  cases d with
  | none => simp [putA]
  | some d =>
    simp only [putA, List.getElem?_set, Option.some.injEq]
    by_cases e : d = t
    · subst e
      by_cases hlt : d < fr.length
      · simp [hlt]
      · simp [hlt]
    · simp [e]
theorem frs_none (fr0 : List AV) (t : Nat) : ∀ (es : List Ent), (∀ e ∈ es, e.o.dst ≠ some t) → (frs fr0 es)[t]? = fr0[t]? := by
  intro es
  induction es generalizing fr0 with
  | nil => intro _; rfl
  | cons e r ih =>
    intro h
    show (frs (putA fr0 e.o.dst e.val) r)[t]? = _
    rw [ih _ (fun x hx => h x (List.mem_cons_of_mem _ hx)), putA_at, if_neg (fun k => h e List.mem_cons_self k.1)]
theorem frs_some (fr0 : List AV) (t : Nat) (ht : t < fr0.length) : ∀ (es : List Ent) (k : Nat) (e : Ent), es[k]? = some e → e.o.dst = some t → (∀ j x, es[j]? = some x → j ≠ k → x.o.dst ≠ some t) → (frs fr0 es)[t]? = some e.val := by
  intro es
  induction es generalizing fr0 with
  | nil => intro k e h; simp at h
  | cons a r ih =>
    intro k e h hd hu
    show (frs (putA fr0 a.o.dst a.val) r)[t]? = _
    cases k with
    | zero =>
      simp at h; subst h
      rw [frs_none _ _ _ (fun x hx => by
        obtain ⟨j, hj, rfl⟩ := List.mem_iff_getElem.1 hx
        exact hu (j + 1) _ (by simp [hj]) (by omega)), putA_at, if_pos ⟨hd, ht⟩]
    | succ k =>
      simp at h
      exact ih (putA fr0 a.o.dst a.val) (by cases a.o.dst <;> simpa [putA] using ht) k e h hd (fun j x hx hne => hu (j + 1) x (by simpa using hx) (by omega))
theorem loOf_le (es : List Ent) (c : Nat) : ∀ (l : List Edge), (∀ d ∈ l, Region.binds .any d = true → depOf es d.on ≤ c) → loOf es l ≤ c
  | [], _ => Nat.zero_le _
  | d :: r, h => by
    unfold loOf
    have ih := loOf_le es c r (fun x hx => h x (List.mem_cons_of_mem _ hx))
    split
    · rename_i hb
      have := h d List.mem_cons_self hb
      omega
    · exact ih
theorem countP_lt {p q : Nat → Bool} : ∀ (l : List Nat) (i : Nat), i ∈ l → p i = true → q i = false → (∀ j, q j = true → p j = true) → l.countP q < l.countP p
  | x :: r, i, hi, hp, hq, hle => by
    have hr : r.countP q ≤ r.countP p := List.countP_mono_left fun j _ h => hle j h
    rw [List.countP_cons, List.countP_cons]
    by_cases e : x = i
    · subst e; simp [hp, hq]; omega
    · have hi' : i ∈ r := by rcases List.mem_cons.1 hi with h | h; exact absurd h.symm e; exact h
      have := countP_lt r i hi' hp hq hle
      have h1 : (if q x then 1 else 0) ≤ (if p x then 1 else 0) := by
        by_cases hqx : q x = true
        · simp [hqx, hle x hqx]
        · simp [hqx]
      omega
structure Going (P : Program) (ρ : Nat → Value) (base : Nat) (w0 : World) (fr0 : List AV) (es : List Ent) (Hs : List Heap) (μ0 : List Loc) (L : Array Bool) (c : Nat) (μ : List Loc) (a : Act) (w : World) : Prop where
  size : L.size = es.length
  ext : Ext μ0 μ
  hr : ∃ H, Hs[c]? = some H ∧ HR P ρ base μ H w
  below : Below base w0 w
  tsize : a.tmps.size = fr0.length
  done : ∀ k e, es[k]? = some e → L.getD k true = true → ∀ t, e.o.dst = some t → t < fr0.length → ∃ v, a.tmps[t]? = some v ∧ VR ρ μ e.val v
  left : ∀ t x, fr0[t]? = some x → (∀ k e, es[k]? = some e → L.getD k true = true → e.o.dst ≠ some t) → ∃ v, a.tmps[t]? = some v ∧ VR ρ μ x v
  effs : ∀ k e, es[k]? = some e → e.eff = true → (L.getD k true = true ↔ e.no < c)
  los : ∀ k e, es[k]? = some e → L.getD k true = true → e.lo ≤ c
  closed : ∀ k e, es[k]? = some e → L.getD k true = true → ∀ d ∈ e.o.after, Region.binds .any d = true → L.getD d.on true = true
end Go.Proofs.YtiifcfngbbhgoagDoor.Ax

namespace Go.Proofs.YtiifcfngbbhgoagDoor.Ax
open Go Go.RowKit
theorem countEff_take_le (es : List Ent) {i k : Nat} (h : i ≤ k) : countEff (es.take i) ≤ countEff (es.take k) := by
  have : (es.take k) = es.take i ++ (es.take k).drop i := by
    have e1 := List.take_append_drop i (es.take k)
    rw [List.take_take, Nat.min_eq_left h] at e1
    exact e1.symm
  unfold countEff
  rw [this, List.filter_append, List.length_append]
  omega
theorem countEff_take_lt (es : List Ent) {i k : Nat} {e : Ent} (he : es[i]? = some e) (heff : e.eff = true) (h : i < k) : countEff (es.take i) < countEff (es.take k) := by
  have h1 : es.take (i + 1) = es.take i ++ [e] := by
    have hlt := (List.getElem?_eq_some_iff.1 he).1
    rw [List.take_succ_eq_append_getElem hlt, (List.getElem?_eq_some_iff.1 he).2]
  have h2 := countEff_take_le es (show i + 1 ≤ k from h)
  rw [h1, countEff_snoc, heff] at h2
  simp at h2
  omega
theorem eff_at (es : List Ent) : ∀ (n c : Nat), c < countEff (es.take n) → ∃ k e, es[k]? = some e ∧ e.eff = true ∧ countEff (es.take k) = c
  | 0, c, h => by simp [countEff] at h
  | n + 1, c, h => by
    by_cases hn : n < es.length
    · have h1 : es.take (n + 1) = es.take n ++ [es[n]] := List.take_succ_eq_append_getElem hn
      by_cases hc : c < countEff (es.take n)
      · exact eff_at es n c hc
      · rw [h1, countEff_snoc] at h
        cases he : es[n].eff with
        | false => rw [he] at h; simp at h; omega
        | true =>
          rw [he] at h
          simp at h
          exact ⟨n, es[n], by simp [hn], he, by omega⟩
    · have : es.take (n + 1) = es.take n := by rw [List.take_of_length_le (by omega), List.take_of_length_le (by omega)]
      rw [this] at h
      exact eff_at es n c h
theorem behind_iff {o : Oper} {i : Nat} (h : behind o i = true) : ∃ d ∈ o.after, Region.binds .any d = true ∧ d.on = i := by
  unfold behind at h
  rw [List.any_eq_true] at h
  obtain ⟨d, hd, hb⟩ := h
  simp only [Bool.and_eq_true, beq_iff_eq] at hb
  exact ⟨d, by simpa using hd, hb.1, hb.2⟩
theorem getD_true_lt {L : Array Bool} {k : Nat} (h : L.getD k false = true) : L.getD k true = true := by
  simp only [Array.getD_eq_getD_getElem?] at h ⊢
  cases hk : L[k]? with
  | none => rfl
  | some b => rw [hk] at h; exact h
theorem getD_in {L : Array Bool} {k : Nat} (hk : k < L.size) (b b' : Bool) : L.getD k b = L.getD k b' := by
  simp only [Array.getD_eq_getD_getElem?, Array.getElem?_eq_getElem hk, Option.getD_some]
theorem getD_set {L : Array Bool} {i k : Nat} (hk : k < L.size) : (L.setIfInBounds i true).getD k true = (if k = i then true else L.getD k true) := by
  by_cases e : k = i
  · subst e
    simp [hk]
  · rw [if_neg e, getD_set_ne true (fun h => e h.symm)]
section
variable {P : Program} {ρ : Nat → Value} {base : Nat} {w0 : World} {fr0 : List AV} {es : List Ent} {Hs : List Heap} {μ0 : List Loc} {call : CallA} {ops : Array Oper}
structure Looks (P : Program) (call : CallA) (ops : Array Oper) (fr0 : List AV) (es : List Ent) (Hs : List Heap) : Prop where
  opl : ops.toList = es.map (·.o)
  ent : ∀ (k : Nat) (e : Ent), es[k]? = some e → EntOk P call ops fr0 Hs (es.take k) e
  dst : ∀ (k j : Nat) (e x : Ent) (t : Tmp), es[k]? = some e → es[j]? = some x → e.o.dst = some t → x.o.dst = some t → k = j
  edge : ∀ (k : Nat) (e : Ent), es[k]? = some e → ∀ d ∈ e.o.after, Region.binds .any d = true → d.on < k
  slot : ∀ (k : Nat) (e : Ent), es[k]? = some e → ∀ t ∈ e.o.looksAt ops, ∀ (i : Nat) (x : Ent), es[i]? = some x → x.o.dst = some t → i = k ∨ behind e.o i = true ∨ behind x.o k = true
  chk : ∀ (k : Nat) (e : Ent), es[k]? = some e → (e.eff = true → e.no ≤ e.lo) ∧ (e.eff = false → e.wanted = true → floatOk P e (Hs.take (hiOf es k + 1)) = true)
  hs : Hs.length = countEff es + 1
theorem at_op (hl : Looks P call ops fr0 es Hs) {i : Nat} {o : Oper} (h : ops[i]? = some o) : ∃ e, es[i]? = some e ∧ e.o = o := by
  have : ops.toList[i]? = some o := by simpa using h
  rw [hl.opl, List.getElem?_map] at this
  obtain ⟨e, he, rfl⟩ := Option.map_eq_some_iff.1 this
  exact ⟨e, he, rfl⟩
theorem take_at {i k : Nat} {e : Ent} (h : es[k]? = some e) (hk : k < i) : (es.take i)[k]? = some e := by rw [List.getElem?_take, if_pos hk]; exact h
theorem take_of {i k : Nat} {e : Ent} (h : (es.take i)[k]? = some e) : k < i ∧ es[k]? = some e := by
  rw [List.getElem?_take] at h
  split at h
  · exact ⟨by assumption, h⟩
  · cases h
theorem fr_ready (hl : Looks P call ops fr0 es Hs) {L : Array Bool} {c : Nat} {μ : List Loc} {a : Act} {w : World} (g : Going P ρ base w0 fr0 es Hs μ0 L c μ a w) {i : Nat} {e : Ent} (he : es[i]? = some e) (hi : L.getD i true = false)
    (hd : ∀ d ∈ e.o.after, Region.binds .any d = true → L.getD d.on false = true) : FR ρ μ e.fr a.tmps := by
  have hE := hl.ent i e he
  rw [hE.fr]
  refine ⟨by rw [restr, List.length_map, List.length_zipIdx, frs_length]; simp [g.tsize], fun t x u hx hu => ?_⟩
  rw [restr_at] at hx
  obtain ⟨y, hy, rfl⟩ := Option.map_eq_some_iff.1 hx
  split
  · rename_i hc
    have ht : t ∈ e.o.looksAt ops := by simpa using hc
    have hlt : t < fr0.length := by have := (List.getElem?_eq_some_iff.1 hy).1; rwa [frs_length] at this
    have fin : (∃ v, a.tmps[t]? = some v ∧ VR ρ μ y v) → VR ρ μ y u := by
      rintro ⟨v, hv, hvr⟩
      rw [Array.getElem?_toList, hv] at hu
      simp at hu; subst hu
      exact hvr
    apply fin
    by_cases hw : ∃ (k : Nat) (z : Ent), es[k]? = some z ∧ z.o.dst = some t
    · obtain ⟨k, z, hz, hzd⟩ := hw
      rcases hl.slot i e he t ht k z hz hzd with rfl | hb | hb
      · have h0 : (frs fr0 (es.take k))[t]? = fr0[t]? := frs_none _ _ _ fun q hq hqd => by
          obtain ⟨j, hj, rfl⟩ := List.mem_iff_getElem.1 hq
          have hj2 := take_of (List.getElem?_eq_getElem hj)
          have := hl.dst j k _ z t hj2.2 hz hqd hzd
          omega
        rw [h0] at hy
        exact g.left t y hy fun k' e' hk' hL hd' => by
          have := hl.dst k' k e' z t hk' hz hd' hzd
          subst this
          rw [hi] at hL; cases hL
      · obtain ⟨d, hdm, hdb, rfl⟩ := behind_iff hb
        have hlt2 := hl.edge i e he d hdm hdb
        have hval := frs_some fr0 t hlt (es.take i) d.on z (take_at hz hlt2) hzd fun j q hq hne hqd => hne (hl.dst j d.on q z t (take_of hq).2 hz hqd hzd)
        rw [hval] at hy
        simp at hy; subst hy
        exact g.done d.on z hz (getD_true_lt (hd d hdm hdb)) t hzd hlt
      · obtain ⟨d, hdm, hdb, hon⟩ := behind_iff hb
        have hlt2 := hl.edge k z hz d hdm hdb
        have h0 : (frs fr0 (es.take i))[t]? = fr0[t]? := frs_none _ _ _ fun q hq hqd => by
          obtain ⟨j, hj, rfl⟩ := List.mem_iff_getElem.1 hq
          have hj2 := take_of (List.getElem?_eq_getElem hj)
          have := hl.dst j k _ z t hj2.2 hz hqd hzd
          omega
        rw [h0] at hy
        exact g.left t y hy fun k' e' hk' hL hd' => by
          have := hl.dst k' k e' z t hk' hz hd' hzd
          subst this
          have := g.closed k' z hz hL d hdm hdb
          rw [hon, hi] at this; cases this
    · have hw' : ∀ (k : Nat) (z : Ent), es[k]? = some z → z.o.dst ≠ some t := fun k z hz hd => hw ⟨k, z, hz, hd⟩
      have h0 : (frs fr0 (es.take i))[t]? = fr0[t]? := frs_none _ _ _ fun q hq hqd => by
        obtain ⟨j, hj, rfl⟩ := List.mem_iff_getElem.1 hq
        exact hw' j _ (take_of (List.getElem?_eq_getElem hj)).2 hqd
      rw [h0] at hy
      exact g.left t y hy fun k' e' hk' _ hd' => hw' k' e' hk' hd'
  · exact .u _
theorem Going.step (hl : Looks P call ops fr0 es Hs) {L : Array Bool} {c c' : Nat} {μ μ' : List Loc} {a : Act} {w w' : World} (g : Going P ρ base w0 fr0 es Hs μ0 L c μ a w) {i : Nat} {e : Ent} (he : es[i]? = some e) (hi : L.getD i true = false)
    (hd : ∀ d ∈ e.o.after, Region.binds .any d = true → L.getD d.on false = true) (hlo : e.lo ≤ c) (hc : (e.eff = true ∧ e.no = c ∧ c' = c + 1) ∨ (e.eff = false ∧ c' = c))
    (hext : Ext μ μ') {v' : Value} (hv : VR ρ μ' e.val v') (hr : ∃ H, Hs[c']? = some H ∧ HR P ρ base μ' H w') (hb : Below base w w') :
    Going P ρ base w0 fr0 es Hs μ0 (L.setIfInBounds i true) c' μ' (a.put e.o.dst v') w' := by
  have hil : i < es.length := (List.getElem?_eq_some_iff.1 he).1
  have hLs : ∀ {k : Nat} {x : Ent}, es[k]? = some x → (L.setIfInBounds i true).getD k true = (if k = i then true else L.getD k true) := fun hk => getD_set (by rw [g.size]; exact (List.getElem?_eq_some_iff.1 hk).1)
  have hLt : ∀ {k : Nat} {x : Ent}, es[k]? = some x → (L.setIfInBounds i true).getD k true = true → k = i ∨ L.getD k true = true := by
    intro k x hk h
    rw [hLs hk] at h
    split at h
    · exact .inl (by assumption)
    · exact .inr h
  have hput : ∀ t, e.o.dst ≠ some t → (a.put e.o.dst v').tmps[t]? = a.tmps[t]? := by
    intro t ht
    cases hdd : e.o.dst with
    | none => rfl
    | some d =>
      rw [hdd] at ht
      simp only [Act.put]
      rw [Array.getElem?_setIfInBounds_ne (fun h => ht (by rw [h]))]
  have hts : (a.put e.o.dst v').tmps.size = fr0.length := by cases e.o.dst <;> simp [Act.put, g.tsize]
  refine ⟨by simp [g.size], g.ext.trans hext, hr, g.below.trans hb, hts, ?_, ?_, ?_, ?_, ?_⟩
  · intro k x hk hL t ht hlt
    by_cases hki : k = i
    · subst hki
      obtain rfl : e = x := Option.some.inj (he.symm.trans hk)
      refine ⟨v', ?_, hv⟩
      rw [ht]
      simp only [Act.put]
      rw [Array.getElem?_setIfInBounds_self_of_lt (by rw [g.tsize]; exact hlt)]
    · obtain ⟨v, h1, h2⟩ := g.done k x hk ((hLt hk hL).resolve_left hki) t ht hlt
      exact ⟨v, by rw [hput t (fun h => hki (hl.dst k i x e t hk he ht h))]; exact h1, h2.mono hext⟩
  · intro t x hx hn
    have hne : e.o.dst ≠ some t := hn i e he (by rw [hLs he, if_pos rfl])
    obtain ⟨v, h1, h2⟩ := g.left t x hx fun k y hk hL => hn k y hk (by rw [hLs hk]; split <;> first | rfl | exact hL)
    exact ⟨v, by rw [hput t hne]; exact h1, h2.mono hext⟩
  · intro k x hk hxe
    rw [hLs hk]
    have h0 := g.effs k x hk hxe
    have hno : x.no = countEff (es.take k) := (hl.ent k x hk).no
    rcases hc with ⟨c1, c2, rfl⟩ | ⟨c1, rfl⟩
    · have hno2 : e.no = countEff (es.take i) := (hl.ent i e he).no
      by_cases hki : k = i
      · subst hki
        obtain rfl : e = x := Option.some.inj (he.symm.trans hk)
        simp; omega
      · rw [if_neg hki, h0]
        constructor
        · intro h; omega
        · intro h
          rcases Nat.lt_or_gt_of_ne hki with hlt | hgt
          · have := countEff_take_lt es hk hxe hlt; omega
          · have := countEff_take_lt es he c1 hgt; omega
    · have hki : k ≠ i := fun h => by
        subst h
        obtain rfl : e = x := Option.some.inj (he.symm.trans hk)
        rw [c1] at hxe; cases hxe
      rw [if_neg hki, h0]
  · intro k x hk hL
    have hcc : c ≤ c' := by rcases hc with ⟨_, _, rfl⟩ | ⟨_, rfl⟩ <;> omega
    rcases hLt hk hL with rfl | hL'
    · obtain rfl : e = x := Option.some.inj (he.symm.trans hk)
      omega
    · have := g.los k x hk hL'; omega
  · intro k x hk hL d hdm hdb
    have hon : d.on < k := hl.edge k x hk d hdm hdb
    have hkl : k < es.length := (List.getElem?_eq_some_iff.1 hk).1
    have hon' : es[d.on]? = some es[d.on] := by simp
    rw [hLs hon']
    split
    · rfl
    · rcases hLt hk hL with rfl | hL'
      · obtain rfl : e = x := Option.some.inj (he.symm.trans hk)
        exact getD_true_lt (hd d hdm hdb)
      · exact g.closed k x hk hL' d hdm hdb
theorem unlisted_step {L : Array Bool} {n i : Nat} (hs : L.size = n) (hi : i < n) (h : L.getD i true = false) :
    ((List.range n).countP fun j => !(L.setIfInBounds i true).getD j true) < (List.range n).countP fun j => !L.getD j true := by
  refine countP_lt _ i (List.mem_range.2 hi) (by simp only [h]; rfl) ?_ fun j hj => ?_
  · rw [getD_set (by omega), if_pos rfl]; rfl
  · by_cases e : j = i
    · subst e; rw [h]; rfl
    · rw [getD_set_ne true (fun k => e k.symm)] at hj; exact hj
theorem hiOf_ge {es : List Ent} {i c : Nat} (h : ∀ (k : Nat) (E : Ent), es[k]? = some E → E.eff = true → behind E.o i = true → c ≤ E.no) (hc : c ≤ es.length) : c ≤ hiOf es i := by
  have key : ∀ (l : List Ent) (m : Nat), (∀ E ∈ l, E.eff = true → behind E.o i = true → c ≤ E.no) → c ≤ m → c ≤ l.foldr (fun E m => if E.eff && behind E.o i then min E.no m else m) m := by
    intro l
    induction l with
    | nil => intro m _ hm; exact hm
    | cons E r ih =>
      intro m hl hm
      simp only [List.foldr_cons]
      have h1 := ih m (fun E hE => hl E (List.mem_cons_of_mem _ hE)) hm
      split
      · rename_i hb
        simp only [Bool.and_eq_true] at hb
        have := hl E List.mem_cons_self hb.1 hb.2
        omega
      · exact h1
  refine key es es.length (fun E hE h1 h2 => ?_) hc
  obtain ⟨k, hk⟩ := List.mem_iff_getElem?.1 hE
  exact h k E hk h1 h2
theorem any_done (hρ : ∀ j, (ρ j).oneCell' = true) (hN : NoCount P) (hcall : CallSound P ρ base call) (hl : Looks P call ops fr0 es Hs) {fr' : List AV} {H' : Heap} (hfr : fr' = frs fr0 es) (hH' : Hs[countEff es]? = some H') {a0 : Act} {Q : Exit → Act → World → Prop}
    (hQ : ∀ a' w' μ', Ext μ0 μ' → FR ρ μ' fr' a'.tmps → a'.defers = a0.defers → HR P ρ base μ' H' w' → Below base w0 w' → Q .normal a' w') :
    ∀ (n : Nat) (L : Array Bool) (c : Nat) (μ : List Loc) (a : Act) (w : World), Going P ρ base w0 fr0 es Hs μ0 L c μ a w → a.defers = a0.defers → ((List.range es.length).countP fun j => !L.getD j true) ≤ n → wpAny P .any ops Q n L a w := by
  have hol : ops.size = es.length := by rw [← Array.length_toList, hl.opl, List.length_map]
  have fin : ∀ (L : Array Bool) (c : Nat) (μ : List Loc) (a : Act) (w : World), Going P ρ base w0 fr0 es Hs μ0 L c μ a w → a.defers = a0.defers → (∀ k, k < es.length → L.getD k true = true) → Q .normal a w := by
    intro L c μ a w g hd hall
    obtain ⟨H, hH, hr⟩ := g.hr
    have hc : c = countEff es := by
      have h1 : c < Hs.length := (List.getElem?_eq_some_iff.1 hH).1
      rw [hl.hs] at h1
      rcases Nat.lt_or_ge c (countEff es) with h2 | h2
      · obtain ⟨k, e, hk, he, hkc⟩ := eff_at es es.length c (by rwa [List.take_length])
        have h3 := (g.effs k e hk he).1 (hall k (List.getElem?_eq_some_iff.1 hk).1)
        rw [(hl.ent k e hk).no] at h3
        omega
      · omega
    subst hc
    obtain rfl : H = H' := Option.some.inj (hH.symm.trans hH')
    refine hQ a w μ g.ext ?_ hd hr g.below
    subst hfr
    refine ⟨by rw [frs_length]; simp [g.tsize], fun t x u hx hu => ?_⟩
    have hlt : t < fr0.length := by have := (List.getElem?_eq_some_iff.1 hx).1; rwa [frs_length] at this
    have fin : (∃ v, a.tmps[t]? = some v ∧ VR ρ μ x v) → VR ρ μ x u := by
      rintro ⟨v, hv, hvr⟩
      rw [Array.getElem?_toList, hv] at hu
      simp at hu; subst hu
      exact hvr
    apply fin
    by_cases hw : ∃ (k : Nat) (z : Ent), es[k]? = some z ∧ z.o.dst = some t
    · obtain ⟨k, z, hz, hzd⟩ := hw
      rw [frs_some fr0 t hlt es k z hz hzd fun j q hq hne hqd => hne (hl.dst j k q z t hq hz hqd hzd)] at hx
      simp at hx; subst hx
      exact g.done k z hz (hall k (List.getElem?_eq_some_iff.1 hz).1) t hzd hlt
    · rw [frs_none fr0 t es fun q hq hqd => by
        obtain ⟨j, hj, rfl⟩ := List.mem_iff_getElem.1 hq
        exact hw ⟨j, _, List.getElem?_eq_getElem hj, hqd⟩] at hx
      exact g.left t x hx fun k e hk _ hd' => hw ⟨k, e, hk, hd'⟩
  have none_ready : ∀ (L : Array Bool), L.size = es.length → Region.ready .any ops L = [] → ∀ k, k < es.length → L.getD k true = true := by
    intro L hs hr k
    induction k using Nat.strongRecOn with
    | _ k ih =>
      intro hk
      cases hL : L.getD k true with
      | true => rfl
      | false =>
        exfalso
        have hmem : k ∈ Region.ready .any ops L := by
          rw [mem_ready]
          have hke : es[k]? = some es[k] := by simp [hk]
          have ho : ops[k]? = some es[k].o := by
            have : ops.toList[k]? = some es[k].o := by rw [hl.opl, List.getElem?_map, hke]; rfl
            simpa using this
          refine ⟨hL, _, ho, fun d hdm hdb => ?_⟩
          have hlt := hl.edge k _ hke d hdm hdb
          have := ih d.on hlt (by omega)
          rwa [getD_in (by omega) true false] at this
        rw [hr] at hmem
        cases hmem
  intro n
  induction n with
  | zero =>
    intro L c μ a w g hd hn
    have hall : ∀ k, k < es.length → L.getD k true = true := by
      intro k hk
      have h0 : ((List.range es.length).countP fun j => !L.getD j true) = 0 := by omega
      rw [List.countP_eq_zero] at h0
      have := h0 k (List.mem_range.2 hk)
      simpa using this
    refine ⟨?_, fin L c μ a w g hd hall⟩
    apply List.eq_nil_iff_forall_not_mem.2
    intro k hk
    obtain ⟨h1, o, ho, _⟩ := mem_ready.1 hk
    have hlt : k < es.length := by rw [← hol]; exact (Array.getElem?_eq_some_iff.1 ho).1
    rw [hall k hlt] at h1; cases h1
  | succ n ih =>
    intro L c μ a w g hd hn
    refine ⟨fun hr => fin L c μ a w g hd (none_ready L g.size hr), fun i hi => ?_⟩
    obtain ⟨hLi, o, ho, hdeps⟩ := mem_ready.1 hi
    obtain ⟨e, he, rfl⟩ := at_op hl ho
    have hil : i < es.length := (List.getElem?_eq_some_iff.1 he).1
    have hE := hl.ent i e he
    have hF := fr_ready hl g he hLi hdeps
    have hcnt := unlisted_step g.size hil hLi
    have hlo : e.lo ≤ c := by
      rw [hE.lo]
      refine loOf_le _ c _ fun d hdm hdb => ?_
      have hdm' : d ∈ e.o.after := by simpa using hdm
      have hlt := hl.edge i e he d hdm' hdb
      have hon : es[d.on]? = some es[d.on] := by simp
      unfold depOf
      rw [take_at hon hlt]
      have hLd := getD_true_lt (hdeps d hdm' hdb)
      simp only
      split
      · rename_i hef
        have := (g.effs _ _ hon hef).1 hLd
        omega
      · exact g.los _ _ hon hLd
    have next : ∀ (c' : Nat) (v' : Value) (w' : World) (μ' : List Loc), ((e.eff = true ∧ e.no = c ∧ c' = c + 1) ∨ (e.eff = false ∧ c' = c)) → Ext μ μ' → VR ρ μ' e.val v' → (∃ H, Hs[c']? = some H ∧ HR P ρ base μ' H w') → Below base w w' →
        wpAny P .any ops Q n (L.setIfInBounds i true) (a.put e.o.dst v') w' := by
      intro c' v' w' μ' hc hext hv hr hb
      exact ih _ c' μ' _ w' (g.step hl he hLi hdeps hlo hc hext hv hr hb) ((put_defers ..).trans hd) (by omega)
    obtain ⟨Hc, hHc, hrc⟩ := g.hr
    unfold wpOp
    rw [ho]
    simp only
    have hwant := want_eq hF hE.want
    cases hw : e.wanted with
    | false =>
      rw [hw] at hwant
      rw [if_neg (by rw [hwant]; simp)]
      obtain ⟨h1, h2⟩ := hE.skip hw
      exact next c undef w μ (.inr ⟨h1, rfl⟩) (Ext.refl _) (by rw [h2]; exact VR.undef) ⟨Hc, hHc, hrc⟩ (Below.refl _ _)
    | true =>
      rw [hw] at hwant
      rw [if_pos hwant]
      left
      cases hef : e.eff with
      | true =>
        obtain ⟨_, H1, H2, k1, k2, k3⟩ := hE.eff hef
        have hno : e.no = c := by
          have h1 := (hl.chk i e he).1 hef
          have h2 : ¬ e.no < c := fun h => by
            have := (g.effs i e he hef).2 h
            rw [hLi] at this; cases this
          omega
        rw [hno] at k1 k2
        obtain rfl : Hc = H1 := Option.some.inj (hHc.symm.trans k1)
        refine oneOp_wp hρ hN hcall hrc hF k3 fun v' w' μ' e1 e2 e3 e4 => ?_
        exact next (c + 1) v' w' μ' (.inl ⟨hef, hno, rfl⟩) e1 e2 ⟨H2, k2, e3⟩ e4
      | false =>
        have hflt := (hl.chk i e he).2 hef hw
        unfold floatOk at hflt
        rw [List.all_eq_true] at hflt
        have hhi : c ≤ hiOf es i := by
          refine hiOf_ge (fun k E hk hE1 hE2 => ?_) ?_
          · rcases Nat.lt_or_ge E.no c with hlt | hge
            · exfalso
              have hdn := (g.effs k E hk hE1).2 hlt
              unfold behind at hE2
              rw [List.any_eq_true] at hE2
              obtain ⟨d, hd1, hd2⟩ := hE2
              simp only [Bool.and_eq_true, beq_iff_eq] at hd2
              have := g.closed k E hk hdn d (by simpa using hd1) hd2.1
              rw [hd2.2, hLi] at this
              cases this
            · exact hge
          · have hc1 : c < Hs.length := (List.getElem?_eq_some_iff.1 hHc).1
            have h1 := hl.hs
            have h2 : countEff es ≤ es.length := List.length_filter_le _ _
            omega
        have hmem : Hc ∈ (Hs.take (hiOf es i + 1)).drop e.lo := by
          have hc1 : c < Hs.length := (List.getElem?_eq_some_iff.1 hHc).1
          have hc2 : Hs[c] = Hc := (List.getElem?_eq_some_iff.1 hHc).2
          rw [← hc2]
          refine List.mem_iff_getElem.2 ⟨c - e.lo, by simp; omega, ?_⟩
          rw [List.getElem_drop, List.getElem_take]
          congr 1
          omega
        have hv := hflt Hc hmem
        split at hv
        · rename_i v Hx hop
          have hvv := sameV_eq hv
          obtain rfl := float_heap (hE.flt hef hw) hop
          refine opA_wp hρ hrc hF hop fun v' w' μ' e1 e2 e3 e4 => ?_
          exact next c v' w' μ' (.inr ⟨hef, rfl⟩) e1 (by rw [← hvv]; exact e2) ⟨_, hHc, e3⟩ e4
        · cases hv
end
theorem drawA_sound {P : Program} {ρ : Nat → Value} {base : Nat} (hρ : ∀ j, (ρ j).oneCell' = true) (hN : NoCount P) : DrawSound P ρ base (drawA P) := by
  intro call hcall id ops fr H fr' H' h μ a w Q hr hf hQ
  unfold drawA at h
  split at h
  · rename_i hck
    simp only [Bool.and_eq_true] at hck
    obtain ⟨⟨⟨hm, hedge⟩, hslot⟩, hdst⟩ := hck
    split at h
    · rename_i es Hs fr1 H1 hlex
      split at h
      · rename_i hall
        simp at h
        obtain ⟨rfl, rfl⟩ := h
        obtain ⟨et, he1, he2, he3, he4, he5, he6, he7⟩ := lexA_spec (fr0 := fr) ops.toList [] [H] H es Hs fr1 H1 hlex rfl rfl
        simp only [List.nil_append] at he1
        subst he1
        have hops : ∀ (k : Nat) (e : Ent), es[k]? = some e → (e.o, k) ∈ ops.toList.zipIdx := by
          intro k e hk
          rw [List.mem_zipIdx_iff_getElem?]
          rw [← he2, List.getElem?_map, hk]; rfl
        have hl : Looks P call ops fr es Hs := by
          refine ⟨he2.symm, fun k e hk => by simpa using he7 k e hk, ?_, ?_, ?_, ?_, he4⟩
          · intro k j e x t hk hj h1 h2
            unfold dstsOk at hdst
            rw [List.all_eq_true] at hdst
            have := hdst _ (hops k e hk)
            simp only [List.all_eq_true] at this
            have := this _ (hops j x hj)
            simp only [Bool.or_eq_true, beq_iff_eq, bne_iff_ne] at this
            rcases this with (h3 | h3) | h3
            · exact h3.symm
            · rw [h1] at h3; cases h3
            · exact absurd (h2.trans h1.symm) h3
          · intro k e hk d hdm hdb
            unfold edgesOk at hedge
            rw [List.all_eq_true] at hedge
            have := hedge _ (hops k e hk)
            simp only [List.all_eq_true] at this
            have := this d (by simpa using hdm)
            simpa [hdb] using this
          · intro k e hk t ht i x hi hx
            unfold slotsOk at hslot
            rw [List.all_eq_true] at hslot
            have := hslot _ (hops k e hk)
            simp only [List.all_eq_true] at this
            have := this t ht _ (hops i x hi)
            simp only [Bool.or_eq_true, beq_iff_eq, bne_iff_ne] at this
            rcases this with ((h3 | h3) | h3) | h3
            · exact absurd hx h3
            · exact .inl h3
            · exact .inr (.inl h3)
            · exact .inr (.inr h3)
          · intro k e hk
            rw [List.all_eq_true] at hall
            have := hall (e, k) (by rw [List.mem_zipIdx_iff_getElem?]; exact hk)
            refine ⟨fun h1 => ?_, fun h1 h2 => ?_⟩
            · rw [if_pos h1] at this; simpa using this
            · rw [if_neg (by rw [h1]; simp), h2] at this; simpa using this
        have hol : ops.size = es.length := by rw [← Array.length_toList, ← he2, List.length_map]
        refine wp_region_any hm ?_
        have hrep : ∀ k, (Array.replicate ops.size false).getD k true = true → ¬ k < ops.size := by
          intro k h1 h2
          rw [getD_in (by simpa using h2) true false] at h1
          simp [h2] at h1
        have hg : Going P ρ base { w with drawn := w.drawn + 1 } fr es Hs μ (Array.replicate ops.size false) 0 μ a { w with drawn := w.drawn + 1 } := by
          have hsz := hf.1
          refine ⟨by simp [hol], Ext.refl _, ⟨H, ?_, hr.drew⟩, Below.refl _ _, by simpa using hsz.symm, ?_, ?_, ?_, ?_, ?_⟩
          · rw [he6 0 (by simp)]; rfl
          · intro k e hk hL; exact absurd (by rw [hol]; exact (List.getElem?_eq_some_iff.1 hk).1) (hrep k hL)
          · intro t x hx _
            obtain ⟨v, h1, h2⟩ := VRs.at hf hx
            exact ⟨v, by simpa using h1, h2⟩
          · intro k e hk he
            constructor
            · intro hL; exact absurd (by rw [hol]; exact (List.getElem?_eq_some_iff.1 hk).1) (hrep k hL)
            · intro h; omega
          · intro k e hk hL; exact absurd (by rw [hol]; exact (List.getElem?_eq_some_iff.1 hk).1) (hrep k hL)
          · intro k e hk hL; exact absurd (by rw [hol]; exact (List.getElem?_eq_some_iff.1 hk).1) (hrep k hL)
        refine any_done hρ hN hcall hl he3 he5 (a0 := a) (fun a' w' μ' e1 e2 e3 e4 e5 => hQ a' w' μ' e1 e2 e3 e4 ?_) ops.size _ 0 μ a _ hg rfl ?_
        · exact ((Below.refl base w).drew).trans e5
        · have := List.countP_le_length (p := fun j => !(Array.replicate ops.size false).getD j true) (l := List.range es.length)
          simp at this ⊢
          omega
      · cases h
    · cases h
  · cases h
end Go.Proofs.YtiifcfngbbhgoagDoor.Ax

namespace Go.Proofs.YtiifcfngbbhgoagDoor.Ax
open Go Go.RowKit
def isTrue : Option (AV × Heap) → Bool
  | some (.b true, _) => true
  | _ => false
def noCount (P : Program) : Bool := P.funcs.toList.all fun fn => !(fn.name == "runtime.NumGoroutine")
theorem noCount_iff {P : Program} (h : noCount P = true) : NoCount P := by
  intro f fn hf
  unfold noCount at h
  rw [List.all_eq_true] at h
  have := h fn (by
    have := Array.mem_of_getElem? hf
    simpa using this)
  simpa using this
def verS (f : FuncId) (most v : Int) : CallA := fun g args H =>
  if g = f then (match args with | [.k 0, .i .i64 m] => if m = most then some (.i .i64 v, H) else none | _ => none) else none
def noS : CallA := fun _ _ _ => none
theorem noS_sound {P : Program} {ρ : Nat → Value} {base : Nat} : CallSound P ρ base noS := fun f args H v H' h => by cases h
def allTrue (P : Program) (ver law : FuncId) (most n : Nat) : Bool := (List.range (most + 1)).all fun v => isTrue (run P (verS ver most v) n law [.k 0] [])
end Go.Proofs.YtiifcfngbbhgoagDoor.Ax

