import Derived.Test.YtopfghmpaobnnaaDoorQRdKit
import Derived.Test.YtopfghmpaobnnaaDoorQWireE
/-
  A CHECKER that runs a message's reading code on values that are known in part: definitions. What it gives is the format that the code reads.
-/
namespace Go.Proofs.YtopfghmpaobnnaaDoor.Rd
set_option linter.constructorNameAsVariable false
set_option linter.unusedVariables false
set_option linter.unusedSimpArgs false
open Go Go.Proofs.YtopfghmpaobnnaaDoor.Ax Go.Proofs.YtopfghmpaobnnaaDoor.Wire

/-- Constants of one cell. -/
inductive CK where
  | s0 | se | m0 | p0 | n | e | str
  deriving DecidableEq, Repr
def CK.av : CK → AV
  | .s0 => .s0
  | .se => .se
  | .m0 => .m0
  | .p0 => .p0
  | .n => .n
  | .e => .e
  | .str => .s ⟨#[]⟩

/-- What is known of a value. 'ptr l o': it points to cell o of the struct of level l; 'pt n': what part n of the message is; 'cel n j': a cell of that; 'row', 'len', 'idx', 'nxt', 'fin': the slice of a level, its length, the place in it, the next one, the one behind the last; 'lq': a length that was just read; 'neg': a number below 0. -/
inductive SV where
  | u
  | b (x : Bool)
  | i (k : IntKind) (n : Int)
  | z (c : CK)
  | rd
  | ptr (l o : Nat)
  | pt (n : Nat)
  | cel (n j : Nat)
  | row (l : Nat)
  | len (l : Nat)
  | idx (l : Nat)
  | nxt (l : Nat)
  | fin (l : Nat)
  | lq
  | neg
  deriving DecidableEq, Repr

def SV.con : SV → Option AV
  | .b x => some (.b x)
  | .i k n => some (.i k n)
  | .z c => some c.av
  | _ => none
def ofA : AV → SV
  | .b x => .b x
  | .i k n => .i k n
  | .s0 => .z .s0
  | .se => .z .se
  | .m0 => .z .m0
  | .p0 => .z .p0
  | .n => .z .n
  | .e => .z .e
  | .s x => if x.size = 0 then .z .str else .u
  | _ => .u

abbrev SF := List SV

def evS (fr : SF) : Operand → Option SV
  | .tmp t => fr[t]?
  | .const v => (ofV v).map ofA
  | _ => none

/-- The kinds of functions that are called. -/
inductive Prim where
  | leaf (k : K) (null : Bool) (fx : Option Bool)
  | len (fx : Bool)
  | ok
  | done
  | tags
  | inl
  deriving DecidableEq

/-- The state: what is known of the frame and of the structs' cells; of a list's level what the cells of the elements behind are; how many levels have gone on; how many parts stood ahead; the parts that this code has read; is there a reader already. -/
structure SS where
  fr : SF
  win : List SF
  zs : List (Option SF)
  live : Nat
  base : Nat
  evs : List Ev
  rdy : Bool
  deriving DecidableEq

def SS.put (s : SS) (d : Option Tmp) (v : SV) : SS :=
  match d with
  | some d => { s with fr := s.fr.set d v }
  | none => s

noncomputable def binS (op : BinOp) (t : TypeId) (c : Bool) (x y : SV) : Option SV :=
  match x.con, y.con with
  | some a, some b => (binA P op t c a b).map ofA
  | _, _ => match op, x, y with
    | .lss, .idx l, .len l' => if l = l' then some (.b true) else none
    | .lss, .fin l, .len l' => if l = l' then some (.b false) else none
    | .lss, .i .i32 0, .neg => some (.b false)
    | .gtr, .neg, .i .i32 0 => some (.b false)
    | .gtr, .len _, .i .i32 0 => some (.b true)
    | .eql, .neg, .i .i32 0 => some (.b false)
    | .eql, .len _, .i .i32 0 => some (.b false)
    | .add, .idx l, .i .i32 1 => some (.nxt l)
    | _, _, _ => none

/-- An operation that leaves the heap as it is. -/
noncomputable def pureS (o : Op) (s : SS) : Option SV :=
  match o with
  | .move x | .assign x => evS s.fr x
  | .pick c a b => match evS s.fr c with
    | some (.b true) => evS s.fr a
    | some (.b false) => evS s.fr b
    | _ => none
  | .nilCheck x => match evS s.fr x with
    | some (.ptr l o) => some (.ptr l o)
    | _ => none
  | .fieldAddr t x k => match evS s.fr x with
    | some (.ptr l o) => match fieldAddrA P t (.p 0 o) k with
      | some (.p _ o') => some (.ptr l o')
      | _ => none
    | _ => none
  | .indexAddr t x k => match evS s.fr x, evS s.fr k with
    | some (.row l), some (.idx l') => match (elemA P t).bind (sizeA P), s.win[l]? with
      | some sz, some w => if l = l' ∧ w.length = sz then some (.ptr l 0) else none
      | _, _ => none
    | _, _ => none
  | .load t x => match evS s.fr x with
    | some (.ptr l o) => match aggA P t, s.win[l]? with
      | some false, some w => w[o]?
      | _, _ => none
    | _ => none
  | .binOp op t x y _ => match evS s.fr x, evS s.fr y with
    | some a, some b => binS op t (isC x || isC y) a b
    | _, _ => none
  | .unOp op _ x => match (evS s.fr x).bind SV.con with
    | some a => (unA op a).map ofA
    | none => none
  | .convert sr d x => match (evS s.fr x).bind SV.con with
    | some a => (convA P sr d a).map ofA
    | none => none
  | .slice t x none (some h) none => match (evS s.fr x).bind SV.con, (evS s.fr h).bind SV.con with
    | some a, some b => (sliceA P t a none (some b)).map ofA
    | _, _ => none
  | _ => none

/-- The cells that a value comes to. -/
def cellsS (v : SV) (sz : Nat) : Option SF :=
  match v with
  | .pt n => some ((List.range sz).map (.cel n))
  | .cel n j => if sz = 1 then some [.cel n j] else none
  | v => if sz = 1 ∧ v.con.isSome then some [v] else none
def setAll (w : SF) (o : Nat) : SF → SF
  | [] => w
  | v :: r => setAll (w.set o v) (o + 1) r
/-- Is a part as wide as that? -/
def ptOk (s : SS) (v : SV) (w : Nat) : Bool :=
  match v with
  | .pt n => decide (s.base ≤ n) && (s.evs[n - s.base]?).map Ev.wide == some w
  | _ => true
noncomputable def storeS (t : TypeId) (a v : SV) (s : SS) : Option SS :=
  match a with
  | .ptr l o => match s.win[l]?, (sizeA P t).bind (cellsS v) with
    | some w, some cs => if o + cs.length ≤ w.length ∧ ptOk s v cs.length = true then some { s with win := s.win.set l (setAll w o cs) } else none
    | _, _ => none
  | _ => none
noncomputable def zerosS (e : TypeId) : Option SF := (zeroA P e).bind fun z => if (z.cells.all fun c => ofA c != .u) then some (z.cells.map ofA) else none

/-- What the checker is told: the functions; the slot of the result; is the message flexible. -/
structure Cfg where
  prim : List (FuncId × Prim)
  res : Nat
  flex : Bool
/-- What is known of the reader's state ('none': nothing); the calls that may be entered. -/
abbrev Inl := FuncId → SF → SS → Option SS

def fxOk (flex : Bool) : Option Bool → Bool
  | none => true
  | some x => x == flex

noncomputable def opS (C : Cfg) (mode : Option Bool) (inl : Inl) (o : Oper) (s : SS) : Option SS :=
  match o.op with
  | .store t a x => match evS s.fr a, evS s.fr x with
    | some a, some v => (storeS t a v s).map fun s => s.put o.dst .u
    | _, _ => none
  | .call { callee := .value (.func f), args, .. } => match C.prim.lookup f, args.toList with
    | some (.leaf k n fx), [x] => if evS s.fr x = some .rd ∧ mode = none ∧ fxOk C.flex fx ∧ s.rdy = true then some ({ s with evs := s.evs ++ [Ev.leaf k n] }.put o.dst (.pt (s.base + s.evs.length))) else none
    | some .tags, [x] => if evS s.fr x = some .rd ∧ mode = none ∧ s.rdy = true then some ({ s with evs := s.evs ++ [Ev.tags] }.put o.dst (.pt (s.base + s.evs.length))) else none
    | some .ok, [x] => match mode with
      | some m => if evS s.fr x = some .rd ∧ s.rdy = true then some (s.put o.dst (.b m)) else none
      | none => none
    | some .done, [x] => match mode with
      | some m => if evS s.fr x = some .rd ∧ s.rdy = true then some (s.put o.dst (.z (if m then .n else .e))) else none
      | none => none
    | some .inl, [x] => match evS s.fr x with
      | some (.ptr l o') => (inl f [.ptr l o'] s).map fun s => s.put o.dst .u
      | _ => none
    | _, _ => none
  | .buildSlice t n ps => if n = 0 ∧ ps.toList.isEmpty then match elemA P t with
    | some e => match sizeA P e, zeroA P e with
      | some _, some _ => some (s.put o.dst (.z .se))
      | _, _ => none
    | none => none
    else none
  | .call { callee := .builtin .append, args, argTypes } => match args.toList, argTypes.toList with
    | [a, x], [t1, t2] => match evS s.fr a, evS s.fr x, elemA P t1, P.underlying t2 with
      | some (.z .s0), some (.len l), some e, some (.int _) => match sizeA P e, bytesA P e, zerosS e with
        | some sz, some by_, some zs => if 0 < sz ∧ zs.length = sz ∧ by_ ≤ 65536 ∧ l = s.win.length then some ({ s with win := s.win ++ [zs], zs := s.zs ++ [some zs] }.put o.dst (.row l)) else none
        | _, _, _ => none
      | _, _, _, _ => none
    | _, _ => none
  | op => (pureS op s).map fun v => s.put o.dst v
/-- Is the operation wanted? -/
def wantS (ops : List Oper) (s : SS) : Option (Nat × Bool) → Option Bool
  | none => some true
  | some (j, w) => match (ops[j]?).bind (·.dst) with
    | some d => match s.fr[d]? with
      | some (.b x) => some (x == w)
      | _ => none
    | none => none
noncomputable def opsS (C : Cfg) (mode : Option Bool) (inl : Inl) (ops : List Oper) : List Oper → SS → Option SS
  | [], s => some s
  | o :: r, s => match wantS ops s o.guard with
    | some true => (opS C mode inl o s).bind (opsS C mode inl ops r)
    | some false => opsS C mode inl ops r (s.put o.dst .u)
    | none => none

inductive XS where
  | normal | ret | exit (id : Nat)
  deriving DecidableEq

/-- A run of code on one way. -/
noncomputable def runS (C : Cfg) (mode : Option Bool) (inl : Inl) : Nat → Code → SS → Option (XS × SS)
  | 0, _, _ => none
  | n + 1, c, s => match c with
    | .skip => some (.normal, s)
    | .region _ ops false => (opsS C mode inl ops.toList ops.toList s).map fun s => (.normal, s)
    | .seq a b => match runS C mode inl n a s with
      | some (.normal, s) => runS C mode inl n b s
      | r => r
    | .cond c a b => match evS s.fr c with
      | some (.b true) => runS C mode inl n a s
      | some (.b false) => runS C mode inl n b s
      | _ => none
    | .block id b => match runS C mode inl n b s with
      | some (.exit j, s) => if j = id then some (.normal, s) else some (.exit j, s)
      | r => r
    | .loop b => match runS C mode inl n b s with
      | some (.normal, _) => none
      | r => r
    | .exit id => some (.exit id, s)
    | .ret => some (.ret, s)
    | _ => none

def fuelI : Nat := 100
/-- Functions without a result that are entered, to so much depth. -/
noncomputable def inlStep (C : Cfg) (inl : Inl) : Inl := fun f args s => match P.funcs[f]? with
    | some fn => match fn.body with
      | some c => if fn.results.size = 0 then match runS C (some true) inl fuelI c { s with fr := args ++ List.replicate (fn.ntmps - args.length) .u }, runS C (some false) inl fuelI c { s with fr := args ++ List.replicate (fn.ntmps - args.length) .u } with
        | some (x, s'), some (x', s'') => if (x = .normal ∨ x = .ret) ∧ x' = x ∧ s'' = s' ∧ s'.win.length = s.win.length ∧ s'.evs = s.evs ∧ s'.zs = s.zs ∧ s'.live = s.live ∧ s'.base = s.base ∧ s'.rdy = s.rdy then some { s with win := s'.win } else none
        | _, _ => none
        else none
      | none => none
    | none => none
noncomputable def inlS (C : Cfg) : Nat → Inl
  | 0 => fun _ _ _ => none
  | n + 1 => inlStep C (inlS C n)

def flat : Code → List Code
  | .seq a b => flat a ++ flat b
  | .skip => []
  | c => [c]
/-- A row of pieces, on one way. -/
noncomputable def runL (C : Cfg) (mode : Option Bool) (inl : Inl) (n : Nat) : List Code → SS → Option (XS × SS)
  | [], s => some (.normal, s)
  | c :: r, s => match runS C mode inl n c s with
    | some (.normal, s) => runL C mode inl n r s
    | x => x
def isLoop : Code → Bool
  | .block _ (.loop _) => true
  | _ => false
def opDst (ops : List Oper) : List Nat := ops.filterMap (·.dst)
def dsts : Code → List Nat
  | .seq a b => dsts a ++ dsts b
  | .region _ ops _ => opDst ops.toList
  | .cond _ a b => dsts a ++ dsts b
  | .block _ b => dsts b
  | .loop b => dsts b
  | .scope b => dsts b
  | _ => []

def substF (v : SV) (fr : SF) : SF := fr.map fun x => if x = .lq then v else x
/-- Of level l, or above it. -/
def SV.high (l n : Nat) : SV → Bool
  | .ptr k _ | .row k | .len k | .idx k | .nxt k | .fin k => decide (l ≤ k)
  | .pt k | .cel k _ => decide (n ≤ k)
  | .lq | .neg => true
  | _ => false
/-- A cell's value that speaks of no level. -/
def SV.still : SV → Bool
  | .cel _ _ | .u => true
  | v => v.con.isSome
/-- It speaks of nothing that turns in a loop of level l. -/
def SV.calm (l : Nat) : SV → Bool
  | .ptr k _ | .idx k | .nxt k | .fin k => decide (k < l)
  | .lq | .neg => false
  | _ => true
def joinV (l n : Nat) (zv : SV) (p z m : SV) : SV :=
  if p = .row l ∧ z = zv ∧ m = .z .s0 then .pt n
  else if p = z ∧ z = m ∧ !p.high l n then p else .u
def joinF (l n : Nat) (zv : SV) : SF → SF → SF → SF
  | p :: ps, z :: zs, m :: ms => joinV l n zv p z m :: joinF l n zv ps zs ms
  | _, _, _ => []
/-- Where a part lies. -/
def placeOf (w : SF) (n wide : Nat) : Option Nat :=
  let o := w.findIdx (· = .cel n 0)
  if (List.range wide).all fun j => w[o + j]? = some (.cel n j) then some o else none
def places (w : SF) : Nat → List Ev → Option (List (Ev × Nat))
  | _, [] => some []
  | n, e :: r => match placeOf w n e.wide, places w (n + 1) r with
    | some o, some l => some ((e, o) :: l)
    | _, _ => none
/-- What is known holds behind as it held ahead. -/
def sameF (a b : SF) : Bool := a.length == b.length && (a.zip b).all fun (x, y) => x == .u || x == y
def iSlot : List Code → Option Nat
  | .region _ ops _ :: _ => match ops.toList with
    | ⟨_, .move (.tmp t), _, _, _, _⟩ :: _ => some t
    | _ => none
  | _ => none

/-- The frame at the head of a list's loop. -/
def headF (l it : Nat) (b : Code) (fr : SF) : SF := ((dsts b).foldl (fun fr t => fr.set t .u) fr).set it (.idx l)
/-- May the list be null? -/
def nullOf (l n : Nat) (p z m : SF) : Bool := decide (joinF l n (.z .se) p z m ≠ joinF l n .u p z m)
/-- Does a region begin with the reading of a length? -/
def lenOp (C : Cfg) : List Oper → Option (Nat × Operand × List Oper)
  | ⟨some d, .call { callee := .value (.func f), args, .. }, _, _, _, none⟩ :: r => match C.prim.lookup f, args.toList with
    | some (.len fx), [x] => if fx = C.flex then some (d, x, r) else none
    | _, _ => none
  | _ => none

/-- A list, from the reading of its length on. -/
noncomputable def chkSeg (C : Cfg) (rec : List Code → SS → Option SS) (s : SS) (d : Nat) (x : Operand) (r ops : List Oper) (rest : List Code) : Option SS :=
  if evS s.fr x = some .rd ∧ s.fr.contains .lq = false ∧ (s.win.all fun w => !w.contains .lq) = true ∧ (s.zs.all fun z => (z.getD []).all fun v => v.con.isSome) = true ∧ (s.win.all fun w => w.all SV.still) = true ∧ s.rdy = true then
    let l := s.win.length
    let n := s.base + s.evs.length
    match opsS C none (inlS C 6) ops r { s with fr := s.fr.set d .lq, live := l, base := n, evs := [] }, rest.dropWhile (fun c => !isLoop c) with
    | some s1, .block id (.loop b) :: tail =>
      let pre := rest.takeWhile (fun c => !isLoop c)
      match runL C (some false) (inlS C 6) fuelI pre { s1 with fr := substF (.i .i32 0) s1.fr },
        runL C (some true) (inlS C 6) fuelI (pre ++ [.block id (.loop b)]) { s1 with fr := substF (.i .i32 0) s1.fr },
        runL C (some true) (inlS C 6) fuelI (pre ++ [.block id (.loop b)]) { s1 with fr := substF .neg s1.fr },
        runL C (some true) (inlS C 6) fuelI pre { s1 with fr := substF (.len l) s1.fr }, iSlot (flat b) with
      | some (.ret, sb), some (.normal, s0), some (.normal, sn), some (.normal, sp), some it =>
        let hd := headF l it b sp.fr
        match sp.win.drop l with
        | [w0] =>
          match rec (flat b) { sp with fr := hd, live := l + 1 },
            runS C (some true) (inlS C 6) fuelI b { sp with fr := hd.set it (.fin l), win := s.win ++ [[]], zs := s.zs ++ [none], live := l + 1 },
            runS C (some false) (inlS C 6) fuelI b { sp with fr := hd.set it (.fin l), win := s.win ++ [[]], zs := s.zs ++ [none], live := l + 1 } with
          | some s2, some (.exit j, s3), some (.exit j', s4) =>
            match s2.win.drop l with
            | [w1] => match places w1 n s2.evs with
              | some pl =>
                if sb.fr[C.res]? = some (.z .e) ∧ j = id ∧ sp.fr[it]? = some (.i .i32 0) ∧ s2.fr[it]? = some (.nxt l) ∧ sameF (hd.set it .u) s2.fr = true ∧ s2.win.take l = s.win ∧ sp.win.take l = s.win
                  ∧ s0.win = s.win ∧ sn.win = s.win ∧ s3.win.take l = s.win ∧ s0.zs = s.zs ∧ sn.zs = s.zs ∧ s3.zs.take l = s.zs ∧ s2.zs = sp.zs ∧ s1.evs = [] ∧ (hd.set it .u).all (SV.calm l) = true ∧ it < hd.length ∧ s4 = s3 ∧ j' = id
                  ∧ sp.zs = s.zs ++ [some w0] ∧ w0.all (fun v => v.con.isSome) = true ∧ s3.fr.length = s.fr.length ∧ s0.fr.length = s.fr.length ∧ sn.fr.length = s.fr.length ∧ s3.rdy = true ∧ s0.rdy = true ∧ sn.rdy = true then
                  rec tail { s with fr := joinF l n (if nullOf l n s3.fr s0.fr sn.fr then .z .se else .z .s0) s3.fr s0.fr sn.fr, evs := s.evs ++ [Ev.list w0.length (nullOf l n s3.fr s0.fr sn.fr) (nodes pl)] }
                else none
              | none => none
            | _ => none
          | _, _, _ => none
        | _ => none
      | _, _, _, _, _ => none
    | _, _ => none
  else none
/-- One step of the checker. -/
noncomputable def chkStep (C : Cfg) (rec : List Code → SS → Option SS) : List Code → SS → Option SS
  | [], s => some s
  | .region _ ops false :: rest, s => match lenOp C ops.toList with
    | some (d, x, r) => chkSeg C rec s d x r ops.toList rest
    | none => (opsS C none (inlS C 6) ops.toList ops.toList s).bind (rec rest)
  | .cond c a b :: rest, s => match evS s.fr c with
    | some (.b true) => rec (flat a ++ rest) s
    | some (.b false) => rec (flat b ++ rest) s
    | _ => none
  | .block _ b :: rest, s => rec (flat b ++ rest) s
  | _, _ => none
/-- The checker: code, one piece behind the other. -/
noncomputable def chk (C : Cfg) : Nat → List Code → SS → Option SS
  | 0 => fun _ _ => none
  | f + 1 => chkStep C (chk C f)
end Go.Proofs.YtopfghmpaobnnaaDoor.Rd

