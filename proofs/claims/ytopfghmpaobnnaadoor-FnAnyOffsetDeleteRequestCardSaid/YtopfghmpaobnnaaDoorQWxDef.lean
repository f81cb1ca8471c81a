import Derived.Test.YtopfghmpaobnnaaDoorQSxTops
/-
  A CHECKER that runs a message's writing code on values that are known in part: definitions. What it gives is the format that the code writes.
-/
namespace Go.Proofs.YtopfghmpaobnnaaDoor.Rd
set_option linter.constructorNameAsVariable false
set_option linter.unusedVariables false
set_option linter.unusedSimpArgs false
open Go Go.Proofs.YtopfghmpaobnnaaDoor.Ax Go.Proofs.YtopfghmpaobnnaaDoor.Wire

/-- What is known of a value. 'ptr l o': it points to cell o of the struct of level l; 'cel l o': what that cell holds; 'cels l o w': what w cells hold; 'out k': what was written, at the k-th state; 'cnt', 'isn', 'tl l o': the length of the slice in that cell, is it nil, how many tags; 'idx l', 'nxt l', 'fin l': the place in the list whose elements are of level l, the next one, the one behind the last. -/
inductive WV where
  | u
  | b (x : Bool)
  | i (k : IntKind) (n : Int)
  | z (c : CK)
  | ptr (l o : Nat)
  | cel (l o : Nat)
  | cels (l o w : Nat)
  | out (k : Nat)
  | cnt (l o : Nat)
  | isn (l o : Nat)
  | tl (w : Bool) (l o : Nat)
  | idx (l : Nat)
  | nxt (l : Nat)
  | fin (l : Nat)
  deriving DecidableEq, Repr
def WV.con : WV → Option AV
  | .b x => some (.b x)
  | .i k n => some (.i k n)
  | .z c => some c.av
  | _ => none
def ofW (a : AV) : WV :=
  match ofA a with
  | .b x => .b x
  | .i k n => .i k n
  | .z c => .z c
  | _ => .u
abbrev WF := List WV
def evW (fr : WF) : Operand → Option WV
  | .tmp t => fr[t]?
  | .const v => (ofV v).map ofW
  | _ => none

inductive WPrim where
  | leaf (k : K) (null : Bool) (fx : Option Bool)
  | len (null : Bool) (fx : Bool)
  | uv
  | tlen
  | each
  deriving DecidableEq

/-- The state: what is known of the frame; of each level where its list lies in the level below and how wide its struct is; the version, if its cell is read; how often something was written; what was counted and not yet written (tags, or a list that may be null or not); of each level the parts that are to be written; how many of the topmost one's were. -/
structure WS where
  fr : WF
  lv : List (Nat × Nat)
  ver : Option Int
  cur : Nat
  pend : Option (Nat × Option Bool)
  exp : List (List (Ev × Nat))
  k : Nat
  deriving DecidableEq
def WS.put (s : WS) (d : Option Tmp) (v : WV) : WS :=
  match d with
  | some d => { s with fr := s.fr.set d v }
  | none => s
def WS.top (s : WS) : Nat := s.lv.length - 1
/-- The parts of the topmost level. -/
def WS.pl (s : WS) : List (Ev × Nat) := (s.exp[s.top]?).getD []
def isList : Ev → Bool
  | .list .. => true
  | _ => false
/-- Does that cell hold a list, tags? -/
def WS.lst (s : WS) (l o : Nat) : Bool := ((s.exp[l]?).getD []).any fun x => decide (x.2 = o) && isList x.1
def WS.tgs (s : WS) (l o : Nat) : Bool := ((s.exp[l]?).getD []).any fun x => decide (x.2 = o) && x.1 == .tags
/-- The next state of what was written has no name yet. -/
def WS.fresh (s : WS) : Bool := s.fr.all fun v => v != .out (s.cur + 1)
def unF : F → List (Ev × Nat)
  | .nil => []
  | .leaf o k n r => (.leaf k n, o) :: unF r
  | .list o sz n e r => (.list sz n e, o) :: unF r
  | .tags o r => (.tags, o) :: unF r

noncomputable def binW (op : BinOp) (t : TypeId) (c : Bool) (x y : WV) : Option WV :=
  match x.con, y.con with
  | some a, some b => (binA P op t c a b).map ofW
  | _, _ => match op, x, y with
    | .add, .i .u32 0, .tl true l o => some (.tl true l o)
    | .add, .idx l, .i .i64 1 => some (.nxt l)
    | _, _, _ => none
/-- A comparison of a place in a list with its length. -/
noncomputable def cmpW (s : WS) (op : BinOp) (t : TypeId) (x y : WV) : Option WV :=
  match op, x, y with
  | .eql, .cel l o, .z .s0 => match elemA P t with
    | some _ => if s.lst l o = true then some (.isn l o) else none
    | none => none
  | .lss, .idx (l + 1), .cnt l' o => if l = l' ∧ (s.lv[l + 1]?).map (·.1) = some o then some (.b true) else none
  | .lss, .fin (l + 1), .cnt l' o => if l = l' ∧ (s.lv[l + 1]?).map (·.1) = some o then some (.b false) else none
  | _, _, _ => none

noncomputable def pureW (o : Op) (s : WS) : Option WV :=
  match o with
  | .move x | .assign x => evW s.fr x
  | .pick c a b => match evW s.fr c with
    | some (.b true) => evW s.fr a
    | some (.b false) => evW s.fr b
    | _ => none
  | .nilCheck x => match evW s.fr x with
    | some (.ptr l o) => some (.ptr l o)
    | _ => none
  | .fieldAddr t x k => match evW s.fr x with
    | some (.ptr l o) => match fieldAddrA P t (.p 0 o) k with
      | some (.p _ o') => some (.ptr l o')
      | _ => none
    | _ => none
  | .indexAddr t x k => match evW s.fr x, evW s.fr k with
    | some (.cel l o), some (.idx l') => match (elemA P t).bind (sizeA P) with
      | some sz => if l' = l + 1 ∧ s.lv[l']? = some (o, sz) then some (.ptr l' 0) else none
      | none => none
    | _, _ => none
  | .load t x => match evW s.fr x with
    | some (.ptr l o) => match aggA P t, sizeA P t, s.lv[l]? with
      | some false, _, some (_, sz) => if o < sz then (match s.ver with
        | some n => if l = 0 ∧ o = 0 then some (.i .i16 n) else some (.cel l o)
        | none => some (.cel l o)) else none
      | some true, some w, some (_, sz) => if o + w ≤ sz then some (.cels l o w) else none
      | _, _, _ => none
    | _ => none
  | .binOp op t x y _ => match evW s.fr x, evW s.fr y with
    | some a, some b => match cmpW s op t a b with
      | some v => some v
      | none => binW op t (isC x || isC y) a b
    | _, _ => none
  | .unOp op _ x => match (evW s.fr x).bind WV.con with
    | some a => (unA op a).map ofW
    | none => none
  | .convert sr d x => match evW s.fr x with
    | some (.tl false l o) => match P.underlying sr, P.underlying d with
      | some (.int .i64), some (.int .u32) => some (.tl true l o)
      | _, _ => none
    | some v => match v.con with
      | some a => (convA P sr d a).map ofW
      | none => none
    | none => none
  | .call { callee := .builtin .len, args, argTypes } => match args.toList, argTypes.toList with
    | [x], [t] => match evW s.fr x, elemA P t with
      | some (.cel l o), some _ => if s.lst l o = true then some (.cnt l o) else none
      | _, _ => none
    | _, _ => none
  | _ => none

/-- What stands behind a length that is written. -/
def lenR (null : Bool) (l o : Nat) : List (Option WV) := if null then [some (.isn l o)] else []
noncomputable def opW (C : Cfg) (prim : List (FuncId × WPrim)) (o : Oper) (s : WS) : Option WS :=
  match o.op with
  | .call { callee := .value (.func f), args, .. } => match prim.lookup f, args.toList.map (evW s.fr) with
    | some (.leaf k n fx), [some (.out c), some x] =>
      if c = s.cur ∧ s.pend = none ∧ fxOk C.flex fx = true ∧ s.fresh = true then match x with
        | .cel l o' => if l = s.top ∧ k ≠ .uuid ∧ s.pl[s.k]? = some (Ev.leaf k n, o') then some ({ s with cur := s.cur + 1, k := s.k + 1 }.put o.dst (.out (s.cur + 1))) else none
        | .cels l o' w => if l = s.top ∧ w = 16 ∧ k = .uuid ∧ s.pl[s.k]? = some (Ev.leaf k n, o') then some ({ s with cur := s.cur + 1, k := s.k + 1 }.put o.dst (.out (s.cur + 1))) else none
        | _ => none
      else none
    | some (.len null fx), some (.out c) :: some (.cnt l o') :: r =>
      if c = s.cur ∧ s.pend = none ∧ fx = C.flex ∧ l = s.top ∧ s.fresh = true ∧ r = lenR null l o' ∧ ((s.pl[s.k]?).any fun x => decide (x.2 = o') && isList x.1) = true then some ({ s with cur := s.cur + 1, pend := some (o', some null) }.put o.dst (.out (s.cur + 1))) else none
    | some .tlen, [some (.ptr l o')] => if l = s.top ∧ s.tgs l o' = true then some (s.put o.dst (.tl false l o')) else none
    | some .uv, [some (.out c), some (.tl true l o')] => if c = s.cur ∧ s.pend = none ∧ l = s.top ∧ s.fresh = true then some ({ s with cur := s.cur + 1, pend := some (o', none) }.put o.dst (.out (s.cur + 1))) else none
    | some .each, [some (.ptr l o'), some (.out c)] => if c = s.cur ∧ l = s.top ∧ s.pend = some (o', none) ∧ s.fresh = true ∧ s.pl[s.k]? = some (Ev.tags, o') then some ({ s with cur := s.cur + 1, pend := none, k := s.k + 1 }.put o.dst (.out (s.cur + 1))) else none
    | _, _ => none
  | op => (pureW op s).map fun v => s.put o.dst v
def wantW (ops : List Oper) (s : WS) : Option (Nat × Bool) → Option Bool
  | none => some true
  | some (j, w) => match (ops[j]?).bind (·.dst) with
    | some d => match s.fr[d]? with
      | some (.b x) => some (x == w)
      | _ => none
    | none => none
noncomputable def opsW (C : Cfg) (prim : List (FuncId × WPrim)) (ops : List Oper) : List Oper → WS → Option WS
  | [], s => some s
  | o :: r, s => match wantW ops s o.guard with
    | some true => (opW C prim o s).bind (opsW C prim ops r)
    | some false => opsW C prim ops r (s.put o.dst .u)
    | none => none
/-- The end of a list's loop: a comparison, a jump. -/
noncomputable def exitW (C : Cfg) (b : List Code) (s : WS) : Option (Nat × WS) :=
  match b with
  | .region _ ops false :: .cond c x (.exit id) :: _ => match opsW C [] ops.toList ops.toList s with
    | some s1 => match evW s1.fr c with
      | some (.b false) => some (id, s1)
      | _ => none
    | none => none
  | _ => none
def renW (a b : Nat) (v : WV) : WV := if v = .out a then .out b else v
def WV.calm (l : Nat) : WV → Bool
  | .ptr k _ | .cel k _ | .cels k _ _ | .cnt k _ | .isn k _ | .tl _ k _ | .idx k | .nxt k | .fin k => decide (k < l)
  | _ => true
def lowW (l : Nat) (v : WV) : WV := if v.calm l then v else .u
def iSlotW : List Code → Option Nat
  | .region _ ops _ :: _ => match ops.toList with
    | ⟨_, .binOp .lss _ (.tmp t) _ _, _, _, _, _⟩ :: _ => some t
    | _ => none
  | _ => none
def noOut : WV → WV
  | .out _ => .u
  | v => v
def headW (l it : Nat) (b : Code) (o : Nat) (c : Nat) (fr : WF) : WF := ((((dsts b).foldl (fun fr t => fr.set t .u) fr).map noOut).set o (.out c)).set it (.idx l)
def outSlot (c : Nat) (fr : WF) : Nat := fr.findIdx (· = .out c)
noncomputable def chkWStep (C : Cfg) (prim : List (FuncId × WPrim)) (rec : List Code → WS → Option WS) : List Code → WS → Option WS
  | [], s => some s
  | .region _ ops false :: rest, s => (opsW C prim ops.toList ops.toList s).bind (rec rest)
  | .cond c a b :: rest, s => match evW s.fr c with
    | some (.b true) => rec (flat a ++ rest) s
    | some (.b false) => rec (flat b ++ rest) s
    | _ => none
  | .block id (.loop b) :: rest, s => match s.pend, iSlotW (flat b), s.pl[s.k]? with
    | some (o, some null), some it, some (.list sz null' f, o') =>
      let l := s.lv.length
      let os := outSlot s.cur s.fr
      let hd := headW l it b os s.cur s.fr
      match rec (flat b) { s with fr := hd, lv := s.lv ++ [(o, sz)], pend := none, exp := s.exp ++ [unF f], k := 0 }, exitW C (flat b) { s with fr := hd.set it (.fin l), lv := s.lv ++ [(o, sz)], pend := none, exp := s.exp ++ [[]], k := 0 } with
      | some s2, some (j, s3) =>
        if j = id ∧ null' = null ∧ o' = o ∧ 0 < l ∧ 0 < sz ∧ s.exp.length = l ∧ s.fr[it]? = some (.i .i64 0) ∧ s.fr[os]? = some (.out s.cur) ∧ os ≠ it ∧ it < s.fr.length ∧ s2.fr[it]? = some (.nxt l) ∧ s2.pend = none ∧ s2.lv = s.lv ++ [(o, sz)] ∧ s2.exp = s.exp ++ [unF f] ∧ s2.k = (unF f).length ∧ s2.fr.length = hd.length
          ∧ ((hd.set it .u).zip s2.fr).all (fun x => x.1 == .u || renW s.cur s2.cur x.1 == x.2) = true ∧ (hd.set it .u).all (WV.calm l) = true ∧ s3.cur = s.cur ∧ s3.lv = s.lv ++ [(o, sz)] ∧ s3.pend = none ∧ s3.exp = s.exp ++ [[]] ∧ s3.k = 0 ∧ s2.ver = s.ver ∧ s3.ver = s.ver ∧ s3.fr.length = s.fr.length then
          rec rest { s with fr := s3.fr.map (lowW l), pend := none, k := s.k + 1 }
        else none
      | _, _ => none
    | _, _, _ => none
  | .block _ b :: rest, s => rec (flat b ++ rest) s
  | _, _ => none
noncomputable def chkW (C : Cfg) (prim : List (FuncId × WPrim)) : Nat → List Code → WS → Option WS
  | 0 => fun _ _ => none
  | f + 1 => chkWStep C prim (chkW C prim f)
/-- A writing function: does it write these parts of a message? -/
noncomputable def chkWTop (C : Cfg) (prim : List (FuncId × WPrim)) (fn : Func) (sz : Nat) (ver : Option Int) (pl : List (Ev × Nat)) : Bool :=
  match fn.body with
  | some c =>
    let l := flat c
    match l.getLast?, chkW C prim 400 l.dropLast { fr := [.ptr 0 0, .out 0] ++ List.replicate (fn.ntmps - 2) .u, lv := [(0, sz)], ver := ver, cur := 0, pend := none, exp := [pl], k := 0 } with
    | some .ret, some s => decide (s.fr[C.res]? = some (.out s.cur) ∧ s.pend = none ∧ s.exp = [pl] ∧ s.lv = [(0, sz)] ∧ s.k = pl.length ∧ oneRes fn.results.toList = some C.res ∧ 2 ≤ fn.ntmps)
    | _, _ => false
  | none => false
end Go.Proofs.YtopfghmpaobnnaaDoor.Rd

