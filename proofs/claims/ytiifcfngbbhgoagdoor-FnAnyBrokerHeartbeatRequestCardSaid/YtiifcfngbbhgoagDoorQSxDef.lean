/-
  A CHECKER that runs a message's reading code on values that are known in part: definitions. What it gives is the format that the code reads.
-/
import Derived.Test.YtiifcfngbbhgoagDoorQRdStep
import Derived.Test.YtiifcfngbbhgoagDoorQRdUvB
set_option linter.constructorNameAsVariable false
set_option linter.unusedVariables false
set_option linter.unusedSimpArgs false
namespace Go.Proofs.YtiifcfngbbhgoagDoor.Rd
open Go Go.Proofs.YtiifcfngbbhgoagDoor.Ax Go.Proofs.YtiifcfngbbhgoagDoor.Wire
inductive CK where
  | s0 | se | sn | m0 | p0 | n | e | str | f0
  deriving DecidableEq, Repr
def CK.av : CK → AV
  | .s0 => .s0
  | .se => .se
  | .sn => .sn
  | .m0 => .m0
  | .p0 => .p0
  | .n => .n
  | .e => .e
  | .str => .s ⟨#[]⟩
  | .f0 => .f .f64 0
inductive SV where
  | u
  | b (x : Bool)
  | i (k : IntKind) (n : Int)
  | z (c : CK)
  | rd
  | ptr (l o : Nat)
  | pt (n : Nat)
  | cel (n j : Nat)
  | row (l : Nat)
  | len (l : Nat)
  | idx (l : Nat)
  | nxt (l : Nat)
  | fin (l : Nat)
  | lq
  | neg
  | vr (n : Nat) (lo hi : Int)
  | nm (k : IntKind)
  deriving DecidableEq, Repr
def SV.con : SV → Option AV
  | .b x => some (.b x)
  | .i k n => some (.i k n)
  | .z c => some c.av
  | _ => none
def ofA : AV → SV
  | .b x => .b x
  | .i k n => .i k n
  | .s0 => .z .s0
  | .se => .z .se
  | .sn => .z .sn
  | .m0 => .z .m0
  | .p0 => .z .p0
  | .n => .z .n
  | .e => .z .e
  | .s x => if x.size = 0 then .z .str else .u
  | .f .f64 0 => .z .f0
  | _ => .u
abbrev SF := List SV
def evS (fr : SF) : Operand → Option SV
  | .tmp t => fr[t]?
  | .const v => (ofV v).map ofA
  | _ => none
inductive Prim where
  | leaf (k : K) (null : Bool) (fx : Option Bool)
  | len (fx : Bool)
  | ok
  | done
  | tags
  | inl
  deriving DecidableEq
structure SS where
  fr : SF
  win : List SF
  zs : List (Option SF)
  live : Nat
  base : Nat
  evs : List Ev
  rdy : Bool
  deriving DecidableEq
def SS.put (s : SS) (d : Option Tmp) (v : SV) : SS :=
  match d with
  | some d => { s with fr := s.fr.set d v }
  | none => s
noncomputable def binS (op : BinOp) (t : TypeId) (c : Bool) (x y : SV) : Option SV :=
  match x.con, y.con with
  | some a, some b => (binA P op t c a b).map ofA
  | _, _ => match op, x, y with
    | .lss, .idx l, .len l' => if l = l' then some (.b true) else none
    | .lss, .fin l, .len l' => if l = l' then some (.b false) else none
    | .lss, .i .i32 0, .neg => some (.b false)
    | .gtr, .neg, .i .i32 0 => some (.b false)
    | .gtr, .len _, .i .i32 0 => some (.b true)
    | .eql, .neg, .i .i32 0 => some (.b false)
    | .eql, .len _, .i .i32 0 => some (.b false)
    | .add, .idx l, .i .i32 1 => some (.nxt l)
    | .neq, .nm k, .i k' c => if k = k' ∧ c = -1 then some (.b true) else none
    | .geq, .vr _ lo hi, .i .i16 c => if c ≤ lo then some (.b true) else if hi < c then some (.b false) else none
    | _, _, _ => none
noncomputable def pureS (o : Op) (s : SS) : Option SV :=
  match o with
  | .move x | .assign x => evS s.fr x
  | .pick c a b => match evS s.fr c with
    | some (.b true) => evS s.fr a
    | some (.b false) => evS s.fr b
    | _ => none
  | .nilCheck x => match evS s.fr x with
    | some (.ptr l o) => some (.ptr l o)
    | _ => none
  | .fieldAddr t x k => match evS s.fr x with
    | some (.ptr l o) => match fieldAddrA P t (.p 0 o) k with
      | some (.p _ o') => some (.ptr l o')
      | _ => none
    | _ => none
  | .indexAddr t x k => match evS s.fr x, evS s.fr k with
    | some (.row l), some (.idx l') => match (elemA P t).bind (sizeA P), s.win[l]? with
      | some sz, some w => if l = l' ∧ w.length = sz then some (.ptr l 0) else none
      | _, _ => none
    | _, _ => none
  | .load t x => match evS s.fr x with
    | some (.ptr l o) => match aggA P t, s.win[l]? with
      | some false, some w => w[o]?
      | _, _ => none
    | _ => none
  | .binOp op t x y _ => match evS s.fr x, evS s.fr y with
    | some a, some b => binS op t (isC x || isC y) a b
    | _, _ => none
  | .unOp op _ x => match (evS s.fr x).bind SV.con with
    | some a => (unA op a).map ofA
    | none => none
  | .convert sr d x => match (evS s.fr x).bind SV.con with
    | some a => (convA P sr d a).map ofA
    | none => none
  | .slice t x none (some h) none => match (evS s.fr x).bind SV.con, (evS s.fr h).bind SV.con with
    | some a, some b => (sliceA P t a none (some b)).map ofA
    | _, _ => none
  | _ => none
def cellsS (v : SV) (sz : Nat) : Option SF :=
  match v with
  | .pt n => some ((List.range sz).map (.cel n))
  | .cel n j => if sz = 1 then some [.cel n j] else none
  | .ptr l o => if sz = 1 then some [.ptr l o] else none
  | v => if sz = 1 ∧ v.con.isSome then some [v] else none
def setAll (w : SF) (o : Nat) : SF → SF
  | [] => w
  | v :: r => setAll (w.set o v) (o + 1) r
def ptOk (s : SS) (v : SV) (w : Nat) : Bool :=
  match v with
  | .pt n => decide (s.base ≤ n) && (s.evs[n - s.base]?).map Ev.wide == some w
  | _ => true
noncomputable def storeS (t : TypeId) (a v : SV) (s : SS) : Option SS :=
  match a with
  | .ptr l o => match s.win[l]?, (sizeA P t).bind (cellsS v) with
    | some w, some cs => if o + cs.length ≤ w.length ∧ ptOk s v cs.length = true then some { s with win := s.win.set l (setAll w o cs) } else none
    | _, _ => none
  | _ => none
noncomputable def zerosS (e : TypeId) : Option SF := (zeroA P e).bind fun z => if (z.cells.all fun c => ofA c != .u) then some (z.cells.map ofA) else none
structure Cfg where
  prim : List (FuncId × Prim)
  res : Nat
  flex : Bool
abbrev Inl := FuncId → SF → SS → Option SS
def fxOk (flex : Bool) : Option Bool → Bool
  | none => true
  | some x => x == flex
noncomputable def opS (C : Cfg) (mode : Option Bool) (inl : Inl) (o : Oper) (s : SS) : Option SS :=
  match o.op with
  | .store t a x => match evS s.fr a, evS s.fr x with
    | some a, some v => (storeS t a v s).map fun s => s.put o.dst .u
    | _, _ => none
  | .call { callee := .value (.func f), args, .. } => match C.prim.lookup f, args.toList with
    | some (.leaf k n fx), [x] => if evS s.fr x = some .rd ∧ mode = none ∧ fxOk C.flex fx ∧ s.rdy = true then some ({ s with evs := s.evs ++ [Ev.leaf k n] }.put o.dst (.pt (s.base + s.evs.length))) else none
    | some .tags, [x] => if evS s.fr x = some .rd ∧ mode = none ∧ s.rdy = true then some ({ s with evs := s.evs ++ [Ev.tags] }.put o.dst (.pt (s.base + s.evs.length))) else none
    | some .ok, [x] => match mode with
      | some m => if evS s.fr x = some .rd ∧ s.rdy = true then some (s.put o.dst (.b m)) else none
      | none => none
    | some .done, [x] => match mode with
      | some m => if evS s.fr x = some .rd ∧ s.rdy = true then some (s.put o.dst (.z (if m then .n else .e))) else none
      | none => none
    | some .inl, [x] => match evS s.fr x with
      | some (.ptr l o') => (inl f [.ptr l o'] s).map fun s => s.put o.dst .u
      | _ => none
    | _, _ => none
  | .buildSlice t n ps => if n = 0 ∧ ps.toList.isEmpty then match elemA P t with
    | some e => match sizeA P e, zeroA P e with
      | some _, some _ => match P.underlying e with
        | some (.int .u8) => some (s.put o.dst (.z .se))
        | _ => some (s.put o.dst (.z .sn))
      | _, _ => none
    | none => none
    else none
  | .call { callee := .builtin .append, args, argTypes } => match args.toList, argTypes.toList with
    | [a, x], [t1, t2] => match evS s.fr a, evS s.fr x, elemA P t1, P.underlying t2 with
      | some (.z c), some (.len l), some e, some (.int _) => if c = .s0 ∨ c = .sn then match sizeA P e, bytesA P e, zerosS e with
        | some sz, some by_, some zs => if 0 < sz ∧ zs.length = sz ∧ by_ ≤ 65536 ∧ l = s.win.length then some ({ s with win := s.win ++ [zs], zs := s.zs ++ [some zs] }.put o.dst (.row l)) else none
        | _, _, _ => none
        else none
      | _, _, _, _ => none
    | _, _ => none
  | op => (pureS op s).map fun v => s.put o.dst v
def wantS (ops : List Oper) (s : SS) : Option (Nat × Bool) → Option Bool
  | none => some true
  | some (j, w) => match (ops[j]?).bind (·.dst) with
    | some d => match s.fr[d]? with
      | some (.b x) => some (x == w)
      | _ => none
    | none => none
noncomputable def opsS (C : Cfg) (mode : Option Bool) (inl : Inl) (ops : List Oper) : List Oper → SS → Option SS
  | [], s => some s
  | o :: r, s => match wantS ops s o.guard with
    | some true => (opS C mode inl o s).bind (opsS C mode inl ops r)
    | some false => opsS C mode inl ops r (s.put o.dst .u)
    | none => none
inductive XS where
  | normal | ret | exit (id : Nat)
  deriving DecidableEq
noncomputable def runS (C : Cfg) (mode : Option Bool) (inl : Inl) : Nat → Code → SS → Option (XS × SS)
  | 0, _, _ => none
  | n + 1, c, s => match c with
    | .skip => some (.normal, s)
    | .region _ ops false => (opsS C mode inl ops.toList ops.toList s).map fun s => (.normal, s)
    | .seq a b => match runS C mode inl n a s with
      | some (.normal, s) => runS C mode inl n b s
      | r => r
    | .cond c a b => match evS s.fr c with
      | some (.b true) => runS C mode inl n a s
      | some (.b false) => runS C mode inl n b s
      | _ => none
    | .block id b => match runS C mode inl n b s with
      | some (.exit j, s) => if j = id then some (.normal, s) else some (.exit j, s)
      | r => r
    | .loop b => match runS C mode inl n b s with
      | some (.normal, _) => none
      | r => r
    | .exit id => some (.exit id, s)
    | .ret => some (.ret, s)
    | _ => none
def fuelI : Nat := 100
noncomputable def inlStep (C : Cfg) (inl : Inl) : Inl := fun f args s => match P.funcs[f]? with
    | some fn => match fn.body with
      | some c => if fn.results.size = 0 then match runS C (some true) inl fuelI c { s with fr := args ++ List.replicate (fn.ntmps - args.length) .u }, runS C (some false) inl fuelI c { s with fr := args ++ List.replicate (fn.ntmps - args.length) .u } with
        | some (x, s'), some (x', s'') => if (x = .normal ∨ x = .ret) ∧ x' = x ∧ s'' = s' ∧ s'.win.length = s.win.length ∧ s'.evs = s.evs ∧ s'.zs = s.zs ∧ s'.live = s.live ∧ s'.base = s.base ∧ s'.rdy = s.rdy ∧ noNS f = true then some { s with win := s'.win } else none
        | _, _ => none
        else none
      | none => none
    | none => none
noncomputable def inlS (C : Cfg) : Nat → Inl
  | 0 => fun _ _ _ => none
  | n + 1 => inlStep C (inlS C n)
def flat : Code → List Code
  | .seq a b => flat a ++ flat b
  | .skip => []
  | c => [c]
noncomputable def runL (C : Cfg) (mode : Option Bool) (inl : Inl) (n : Nat) : List Code → SS → Option (XS × SS)
  | [], s => some (.normal, s)
  | c :: r, s => match runS C mode inl n c s with
    | some (.normal, s) => runL C mode inl n r s
    | x => x
def isLoop : Code → Bool
  | .block _ (.loop _) => true
  | _ => false
def opDst (ops : List Oper) : List Nat := ops.filterMap (·.dst)
def dsts : Code → List Nat
  | .seq a b => dsts a ++ dsts b
  | .region _ ops _ => opDst ops.toList
  | .cond _ a b => dsts a ++ dsts b
  | .block _ b => dsts b
  | .loop b => dsts b
  | .scope b => dsts b
  | _ => []
def substF (v : SV) (fr : SF) : SF := fr.map fun x => if x = .lq then v else x
def SV.high (l n : Nat) : SV → Bool
  | .ptr k _ | .row k | .len k | .idx k | .nxt k | .fin k => decide (l ≤ k)
  | .pt k | .cel k _ | .vr k _ _ => decide (n ≤ k)
  | .lq | .neg | .nm _ => true
  | _ => false
def SV.still : SV → Bool
  | .cel _ _ | .u => true
  | v => v.con.isSome
def SV.calm (l : Nat) : SV → Bool
  | .ptr k _ | .idx k | .nxt k | .fin k => decide (k < l)
  | .lq | .neg | .nm _ => false
  | _ => true
def joinV (l n : Nat) (zv zm : SV) (p z m : SV) : SV :=
  if p = .row l ∧ z = zv ∧ m = zm then .pt n
  else if p = z ∧ z = m ∧ !p.high l n then p else .u
def joinF (l n : Nat) (zv zm : SV) : SF → SF → SF → SF
  | p :: ps, z :: zs, m :: ms => joinV l n zv zm p z m :: joinF l n zv zm ps zs ms
  | _, _, _ => []
def placeOf (w : SF) (n wide : Nat) : Option Nat :=
  let o := w.findIdx (· = .cel n 0)
  if (List.range wide).all fun j => w[o + j]? = some (.cel n j) then some o else none
def places (w : SF) : Nat → List Ev → Option (List (Ev × Nat))
  | _, [] => some []
  | n, e :: r => match placeOf w n e.wide, places w (n + 1) r with
    | some o, some l => some ((e, o) :: l)
    | _, _ => none
def sameF (a b : SF) : Bool := a.length == b.length && (a.zip b).all fun (x, y) => x == .u || x == y
def iSlot : List Code → Option Nat
  | .region _ ops _ :: _ => match ops.toList with
    | ⟨_, .move (.tmp t), _, _, _, _⟩ :: _ => some t
    | _ => none
  | _ => none
def headF (l it : Nat) (b : Code) (fr : SF) : SF := ((dsts b).foldl (fun fr t => fr.set t .u) fr).set it (.idx l)
def nullOf (l n : Nat) (p z m : SF) : Bool := decide (joinF l n (.z .sn) (.z .s0) p z m ≠ joinF l n .u (.z .s0) p z m)
def fullOf (l n : Nat) (p z m : SF) : Bool := !nullOf l n p z m && decide (joinF l n (.z .sn) (.z .sn) p z m ≠ joinF l n .u (.z .sn) p z m)
def zvOf (l n : Nat) (p z m : SF) : SV := if nullOf l n p z m || fullOf l n p z m then .z .sn else .z .s0
def zmOf (l n : Nat) (p z m : SF) : SV := if fullOf l n p z m then .z .sn else .z .s0
def lenOp (C : Cfg) : List Oper → Option (Nat × Operand × List Oper)
  | ⟨some d, .call { callee := .value (.func f), args, .. }, _, _, _, none⟩ :: r => match C.prim.lookup f, args.toList with
    | some (.len fx), [x] => if fx = C.flex then some (d, x, r) else none
    | _, _ => none
  | _ => none
noncomputable def badN (C : Cfg) (pre : List Code) (s1 : SS) : Bool :=
  match runL C (some false) (inlS C 6) fuelI pre { s1 with fr := substF .neg s1.fr } with
  | some (.ret, sb) => decide (sb.fr[C.res]? = some (.z .e))
  | _ => false
noncomputable def chkSeg (C : Cfg) (rec : List Code → SS → Option SS) (s : SS) (d : Nat) (x : Operand) (r ops : List Oper) (rest : List Code) : Option SS :=
  if evS s.fr x = some .rd ∧ s.fr.contains .lq = false ∧ (s.win.all fun w => !w.contains .lq) = true ∧ (s.zs.all fun z => (z.getD []).all fun v => v.con.isSome) = true ∧ (s.win.all fun w => w.all SV.still) = true ∧ s.rdy = true then
    let l := s.win.length
    let n := s.base + s.evs.length
    match opsS C none (inlS C 6) ops r { s with fr := s.fr.set d .lq, live := l, base := n, evs := [] }, rest.dropWhile (fun c => !isLoop c) with
    | some s1, .block id (.loop b) :: tail =>
      let pre := rest.takeWhile (fun c => !isLoop c)
      match runL C (some false) (inlS C 6) fuelI pre { s1 with fr := substF (.i .i32 0) s1.fr },
        runL C (some true) (inlS C 6) fuelI (pre ++ [.block id (.loop b)]) { s1 with fr := substF (.i .i32 0) s1.fr },
        runL C (some true) (inlS C 6) fuelI (pre ++ [.block id (.loop b)]) { s1 with fr := substF .neg s1.fr },
        runL C (some true) (inlS C 6) fuelI pre { s1 with fr := substF (.len l) s1.fr }, iSlot (flat b) with
      | some (.ret, sb), some (.normal, s0), some (.normal, sn), some (.normal, sp), some it =>
        let hd := headF l it b sp.fr
        match sp.win.drop l with
        | [w0] =>
          match rec (flat b) { sp with fr := hd, live := l + 1 },
            runS C (some true) (inlS C 6) fuelI b { sp with fr := hd.set it (.fin l), win := s.win ++ [[]], zs := s.zs ++ [none], live := l + 1 },
            runS C (some false) (inlS C 6) fuelI b { sp with fr := hd.set it (.fin l), win := s.win ++ [[]], zs := s.zs ++ [none], live := l + 1 } with
          | some s2, some (.exit j, s3), some (.exit j', s4) =>
            match s2.win.drop l with
            | [w1] => match places w1 n s2.evs with
              | some pl =>
                if sb.fr[C.res]? = some (.z .e) ∧ j = id ∧ sp.fr[it]? = some (.i .i32 0) ∧ s2.fr[it]? = some (.nxt l) ∧ sameF (hd.set it .u) s2.fr = true ∧ s2.win.take l = s.win ∧ sp.win.take l = s.win
                  ∧ s0.win = s.win ∧ sn.win = s.win ∧ s3.win.take l = s.win ∧ s0.zs = s.zs ∧ sn.zs = s.zs ∧ s3.zs.take l = s.zs ∧ s2.zs = sp.zs ∧ s1.evs = [] ∧ (hd.set it .u).all (SV.calm l) = true ∧ it < hd.length ∧ s4 = s3 ∧ j' = id
                  ∧ sp.zs = s.zs ++ [some w0] ∧ w0.all (fun v => v.con.isSome) = true ∧ s3.fr.length = s.fr.length ∧ s0.fr.length = s.fr.length ∧ sn.fr.length = s.fr.length ∧ s3.rdy = true ∧ s0.rdy = true ∧ sn.rdy = true ∧ badN C pre s1 = true then
                  rec tail { s with fr := joinF l n (zvOf l n s3.fr s0.fr sn.fr) (zmOf l n s3.fr s0.fr sn.fr) s3.fr s0.fr sn.fr, evs := s.evs ++ [Ev.list w0.length (nullOf l n s3.fr s0.fr sn.fr) (nodes pl)] }
                else none
              | none => none
            | _ => none
          | _, _, _ => none
        | _ => none
      | _, _, _, _, _ => none
    | _, _ => none
  else none
def takes (q : Nat) (T : TypeId) : Oper → Option Nat
  | ⟨some e, .load T' (.tmp q'), _, _, _, none⟩ => if T' = T ∧ q' = q then some e else none
  | _ => none
def splitT (q : Nat) (T : TypeId) : List Oper → Option (List Oper × Nat × List Oper)
  | [] => none
  | o :: r => match takes q T o with
    | some e => some ([], e, r)
    | none => if o.dst = some q then none else (splitT q T r).map fun (a, e, b) => (o :: a, e, b)
noncomputable def boxS (C : Cfg) (inl : Inl) (ops1 ops2 : List Oper) (s : SS) : Option SS :=
  match ops1 with
  | [c, ⟨some q, .alloc T, _, _, _, none⟩, ⟨none, .store T' (.tmp q') (.tmp d), _, _, _, none⟩] =>
    if T' = T ∧ q' = q ∧ c.guard = none ∧ d ≠ q ∧ aggA P T = some true then
      match splitT q T ops2, opS C none inl c s with
      | some (pre, e, post), some s1 => match s1.fr[d]?, sizeA P T, zeroA P T with
        | some (.pt n), some sz, some z =>
          if s1.base ≤ n ∧ (s1.evs[n - s1.base]?).map Ev.wide = some sz ∧ sz ≠ 1 ∧ z.cells.length = sz ∧ z.cells.all AV.one = true ∧ q < s1.fr.length then
            match opsS C none inl ops2 pre (s1.put (some q) .u) with
            | some s2 => opsS C none inl ops2 post (s2.put (some e) (.pt n))
            | none => none
          else none
        | _, _, _ => none
      | _, _ => none
    else none
  | _ => none
noncomputable def boxM (C : Cfg) (inl : Inl) (ops1 : List Oper) (rest : List Code) (s : SS) : Option (SS × List Code) :=
  match rest with
  | .region _ ops2 false :: rest2 => (boxS C inl ops1 ops2.toList s).map fun s1 => (s1, rest2)
  | _ => none
def isMvS : Oper → Bool
  | ⟨_, .move _, _, _, _, none⟩ => true
  | _ => false
noncomputable def boxR (C : Cfg) (q : Nat) (T : TypeId) (ops : List Oper) (s : SS) : Option SS :=
  match ops with
  | [⟨some d, .call { callee := .value (.func g), args, .. }, _, _, _, none⟩, ⟨none, .store T' (.tmp q') (.tmp d'), _, _, _, none⟩] =>
    if T' = T ∧ q' = q ∧ d' = d ∧ d ≠ q ∧ q < s.fr.length ∧ d < s.fr.length then match C.prim.lookup g, args.toList with
      | some (.leaf k n fx), [x] => if k = .str ∧ n = false ∧ evS s.fr x = some .rd ∧ fxOk C.flex fx = true ∧ s.rdy = true then some (({ s with evs := s.evs ++ [Ev.leaf .pstr false] }.put (some d) .u).put (some q) (.pt (s.base + s.evs.length))) else none
      | _, _ => none
    else none
  | _ => none
noncomputable def boxP (C : Cfg) (q : Nat) (T : TypeId) : Nat → List Code → SS → Option (SS × List Code)
  | 0, _, _ => none
  | f + 1, cs, s => match cs with
    | .region _ ops false :: rest => match boxR C q T ops.toList s with
      | some s1 => some (s1, rest)
      | none => if ops.toList.all isMvS = true ∧ (ops.toList.all fun o => o.dst != some q) = true then (opsS C none (inlS C 6) ops.toList ops.toList s).bind (boxP C q T f rest) else none
    | .cond c a b :: rest => match evS s.fr c with
      | some (.b true) => boxP C q T f (flat a ++ rest) s
      | some (.b false) => boxP C q T f (flat b ++ rest) s
      | _ => none
    | _ => none
noncomputable def boxPM (C : Cfg) (ops1 : List Oper) (rest : List Code) (s : SS) : Option (SS × List Code) :=
  match ops1 with
  | [⟨some q, .alloc T, _, _, _, none⟩] => match aggA P T, sizeA P T, zeroA P T with
    | some false, some 1, some (.s _) => if q < s.fr.length then boxP C q T 20 rest (s.put (some q) .u) else none
    | _, _, _ => none
  | _ => none
noncomputable def chkStep (C : Cfg) (rec : List Code → SS → Option SS) : List Code → SS → Option SS
  | [], s => some s
  | .region _ ops false :: rest, s => match lenOp C ops.toList with
    | some (d, x, r) => chkSeg C rec s d x r ops.toList rest
    | none => match boxM C (inlS C 6) ops.toList rest s with
      | some (s1, rest2) => rec rest2 s1
      | none => match boxPM C ops.toList rest s with
        | some (s1, rest2) => rec rest2 s1
        | none => (opsS C none (inlS C 6) ops.toList ops.toList s).bind (rec rest)
  | .cond c a b :: rest, s => match evS s.fr c with
    | some (.b true) => rec (flat a ++ rest) s
    | some (.b false) => rec (flat b ++ rest) s
    | _ => none
  | .block _ b :: rest, s => rec (flat b ++ rest) s
  | _, _ => none
noncomputable def chk (C : Cfg) : Nat → List Code → SS → Option SS
  | 0 => fun _ _ => none
  | f + 1 => chkStep C (chk C f)
end Go.Proofs.YtiifcfngbbhgoagDoor.Rd

namespace Go.Proofs.YtiifcfngbbhgoagDoor.Rd
open Go Go.Proofs.YtiifcfngbbhgoagDoor.Ax Go.Proofs.YtiifcfngbbhgoagDoor.Wire
set_option maxRecDepth 100000
structure Lv where
  b : Nat
  w : Nat
  j : Nat
structure Env where
  rb : Nat
  lv : List Lv
  ln : List Nat
  av : List AV
  lq : Int
def den (η : Env) : SV → AV → Prop
  | .u, _ => True
  | .b x, a => a = .b x
  | .i k n, a => a = .i k n
  | .z c, a => a = c.av
  | .rd, a => a = .p η.rb 0
  | .ptr l o, a => ∃ e, η.lv[l]? = some e ∧ a = .p e.b (e.w + o)
  | .pt n, a => η.av[n]? = some a
  | .cel n j, a => ∃ v, η.av[n]? = some v ∧ v.cells[j]? = some a
  | .row l, a => ∃ e n, η.lv[l]? = some e ∧ η.ln[l]? = some n ∧ a = .sl e.b 0 n
  | .len l, a => ∃ n, η.ln[l]? = some n ∧ a = .i .i32 (n : Nat) ∧ 0 < n ∧ n < 2147483648
  | .idx l, a => ∃ e n, η.lv[l]? = some e ∧ η.ln[l]? = some n ∧ a = .i .i32 (e.j : Nat) ∧ e.j < n ∧ n < 2147483648
  | .nxt l, a => ∃ e, η.lv[l]? = some e ∧ a = .i .i32 ((e.j + 1 : Nat) : Int)
  | .fin l, a => ∃ n, η.ln[l]? = some n ∧ a = .i .i32 (n : Nat)
  | .lq, a => a = .i .i32 η.lq
  | .neg, a => ∃ x, a = .i .i32 x ∧ x < 0
  | .nm k, a => ∃ x, a = .i k x ∧ x ≠ -1
  | .vr n lo hi, a => ∃ k, η.av[n]? = some (.i .i16 k) ∧ a = .i .i16 k ∧ lo ≤ k ∧ k ≤ hi
def AO (η : Env) (i : Nat) : Prop := i ∉ η.rb :: η.lv.map Lv.b
def FR (η : Env) (sf : SF) (fr : List AV) : Prop := sf.length = fr.length ∧ ∀ (t : Nat) (v : SV) (a : AV), sf[t]? = some v → fr[t]? = some a → den η v a
def WC (η : Env) (e : Lv) (w : SF) (H : Heap) : Prop := ∃ ty kn cs, H[e.b]? = some (.cells ty kn cs) ∧ kn.own = true ∧ e.w + w.length ≤ cs.length ∧ ∀ (o : Nat) (v : SV), w[o]? = some v → ∃ a, cs[e.w + o]? = some a ∧ a.one = true ∧ den η v a
def WR (η : Env) (win : List SF) (H : Heap) : Prop := win.length = η.lv.length ∧ ∀ (l : Nat) (e : Lv) (w : SF), η.lv[l]? = some e → win[l]? = some w → e.w = e.j * w.length ∧ WC η e w H
def KT (A : Nat → Prop) (H : Heap) (A' : Nat → Prop) (H' : Heap) : Prop := H.length ≤ H'.length ∧ ∀ (i : Nat) (b : Blk), A i → H[i]? = some b → A' i ∧ H'[i]? = some b
theorem KT.refl (A : Nat → Prop) (H : Heap) : KT A H A H := ⟨Nat.le_refl _, fun _ _ a h => ⟨a, h⟩⟩
theorem KT.trans {A B C : Nat → Prop} {H I J : Heap} (h : KT A H B I) (k : KT B I C J) : KT A H C J := ⟨Nat.le_trans h.1 k.1, fun i b a x => k.2 i b (h.2 i b a x).1 (h.2 i b a x).2⟩
theorem Keep.kt {A : Nat → Prop} {H H' : Heap} (h : Keep A H H') : KT A H A H' := ⟨h.1, fun i b a x => ⟨a, h.2 i b a x⟩⟩
theorem KT.keep {A : Nat → Prop} {H H' : Heap} (h : KT A H A H') : Keep A H H' := ⟨h.1, fun i b a x => (h.2 i b a x).2⟩
theorem KT.sub {A A' : Nat → Prop} (h : ∀ i, A i → A' i) (H : Heap) : KT A H A' H := ⟨Nat.le_refl _, fun i _ a x => ⟨h i a, x⟩⟩
def ListRep (A : Nat → Prop) (H : Heap) (sz : Nat) (null : Bool) (R : V → List AV → Prop) (v : V) (av : AV) : Prop :=
  match v with
  | .l vs => (vs = [] ∧ (av = .sn ∨ null = false ∧ av = .s0)) ∨
    ∃ i ty bl, 0 < vs.length ∧ A i ∧ av = .sl i 0 vs.length ∧ H[i]? = some (.cells ty .row bl) ∧ bl.length = vs.length * sz ∧ ∀ (j : Nat) (x : V), vs[j]? = some x → R x ((bl.drop (j * sz)).take sz)
  | .nul => null = true ∧ av = .s0
  | _ => False
def TagsIn (A : Nat → Prop) (H : Heap) (es : List (Int × AV)) (ts : List (Nat × B)) : Prop :=
  ∃ es' : List (Int × AV), es'.Perm es ∧ es'.map (·.1) = ts.map (fun t => ((t.1 : Nat) : Int)) ∧ ∀ (j : Nat) (k : Int) (v : AV) (kk : Nat) (bs : B), es'[j]? = some (k, v) → ts[j]? = some (kk, bs) → BytesAt A H v bs
def TagRep (A : Nat → Prop) (H : Heap) (v : V) (av : AV) : Prop := ∃ ts, v = .t ts ∧ okT 0 ts ∧ (ts = [] ∧ av = .g [.m0] ∨ ∃ i es, av = .g [.mp i] ∧ A i ∧ H[i]? = some (.map .u32 es) ∧ TagsIn A H es ts)
def At (cs : List AV) (o w : Nat) (R : AV → Prop) : Prop := ∃ av, R av ∧ av.cells.length = w ∧ o + w ≤ cs.length ∧ (cs.drop o).take w = av.cells
def Rep (A : Nat → Prop) (H : Heap) : F → V → List AV → Prop
  | .nil, v, _ => v = .u
  | .leaf o k n r, v, cs => ∃ x y, v = .c x y ∧ At cs o k.wide (fun av => RepK A H k n av x) ∧ Rep A H r y cs
  | .list o sz n e r, v, cs => ∃ x y, v = .c x y ∧ At cs o 1 (fun av => ListRep A H sz n (Rep A H e) x av) ∧ Rep A H r y cs
  | .tags o r, v, cs => ∃ x y, v = .c x y ∧ At cs o 1 (fun av => TagRep A H x av) ∧ Rep A H r y cs
def RepE (A : Nat → Prop) (H : Heap) : Ev → V → AV → Prop
  | .leaf k n, v, av => RepK A H k n av v
  | .list sz n e, v, av => ListRep A H sz n (Rep A H e) v av
  | .tags, v, av => TagRep A H v av
theorem Rep.node {A : Nat → Prop} {H : Heap} (e : Ev) (o : Nat) (r : F) (v : V) (cs : List AV) : Rep A H (e.node o r) v cs ↔ ∃ x y, v = .c x y ∧ At cs o e.wide (RepE A H e x) ∧ Rep A H r y cs := by
  cases e <;> rfl
theorem BytesAt.kt {A A' : Nat → Prop} {H H' : Heap} {av : AV} {bs : B} (h : BytesAt A H av bs) (k : KT A H A' H') : BytesAt A' H' av bs := by
  cases h with
  | z => exact .z
  | e => exact .e
  | s hA h h0 h1 => exact .s (k.2 _ _ hA h).1 (k.2 _ _ hA h).2 h0 h1
theorem RepK.kt {A A' : Nat → Prop} {H H' : Heap} {kd : K} {n : Bool} {av : AV} {v : V} (h : RepK A H kd n av v) (k : KT A H A' H') : RepK A' H' kd n av v := by
  cases kd <;> cases v <;> simp only [RepK] at h ⊢ <;> first | exact h | skip
  · split at h
    · rename_i hn
      rw [if_pos hn]
      obtain ⟨i, ty, ha, hp, hh⟩ := h
      exact ⟨i, ty, (k.2 _ _ ha hh).1, hp, (k.2 _ _ ha hh).2⟩
    · rename_i hn
      rw [if_neg hn]; exact h
  · exact ⟨BytesAt.kt h.1 k, h.2⟩
  · obtain ⟨i, ty, ha, hp, hh⟩ := h
    exact ⟨i, ty, (k.2 _ _ ha hh).1, hp, (k.2 _ _ ha hh).2⟩
theorem TagRep.kt {A A' : Nat → Prop} {H H' : Heap} {v : V} {av : AV} (h : TagRep A H v av) (k : KT A H A' H') : TagRep A' H' v av := by
  obtain ⟨ts, rfl, ho, h | ⟨i, es, rfl, hA, hi, es', e1, e2, e3⟩⟩ := h
  · exact ⟨ts, rfl, ho, .inl h⟩
  · exact ⟨ts, rfl, ho, .inr ⟨i, es, rfl, (k.2 _ _ hA hi).1, (k.2 _ _ hA hi).2, es', e1, e2, fun j q v kk bs hj ht => BytesAt.kt (e3 j q v kk bs hj ht) k⟩⟩
theorem Rep.kt {A A' : Nat → Prop} {H H' : Heap} (k : KT A H A' H') : ∀ {f : F} {v : V} {cs : List AV}, Rep A H f v cs → Rep A' H' f v cs
  | .nil, v, cs, h => h
  | .leaf o kd n r, v, cs, h => by
    obtain ⟨x, y, rfl, ⟨av, h1, h2⟩, h3⟩ := h
    exact ⟨x, y, rfl, ⟨av, RepK.kt h1 k, h2⟩, Rep.kt k h3⟩
  | .list o sz n e r, v, cs, h => by
    obtain ⟨x, y, rfl, ⟨av, h1, h2⟩, h3⟩ := h
    refine ⟨x, y, rfl, ⟨av, ?_, h2⟩, Rep.kt k h3⟩
    cases x with
    | l vs =>
      rcases h1 with h1 | ⟨i, ty, bl, p0, pA, p1, p2, p3, p4⟩
      · exact .inl h1
      · exact .inr ⟨i, ty, bl, p0, (k.2 _ _ pA p2).1, p1, (k.2 _ _ pA p2).2, p3, fun j x hj => Rep.kt k (p4 j x hj)⟩
    | nul => exact h1
    | _ => exact h1
  | .tags o r, v, cs, h => by
    obtain ⟨x, y, rfl, ⟨av, h1, h2⟩, h3⟩ := h
    exact ⟨x, y, rfl, ⟨av, TagRep.kt h1 k, h2⟩, Rep.kt k h3⟩
theorem ListRep.kt {A A' : Nat → Prop} {H H' : Heap} (k : KT A H A' H') {sz : Nat} {n : Bool} {f : F} {v : V} {av : AV} (h : ListRep A H sz n (Rep A H f) v av) : ListRep A' H' sz n (Rep A' H' f) v av := by
  cases v with
  | l vs =>
    rcases h with h1 | ⟨i, ty, bl, p0, pA, p1, p2, p3, p4⟩
    · exact .inl h1
    · exact .inr ⟨i, ty, bl, p0, (k.2 _ _ pA p2).1, p1, (k.2 _ _ pA p2).2, p3, fun j x hj => Rep.kt k (p4 j x hj)⟩
  | nul => exact h
  | _ => exact h
theorem RepE.kt {A A' : Nat → Prop} {H H' : Heap} (k : KT A H A' H') {e : Ev} {v : V} {av : AV} (h : RepE A H e v av) : RepE A' H' e v av := by
  cases e with
  | leaf kd n => exact RepK.kt h k
  | list sz n f => exact ListRep.kt k h
  | tags => exact TagRep.kt h k
structure RdV (f : FuncId) (flex : Bool) (k : K) (null : Bool) : Prop where
  good : ∀ (A : Nat → Prop) (H : Heap) (rb : Nat) (nn : Bool) (bs : B) (v : V) (r : B), Room A H rb → RdAt A tR H rb nn (some bs) → decK flex k null bs = some (v, r) →
    ∃ av H', CA P NS f [.p rb 0] H (av, H') ∧ RepK A H' k null av v ∧ av.cells.length = k.wide ∧ av.cells.all AV.one = true ∧ RdAt A tR H' rb true (some r) ∧ Keep A H H'
  bad : ∀ (A : Nat → Prop) (H : Heap) (rb : Nat) (nn : Bool) (st : Option B), Room A H rb → RdAt A tR H rb nn st → st.bind (decK flex k null) = none →
    ∃ av H', CA P NS f [.p rb 0] H (av, H') ∧ av.cells.length = k.wide ∧ av.cells.all AV.one = true ∧ RdAt A tR H' rb true none ∧ Keep A H H'
structure RdT (f : FuncId) : Prop where
  good : ∀ (A : Nat → Prop) (H : Heap) (rb : Nat) (nn : Bool) (bs : B) (v : V) (r : B), Room A H rb → RdAt A tR H rb nn (some bs) → Ev.tags.dec true bs = some (v, r) →
    ∃ av H', CA P NS f [.p rb 0] H (av, H') ∧ TagRep A H' v av ∧ av.cells.length = 1 ∧ av.cells.all AV.one = true ∧ RdAt A tR H' rb true (some r) ∧ Keep A H H'
  bad : ∀ (A : Nat → Prop) (H : Heap) (rb : Nat) (nn : Bool) (st : Option B), Room A H rb → RdAt A tR H rb nn st → st.bind (Ev.tags.dec true) = none →
    ∃ av H', CA P NS f [.p rb 0] H (av, H') ∧ av.cells.length = 1 ∧ av.cells.all AV.one = true ∧ RdAt A tR H' rb true none ∧ Keep A H H'
structure RdL (f : FuncId) (d : B → Option (Int × B)) : Prop where
  good : ∀ (A : Nat → Prop) (H : Heap) (rb : Nat) (nn : Bool) (bs : B) (n : Int) (r : B), Room A H rb → RdAt A tR H rb nn (some bs) → d bs = some (n, r) →
    ∃ H', CA P NS f [.p rb 0] H (.i .i32 n, H') ∧ RdAt A tR H' rb true (some r) ∧ Keep A H H'
  bad : ∀ (A : Nat → Prop) (H : Heap) (rb : Nat) (nn : Bool) (st : Option B), Room A H rb → RdAt A tR H rb nn st → st.bind d = none →
    ∃ n H', CA P NS f [.p rb 0] H (.i .i32 n, H') ∧ (n = 0 ∨ n < 0) ∧ RdAt A tR H' rb true none ∧ Keep A H H'
theorem RdN.l {f : FuncId} {d : B → Option (Int × B)} (h : RdN f .i32 d) : RdL f d where
  good := h.good
  bad A H rb nn st R h0 hd := (h.bad A H rb nn st R h0 hd).elim fun H' x => ⟨0, H', x.1, .inl rfl, x.2.1, x.2.2⟩
structure RdOk (f : FuncId) : Prop where
  run : ∀ (A : Nat → Prop) (H : Heap) (rb : Nat) (nn : Bool) (st : Option B), RdAt A tR H rb nn st → CA P NS f [.p rb 0] H (.b st.isSome, H)
structure RdDone (f : FuncId) : Prop where
  run : ∀ (A : Nat → Prop) (H : Heap) (rb : Nat) (nn : Bool) (st : Option B), Room A H rb → RdAt A tR H rb nn st → CA P NS f [.p rb 0] H (if st.isSome then .n else .e, H)
theorem Room.kt {A A' : Nat → Prop} {H H' : Heap} {rb rb' : Nat} (h : Room A H rb) (k : KT A H A' H') (no : ¬ A' rb') (new : ∀ i, H'.length ≤ i → A' i) : Room A' H' rb' where
  no := no
  new := new
  be := h.be.2.elim fun ty x => ⟨(k.2 _ _ h.be.1 x).1, ty, (k.2 _ _ h.be.1 x).2⟩
  err := h.err.2.elim fun ty x => ⟨(k.2 _ _ h.err.1 x).1, ty, (k.2 _ _ h.err.1 x).2⟩
theorem CA.det {P : Program} {S : CallA} {f : FuncId} {args : List AV} {H : Heap} {r r' : AV × Heap} (h : CA P S f args H r) (k : CA P S f args H r') : r = r' := by
  obtain ⟨n, h⟩ := h
  obtain ⟨m, k⟩ := k
  have a := h (max n m) (by omega)
  have b := k (max n m) (by omega)
  rw [a] at b
  exact Option.some.inj b
end Go.Proofs.YtiifcfngbbhgoagDoor.Rd

