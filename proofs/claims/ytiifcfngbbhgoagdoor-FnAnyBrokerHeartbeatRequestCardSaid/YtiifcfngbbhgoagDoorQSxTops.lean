/-
  THE CHECKER is sound for a whole reading function.
-/
import Derived.Test.YtiifcfngbbhgoagDoorQSxChk
import Derived.Test.YtiifcfngbbhgoagDoorQAxDraw2
set_option linter.constructorNameAsVariable false
set_option linter.unusedVariables false
set_option linter.unusedSimpArgs false
namespace Go.Proofs.YtiifcfngbbhgoagDoor.Rd
open Go Go.Proofs.YtiifcfngbbhgoagDoor.Ax Go.Proofs.YtiifcfngbbhgoagDoor.Wire
set_option maxRecDepth 100000
theorem psIs_spec {L : List (Nat × Operand)} {a : Nat} (h : psIs L a = true) : L = [(0, .tmp a)] := by
  unfold psIs at h
  split at h
  · rename_i a'
    have : a' = a := by simpa using h
    rw [this]
  · cases h
theorem mkOp_spec {L : List Oper} {a b c : Nat} (h : mkOp L = some (a, b, c)) : a ≠ b ∧ b ≠ c ∧ ∃ t1 p1 f1 t2 p2 f2 t3 p3 f3 t4 p4 f4 ps, ps.toList = [(0, .tmp a)] ∧
    L = [⟨some a, .move (.tmp 1), t1, p1, f1, none⟩, ⟨some b, .build tR ps, t2, p2, f2, none⟩, ⟨some c, .alloc tR, t3, p3, f3, none⟩, ⟨none, .store tR (.tmp c) (.tmp b), t4, p4, f4, none⟩] := by
  unfold mkOp at h
  split at h
  · rename_i a' t1 p1 f1 b' t ps t2 p2 f2 c' t' t3 p3 f3 t'' c'' b'' t4 p4 f4
    split at h
    · rename_i hc
      obtain ⟨rfl, rfl, rfl, rfl, rfl, hps, h1, h2⟩ := hc
      simp only [Option.some.injEq, Prod.mk.injEq] at h
      obtain ⟨rfl, rfl, rfl⟩ := h
      exact ⟨h1, h2, t1, p1, f1, t2, p2, f2, t3, p3, f3, t4, p4, f4, ps, psIs_spec hps, rfl⟩
    · cases h
  · cases h
theorem zero_rd : zeroA P tR = some (.g [.s0, .b false]) := by kernel_rfl
theorem size_rd : sizeA P tR = some 2 := by kernel_rfl
theorem build_rd {A : Nat → Prop} {H : Heap} {src : AV} {bs : B} (h : BytesAt A H src bs) : buildA P tR [(0, src)] = some (.g [src, .b false]) := by
  cases h with
  | z => kernel_rfl
  | e => kernel_rfl
  | s hA h h0 h1 =>
    rename_i i o ty kn cs
    generalize bs.length = n
    kernel_rfl
theorem BytesAt.cl {A : Nat → Prop} {H : Heap} {src : AV} {bs : B} (h : BytesAt A H src bs) : src.cells = [src] ∧ src.one = true := BytesAt.one' h
theorem st_new {H : Heap} {src : AV} (h1 : src.one = true) : storeA P (H ++ [.cells tR .vr [.s0, .b false]]) tR (.p H.length 0) (.g [src, .b false]) = some (H ++ [.cells tR .vr [src, .b false]]) := by
  have h : (H ++ [Blk.cells tR .vr [.s0, .b false]])[H.length]? = some (.cells tR .vr [.s0, .b false]) := by simp
  have hb : (AV.b false).one = true := rfl
  simp [storeA, h, size_rd, Kn.own, AV.cells, h1, hb, over]
theorem mk_run {ops : Array Oper} {a b c : Nat} {id : Nat} (h : mkOp ops.toList = some (a, b, c)) {A : Nat → Prop} {H : Heap} {fr : List AV} {src : AV} {bs : B} (hb : BytesAt A H src bs) (h1 : fr[1]? = some src) (ha : a < fr.length) (hbl : b < fr.length) (hc : c < fr.length) :
    RU P NS (.region id ops false) fr H (.normal, ((fr.set a src).set b (.g [src, .b false])).set c (.p H.length 0), H ++ [.cells tR .vr [src, .b false]]) := by
  obtain ⟨n1, n2, t1, p1, f1, t2, p2, f2, t3, p3, f3, t4, p4, f4, ps, hps, hL⟩ := mkOp_spec h
  refine RU.region ?_
  rw [hL]
  obtain ⟨q1, q2⟩ := BytesAt.cl hb
  refine OS.op rfl rfl (op_move h1) ?_
  refine OS.op rfl rfl (v := .g [src, .b false]) (H1 := H) ?_ ?_
  · show opA P (.build tR ps) (fr.set a src) H = _
    simp only [opA, hps, evs, ev, List.getElem?_set_self ha, Option.bind_some, build_rd hb, Option.map_some]
  refine OS.op rfl rfl (op_alloc zero_rd rfl) ?_
  refine OS.op rfl rfl (op_store (a := .p H.length 0) (v := .g [src, .b false]) (H1 := H ++ [.cells tR .vr [src, .b false]]) ?_ ?_ ?_) ?_
  · show (((fr.set a src).set b (.g [src, .b false])).set c (.p H.length 0))[c]? = _
    rw [List.getElem?_set_self (by simpa using hc)]
  · show (((fr.set a src).set b (.g [src, .b false])).set c (.p H.length 0))[b]? = _
    rw [List.getElem?_set, if_neg (fun x => n2 x.symm), List.getElem?_set_self (by simpa using hbl)]
  · exact st_new q2
  · exact OS.nil
end Go.Proofs.YtiifcfngbbhgoagDoor.Rd

namespace Go.Proofs.YtiifcfngbbhgoagDoor.Rd
open Go Go.Proofs.YtiifcfngbbhgoagDoor.Ax Go.Proofs.YtiifcfngbbhgoagDoor.Wire
inductive WV where
  | u
  | b (x : Bool)
  | i (k : IntKind) (n : Int)
  | z (c : CK)
  | ptr (l o : Nat)
  | cel (l o : Nat)
  | cels (l o w : Nat)
  | out (k : Nat)
  | cnt (l o : Nat)
  | isn (l o : Nat)
  | tl (w : Bool) (l o : Nat)
  | idx (l : Nat)
  | nxt (l : Nat)
  | fin (l : Nat)
  | dr (l o : Nat)
  deriving DecidableEq, Repr
def WV.con : WV → Option AV
  | .b x => some (.b x)
  | .i k n => some (.i k n)
  | .z c => some c.av
  | _ => none
def ofW (a : AV) : WV :=
  match ofA a with
  | .b x => .b x
  | .i k n => .i k n
  | .z c => .z c
  | _ => .u
abbrev WF := List WV
def evW (fr : WF) : Operand → Option WV
  | .tmp t => fr[t]?
  | .const v => (ofV v).map ofW
  | _ => none
inductive WPrim where
  | leaf (k : K) (null : Bool) (fx : Option Bool)
  | len (null : Bool) (fx : Bool)
  | uv
  | tlen
  | each
  deriving DecidableEq
inductive WVer where
  | is (n : Int)
  | rng (lo hi : Int)
  deriving DecidableEq
def WVer.has : WVer → Int → Prop
  | .is n, k => k = n
  | .rng lo hi, k => lo ≤ k ∧ k ≤ hi
structure WS where
  fr : WF
  lv : List (Nat × Nat)
  ver : Option WVer
  cur : Nat
  pend : Option (Nat × Option Bool)
  exp : List (List (Ev × Nat))
  k : Nat
  deriving DecidableEq
def WS.put (s : WS) (d : Option Tmp) (v : WV) : WS :=
  match d with
  | some d => { s with fr := s.fr.set d v }
  | none => s
def WS.top (s : WS) : Nat := s.lv.length - 1
def WS.pl (s : WS) : List (Ev × Nat) := (s.exp[s.top]?).getD []
def isList : Ev → Bool
  | .list .. => true
  | _ => false
def WS.lst (s : WS) (l o : Nat) : Bool := ((s.exp[l]?).getD []).any fun x => decide (x.2 = o) && isList x.1
def WS.tgs (s : WS) (l o : Nat) : Bool := ((s.exp[l]?).getD []).any fun x => decide (x.2 = o) && x.1 == .tags
def WS.pst (s : WS) (l o : Nat) : Bool := ((s.exp[l]?).getD []).any fun x => decide (x.2 = o) && x.1 == .leaf .pstr false
noncomputable def isPtrW (t : TypeId) : Bool := match P.underlying t with
  | some (.pointer _) => true
  | _ => false
def WS.fresh (s : WS) : Bool := s.fr.all fun v => v != .out (s.cur + 1)
def unF : F → List (Ev × Nat)
  | .nil => []
  | .leaf o k n r => (.leaf k n, o) :: unF r
  | .list o sz n e r => (.list sz n e, o) :: unF r
  | .tags o r => (.tags, o) :: unF r
noncomputable def binW (op : BinOp) (t : TypeId) (c : Bool) (x y : WV) : Option WV :=
  match x.con, y.con with
  | some a, some b => (binA P op t c a b).map ofW
  | _, _ => match op, x, y with
    | .add, .i .u32 0, .tl true l o => some (.tl true l o)
    | .add, .idx l, .i .i64 1 => some (.nxt l)
    | _, _, _ => none
noncomputable def cmpW (s : WS) (op : BinOp) (t : TypeId) (x y : WV) : Option WV :=
  match op, x, y with
  | .eql, .cel l o, .z .s0 => match elemA P t with
    | some _ => if s.lst l o = true then some (.isn l o) else none
    | none => none
  | .neq, .cel l o, .z .p0 => if s.pst l o = true ∧ isPtrW t = true then some (.b true) else none
  | .geq, .cel 0 0, .i .i16 c => match s.ver with
    | some (.rng lo hi) => if c ≤ lo then some (.b true) else if hi < c then some (.b false) else none
    | _ => none
  | .lss, .idx (l + 1), .cnt l' o => if l = l' ∧ (s.lv[l + 1]?).map (·.1) = some o then some (.b true) else none
  | .lss, .fin (l + 1), .cnt l' o => if l = l' ∧ (s.lv[l + 1]?).map (·.1) = some o then some (.b false) else none
  | _, _, _ => none
noncomputable def pureW (o : Op) (s : WS) : Option WV :=
  match o with
  | .move x | .assign x => evW s.fr x
  | .pick c a b => match evW s.fr c with
    | some (.b true) => evW s.fr a
    | some (.b false) => evW s.fr b
    | _ => none
  | .nilCheck x => match evW s.fr x with
    | some (.ptr l o) => some (.ptr l o)
    | some (.cel l o) => if s.pst l o = true then some (.cel l o) else none
    | _ => none
  | .fieldAddr t x k => match evW s.fr x with
    | some (.ptr l o) => match fieldAddrA P t (.p 0 o) k with
      | some (.p _ o') => some (.ptr l o')
      | _ => none
    | _ => none
  | .indexAddr t x k => match evW s.fr x, evW s.fr k with
    | some (.cel l o), some (.idx l') => match (elemA P t).bind (sizeA P) with
      | some sz => if l' = l + 1 ∧ s.lv[l']? = some (o, sz) ∧ s.lst l o = true then some (.ptr l' 0) else none
      | none => none
    | _, _ => none
  | .load t x => match evW s.fr x with
    | some (.ptr l o) => match aggA P t, sizeA P t, s.lv[l]? with
      | some false, _, some (_, sz) => if o < sz then (match s.ver with
        | some (.is n) => if l = 0 ∧ o = 0 then some (.i .i16 n) else some (.cel l o)
        | _ => some (.cel l o)) else none
      | some true, some w, some (_, sz) => if o + w ≤ sz then some (.cels l o w) else none
      | _, _, _ => none
    | some (.cel l o) => match aggA P t with
      | some false => if s.pst l o = true then some (.dr l o) else none
      | _ => none
    | _ => none
  | .binOp op t x y _ => match evW s.fr x, evW s.fr y with
    | some a, some b => match cmpW s op t a b with
      | some v => some v
      | none => binW op t (isC x || isC y) a b
    | _, _ => none
  | .unOp op _ x => match (evW s.fr x).bind WV.con with
    | some a => (unA op a).map ofW
    | none => none
  | .convert sr d x => match evW s.fr x with
    | some (.tl false l o) => match P.underlying sr, P.underlying d with
      | some (.int .i64), some (.int .u32) => some (.tl true l o)
      | _, _ => none
    | some v => match v.con with
      | some a => (convA P sr d a).map ofW
      | none => none
    | none => none
  | .call { callee := .builtin .len, args, argTypes } => match args.toList, argTypes.toList with
    | [x], [t] => match evW s.fr x, elemA P t with
      | some (.cel l o), some _ => if s.lst l o = true then some (.cnt l o) else none
      | _, _ => none
    | _, _ => none
  | _ => none
def lenR (null : Bool) (l o : Nat) : List (Option WV) := if null then [some (.isn l o)] else []
noncomputable def opW (C : Cfg) (prim : List (FuncId × WPrim)) (o : Oper) (s : WS) : Option WS :=
  match o.op with
  | .call { callee := .value (.func f), args, .. } => match prim.lookup f, args.toList.map (evW s.fr) with
    | some (.leaf k n fx), [some (.out c), some x] =>
      if c = s.cur ∧ s.pend = none ∧ fxOk C.flex fx = true ∧ s.fresh = true then match x with
        | .cel l o' => if l = s.top ∧ k ≠ .uuid ∧ s.pl[s.k]? = some (Ev.leaf k n, o') then some ({ s with cur := s.cur + 1, k := s.k + 1 }.put o.dst (.out (s.cur + 1))) else none
        | .cels l o' w => if l = s.top ∧ w = 16 ∧ k = .uuid ∧ s.pl[s.k]? = some (Ev.leaf k n, o') then some ({ s with cur := s.cur + 1, k := s.k + 1 }.put o.dst (.out (s.cur + 1))) else none
        | .dr l o' => if l = s.top ∧ k = .str ∧ n = false ∧ s.pl[s.k]? = some (Ev.leaf .pstr false, o') then some ({ s with cur := s.cur + 1, k := s.k + 1 }.put o.dst (.out (s.cur + 1))) else none
        | _ => none
      else none
    | some (.len null fx), some (.out c) :: some (.cnt l o') :: r =>
      if c = s.cur ∧ s.pend = none ∧ fx = C.flex ∧ l = s.top ∧ s.fresh = true ∧ r = lenR null l o' ∧ ((s.pl[s.k]?).any fun x => decide (x.2 = o') && isList x.1) = true then some ({ s with cur := s.cur + 1, pend := some (o', some null) }.put o.dst (.out (s.cur + 1))) else none
    | some .tlen, [some (.ptr l o')] => if l = s.top ∧ s.tgs l o' = true then some (s.put o.dst (.tl false l o')) else none
    | some .uv, [some (.out c), some (.tl true l o')] => if c = s.cur ∧ s.pend = none ∧ l = s.top ∧ s.fresh = true then some ({ s with cur := s.cur + 1, pend := some (o', none) }.put o.dst (.out (s.cur + 1))) else none
    | some .each, [some (.ptr l o'), some (.out c)] => if c = s.cur ∧ l = s.top ∧ s.pend = some (o', none) ∧ s.fresh = true ∧ s.pl[s.k]? = some (Ev.tags, o') then some ({ s with cur := s.cur + 1, pend := none, k := s.k + 1 }.put o.dst (.out (s.cur + 1))) else none
    | _, _ => none
  | op => (pureW op s).map fun v => s.put o.dst v
def wantW (ops : List Oper) (s : WS) : Option (Nat × Bool) → Option Bool
  | none => some true
  | some (j, w) => match (ops[j]?).bind (·.dst) with
    | some d => match s.fr[d]? with
      | some (.b x) => some (x == w)
      | _ => none
    | none => none
noncomputable def opsW (C : Cfg) (prim : List (FuncId × WPrim)) (ops : List Oper) : List Oper → WS → Option WS
  | [], s => some s
  | o :: r, s => match wantW ops s o.guard with
    | some true => (opW C prim o s).bind (opsW C prim ops r)
    | some false => opsW C prim ops r (s.put o.dst .u)
    | none => none
noncomputable def exitW (C : Cfg) (b : List Code) (s : WS) : Option (Nat × WS) :=
  match b with
  | .region _ ops false :: .cond c x (.exit id) :: _ => match opsW C [] ops.toList ops.toList s with
    | some s1 => match evW s1.fr c with
      | some (.b false) => some (id, s1)
      | _ => none
    | none => none
  | _ => none
def renW (a b : Nat) (v : WV) : WV := if v = .out a then .out b else v
def WV.calm (l : Nat) : WV → Bool
  | .ptr k _ | .cel k _ | .cels k _ _ | .cnt k _ | .isn k _ | .tl _ k _ | .idx k | .nxt k | .fin k | .dr k _ => decide (k < l)
  | _ => true
def lowW (l : Nat) (v : WV) : WV := if v.calm l then v else .u
def iSlotW : List Code → Option Nat
  | .region _ ops _ :: _ => match ops.toList with
    | ⟨_, .binOp .lss _ (.tmp t) _ _, _, _, _, _⟩ :: _ => some t
    | _ => none
  | _ => none
def noOut : WV → WV
  | .out _ => .u
  | v => v
def headW (l it : Nat) (b : Code) (o : Nat) (c : Nat) (fr : WF) : WF := ((((dsts b).foldl (fun fr t => fr.set t .u) fr).map noOut).set o (.out c)).set it (.idx l)
def outSlot (c : Nat) (fr : WF) : Nat := fr.findIdx (· = .out c)
def splitA : List Oper → Option (List Oper × Nat × TypeId × Nat)
  | [] => none
  | [_] => none
  | [⟨some q, .alloc T, _, _, _, none⟩, ⟨none, .store T' (.tmp q') (.tmp d), _, _, _, none⟩] => if T' = T ∧ q' = q ∧ d ≠ q then some ([], q, T, d) else none
  | o :: r => (splitA r).map fun (a, x) => (o :: a, x)
def isMv : Oper → Bool
  | ⟨_, .move _, _, _, _, none⟩ => true
  | _ => false
def isUu : Ev → Bool
  | .leaf .uuid _ => true
  | _ => false
noncomputable def boxW (C : Cfg) (prim : List (FuncId × WPrim)) (ops1 ops2 : List Oper) (s : WS) : Option WS :=
  match splitA ops1 with
  | some (pre0, q, T, d) => match splitT q T ops2 with
    | some (pre, e, post) =>
      if aggA P T = some true ∧ pre.all isMv = true then match opsW C prim ops1 pre0 s with
        | some s1 => match s1.fr[d]?, sizeA P T, zeroA P T with
          | some (.cels l o w), some sz, some z =>
            if w = sz ∧ w = 16 ∧ l = s1.top ∧ ((s1.pl[s1.k]?).any fun x => decide (x.2 = o) && isUu x.1) = true ∧ z.cells.length = sz ∧ z.cells.all AV.one = true ∧ q < s1.fr.length then
              match opsW C prim ops2 pre (s1.put (some q) .u) with
              | some s2 => opsW C prim ops2 post (s2.put (some e) (.cels l o w))
              | none => none
            else none
          | _, _, _ => none
        | none => none
      else none
    | none => none
  | none => none
noncomputable def boxWM (C : Cfg) (prim : List (FuncId × WPrim)) (ops1 : List Oper) (rest : List Code) (s : WS) : Option (WS × List Code) :=
  match rest with
  | .region _ ops2 false :: rest2 => (boxW C prim ops1 ops2.toList s).map fun s1 => (s1, rest2)
  | _ => none
noncomputable def chkWStep (C : Cfg) (prim : List (FuncId × WPrim)) (rec : List Code → WS → Option WS) : List Code → WS → Option WS
  | [], s => some s
  | .region _ ops false :: rest, s => match boxWM C prim ops.toList rest s with
    | some (s1, rest2) => rec rest2 s1
    | none => (opsW C prim ops.toList ops.toList s).bind (rec rest)
  | .cond c a b :: rest, s => match evW s.fr c with
    | some (.b true) => rec (flat a ++ rest) s
    | some (.b false) => rec (flat b ++ rest) s
    | _ => none
  | .block id (.loop b) :: rest, s => match s.pend, iSlotW (flat b), s.pl[s.k]? with
    | some (o, some null), some it, some (.list sz null' f, o') =>
      let l := s.lv.length
      let os := outSlot s.cur s.fr
      let hd := headW l it b os s.cur s.fr
      match rec (flat b) { s with fr := hd, lv := s.lv ++ [(o, sz)], pend := none, exp := s.exp ++ [unF f], k := 0 }, exitW C (flat b) { s with fr := hd.set it (.fin l), lv := s.lv ++ [(o, sz)], pend := none, exp := s.exp ++ [[]], k := 0 } with
      | some s2, some (j, s3) =>
        if j = id ∧ null' = null ∧ o' = o ∧ 0 < l ∧ 0 < sz ∧ s.exp.length = l ∧ s.fr[it]? = some (.i .i64 0) ∧ s.fr[os]? = some (.out s.cur) ∧ os ≠ it ∧ it < s.fr.length ∧ s2.fr[it]? = some (.nxt l) ∧ s2.pend = none ∧ s2.lv = s.lv ++ [(o, sz)] ∧ s2.exp = s.exp ++ [unF f] ∧ s2.k = (unF f).length ∧ s2.fr.length = hd.length
          ∧ ((hd.set it .u).zip s2.fr).all (fun x => x.1 == .u || renW s.cur s2.cur x.1 == x.2) = true ∧ (hd.set it .u).all (WV.calm l) = true ∧ s3.cur = s.cur ∧ s3.lv = s.lv ++ [(o, sz)] ∧ s3.pend = none ∧ s3.exp = s.exp ++ [[]] ∧ s3.k = 0 ∧ s2.ver = s.ver ∧ s3.ver = s.ver ∧ s3.fr.length = s.fr.length then
          rec rest { s with fr := s3.fr.map (lowW l), pend := none, k := s.k + 1 }
        else none
      | _, _ => none
    | _, _, _ => none
  | .block _ b :: rest, s => rec (flat b ++ rest) s
  | _, _ => none
noncomputable def chkW (C : Cfg) (prim : List (FuncId × WPrim)) : Nat → List Code → WS → Option WS
  | 0 => fun _ _ => none
  | f + 1 => chkWStep C prim (chkW C prim f)
noncomputable def chkWTopG (C : Cfg) (prim : List (FuncId × WPrim)) (fn : Func) (sz : Nat) (ver : Option WVer) (pl : List (Ev × Nat)) : Bool :=
  match fn.body with
  | some c =>
    let l := flat c
    match l.getLast?, chkW C prim 400 l.dropLast { fr := [.ptr 0 0, .out 0] ++ List.replicate (fn.ntmps - 2) .u, lv := [(0, sz)], ver := ver, cur := 0, pend := none, exp := [pl], k := 0 } with
    | some .ret, some s => decide (s.fr[C.res]? = some (.out s.cur) ∧ s.pend = none ∧ s.exp = [pl] ∧ s.lv = [(0, sz)] ∧ s.k = pl.length ∧ oneRes fn.results.toList = some C.res ∧ 2 ≤ fn.ntmps)
    | _, _ => false
  | none => false
noncomputable def chkWTop (C : Cfg) (prim : List (FuncId × WPrim)) (fn : Func) (sz : Nat) (ver : Option Int) (pl : List (Ev × Nat)) : Bool := chkWTopG C prim fn sz (ver.map .is) pl
end Go.Proofs.YtiifcfngbbhgoagDoor.Rd

namespace Go.Proofs.YtiifcfngbbhgoagDoor.Rd
open Go Go.Proofs.YtiifcfngbbhgoagDoor.Ax Go.Proofs.YtiifcfngbbhgoagDoor.Wire
set_option maxRecDepth 100000
def slen : AV → Option Nat
  | .s0 | .se | .sn => some 0
  | .sl _ 0 n => some n
  | _ => none
def isS0 : AV → Bool
  | .s0 => true
  | _ => false
def tagN (H : Heap) : AV → Option Nat
  | .m0 => some 0
  | .mp i => match H[i]? with
    | some (.map _ es) => some es.length
    | _ => none
  | _ => none
structure WL where
  b : Nat
  w : Nat
  sz : Nat
  cs : List AV
  o : Nat
  j : Nat
  n : Nat
structure WSta where
  fr : List AV
  H : Heap
  lv : List WL
  out : AV
  bs : B
  vs : List (List V)
def denW (H0 : Heap) (cur : Nat) (out : AV) (lv : List WL) : WV → AV → Prop
  | .u, _ => True
  | .b x, a => a = .b x
  | .i k n, a => a = .i k n
  | .z c, a => a = c.av
  | .ptr l o, a => ∃ e, lv[l]? = some e ∧ e.j < e.n ∧ a = .p e.b (e.w + o)
  | .cel l o, a => ∃ e, lv[l]? = some e ∧ e.cs[o]? = some a
  | .cels l o w, a => ∃ e, lv[l]? = some e ∧ o + w ≤ e.cs.length ∧ a = .g ((e.cs.drop o).take w)
  | .out k, a => k = cur → a = out
  | .cnt l o, a => ∃ e x n, lv[l]? = some e ∧ e.cs[o]? = some x ∧ slen x = some n ∧ a = .i .i64 (n : Nat)
  | .isn l o, a => ∃ e x n, lv[l]? = some e ∧ e.cs[o]? = some x ∧ slen x = some n ∧ a = .b (isS0 x)
  | .tl w l o, a => ∃ e x n, lv[l]? = some e ∧ e.cs[o]? = some x ∧ tagN H0 x = some n ∧ n < 4294967296 ∧ a = .i (if w then .u32 else .i64) (n : Nat)
  | .idx l, a => ∃ e, lv[l]? = some e ∧ a = .i .i64 (e.j : Nat) ∧ e.j < e.n ∧ e.n < 4611686018427387904
  | .nxt l, a => ∃ e, lv[l]? = some e ∧ a = .i .i64 ((e.j + 1 : Nat) : Int)
  | .fin l, a => ∃ e, lv[l]? = some e ∧ a = .i .i64 (e.n : Nat)
  | .dr l o, a => ∃ e, lv[l]? = some e ∧ ∃ b ty x, e.cs[o]? = some (.p b 0) ∧ H0[b]? = some (.cells ty .vr [.s x]) ∧ a = .s x
def OutAt (L0 : Nat) (H : Heap) (out : AV) (bs : B) : Prop := (out = .s0 ∧ bs = []) ∨ ∃ i, L0 ≤ i ∧ out = .sl i 0 bs.length ∧ H[i]? = some (.cells tU .row (u8s bs)) ∧ 0 < bs.length
structure WKeep (L0 : Nat) (H H' : Heap) : Prop where
  at_ : ∀ i, i < L0 → H'[i]? = H[i]?
  len : H.length ≤ H'.length
theorem WKeep.refl (L0 : Nat) (H : Heap) : WKeep L0 H H := ⟨fun _ _ => rfl, Nat.le_refl _⟩
theorem WKeep.trans {L0 : Nat} {H H' H'' : Heap} (h : WKeep L0 H H') (k : WKeep L0 H' H'') : WKeep L0 H H'' := ⟨fun i hi => (k.at_ i hi).trans (h.at_ i hi), Nat.le_trans h.len k.len⟩
structure ApK (f : FuncId) (flex : Bool) (k : K) (null : Bool) : Prop where
  run : ∀ (L0 : Nat) (H : Heap) (out : AV) (bs : B) (av : AV) (v : V), L0 ≤ H.length → OutAt L0 H out bs → RepK (fun i => i < L0) H k null av v → okK flex k null v → bs.length + (encK flex k v).length ≤ 1099511627776 →
    ∃ out' H', CA P NS f [out, av] H (out', H') ∧ OutAt L0 H' out' (bs ++ encK flex k v) ∧ WKeep L0 H H'
structure ApL (f : FuncId) (flex : Bool) (null : Bool) : Prop where
  run : ∀ (L0 : Nat) (H : Heap) (out : AV) (bs : B) (n : Nat) (z : Bool), L0 ≤ H.length → OutAt L0 H out bs → n < 2147483648 → bs.length + 8 ≤ 1099511627776 →
    ∃ out' H', CA P NS f (out :: .i .i64 (n : Nat) :: (if null then [.b z] else [])) H (out', H') ∧ OutAt L0 H' out' (bs ++ (if null && z then cnt0 flex 4 else cnt flex 4 n)) ∧ WKeep L0 H H'
structure ApU (f : FuncId) : Prop where
  run : ∀ (L0 : Nat) (H : Heap) (out : AV) (bs : B) (n : Nat), L0 ≤ H.length → OutAt L0 H out bs → n < 4294967296 → bs.length + 8 ≤ 1099511627776 →
    ∃ out' H', CA P NS f [out, .i .u32 (n : Nat)] H (out', H') ∧ OutAt L0 H' out' (bs ++ uv n) ∧ WKeep L0 H H'
structure ApN (f : FuncId) : Prop where
  run : ∀ (H : Heap) (b o : Nat) (ty : TypeId) (kn : Kn) (cs : List AV) (x : AV) (n : Nat), H[b]? = some (.cells ty kn cs) → cs[o]? = some x → tagN H x = some n → CA P NS f [.p b o] H (.i .i64 (n : Nat), H)
structure ApE (f : FuncId) : Prop where
  run : ∀ (L0 : Nat) (H : Heap) (out : AV) (bs : B) (b o : Nat) (ty : TypeId) (kn : Kn) (cs : List AV) (x : AV) (ts : List (Nat × B)), L0 ≤ H.length → OutAt L0 H out bs → H[b]? = some (.cells ty kn cs) → cs[o]? = some x → b < L0 → TagRep (fun i => i < L0) H (.t ts) (.g [x]) →
    bs.length + (encT ts).length ≤ 1099511627776 → ∃ out' H', CA P NS f [.p b o, out] H (out', H') ∧ OutAt L0 H' out' (bs ++ encT ts) ∧ WKeep L0 H H'
def WPrimOK (C : Cfg) (f : FuncId) : WPrim → Prop
  | .leaf k n fx => fxOk C.flex fx = true → ApK f C.flex k n
  | .len null fx => fx = C.flex → ApL f C.flex null
  | .uv => ApU f
  | .tlen => ApN f
  | .each => ApE f
def WPrims (C : Cfg) (prim : List (FuncId × WPrim)) : Prop := ∀ f p, prim.lookup f = some p → WPrimOK C f p
def okE (flex : Bool) : Ev → V → Prop
  | .leaf k n, v => okK flex k n v
  | .list _ n e, .l vs => vs.length < 2 ^ 31 ∧ ∀ x ∈ vs, ok flex e x
  | .list _ n _, .nul => n = true
  | .list _ _ _, _ => False
  | .tags, .t ts => okT 0 ts ∧ ts.length < 2 ^ 32
  | .tags, _ => False
def Said (flex : Bool) (A : Nat → Prop) (H : Heap) (cs : List AV) (pl : List (Ev × Nat)) (vs : List V) : Prop :=
  ∀ (i : Nat) (e : Ev) (o : Nat), pl[i]? = some (e, o) → ∃ v, vs[i]? = some v ∧ At cs o e.wide (RepE A H e v) ∧ okE flex e v
def encs (flex : Bool) : List (Ev × Nat) → List V → B
  | [], _ => []
  | (e, _) :: r, v :: vs => e.enc flex v ++ encs flex r vs
  | _ :: _, [] => []
theorem encs_snoc (flex : Bool) : ∀ (l : List (Ev × Nat)) (vs : List V) (e : Ev) (o : Nat) (v : V), vs[l.length]? = some v → encs flex (l ++ [(e, o)]) vs = encs flex l vs ++ e.enc flex v
  | [], vs, e, o, v, h => by
    cases vs with
    | nil => simp at h
    | cons a r => simp at h; subst h; simp [encs]
  | (e', o') :: l, vs, e, o, v, h => by
    cases vs with
    | nil => simp at h
    | cons a r =>
      simp only [List.cons_append, encs, List.append_assoc]
      rw [encs_snoc flex l r e o v (by simpa using h)]
theorem encs_len (flex : Bool) : ∀ (a b : List (Ev × Nat)) (vs : List V), (encs flex a vs).length ≤ (encs flex (a ++ b) vs).length
  | [], b, vs => by simp [encs]
  | (e', o') :: a, b, vs => by
    cases vs with
    | nil => simp [encs]
    | cons v r =>
      simp only [List.cons_append, encs, List.length_append]
      have := encs_len flex a b r
      omega
def pendB (flex : Bool) (H : Heap) (cs : List AV) : Option (Nat × Option Bool) → Option B
  | none => some []
  | some (o, none) => (cs[o]?).bind fun x => (tagN H x).map uv
  | some (o, some null) => (cs[o]?).bind fun x => (slen x).map fun n => if null && isS0 x then cnt0 flex 4 else cnt flex 4 n
structure WOK (C : Cfg) (H0 : Heap) (L0 : Nat) (o0 : B) (s : WS) (σ : WSta) : Prop where
  fr : s.fr.length = σ.fr.length ∧ ∀ (t : Nat) (v : WV) (a : AV), s.fr[t]? = some v → σ.fr[t]? = some a → denW H0 s.cur σ.out σ.lv v a
  lvl : s.lv.length = σ.lv.length
  exl : s.exp.length = σ.lv.length
  vsl : σ.vs.length = σ.lv.length
  pos : 0 < σ.lv.length
  lv : ∀ (l : Nat) (e : WL), σ.lv[l]? = some e → s.lv[l]? = some (e.o, e.sz) ∧ (e.j < e.n → e.cs.length = e.sz ∧ e.b < L0 ∧ ∃ ty kn bl, H0[e.b]? = some (.cells ty kn bl) ∧ e.w + e.sz ≤ bl.length ∧ (bl.drop e.w).take e.sz = e.cs)
  up : ∀ (l : Nat) (p e : WL), σ.lv[l]? = some p → σ.lv[l + 1]? = some e → ∃ x, p.cs[e.o]? = some x ∧ ((slen x = some e.n ∧ (e.j < e.n → x = .sl e.b 0 e.n ∧ e.w = e.j * e.sz)) ∨ x = .p e.b e.w)
  said : ∀ (l : Nat) (e : WL) (pl : List (Ev × Nat)) (vs : List V), σ.lv[l]? = some e → s.exp[l]? = some pl → σ.vs[l]? = some vs → Said C.flex (fun i => i < L0) H0 e.cs pl vs
  ver : ∀ n, s.ver = some n → ∃ e k, σ.lv[0]? = some e ∧ e.cs[0]? = some (.i .i16 k) ∧ n.has k
  keep : WKeep L0 H0 σ.H
  l0 : L0 ≤ H0.length
  out : OutAt L0 σ.H σ.out σ.bs
  bytes : ∀ (e : WL) (pl : List (Ev × Nat)) (vs : List V), σ.lv[s.top]? = some e → s.exp[s.top]? = some pl → σ.vs[s.top]? = some vs → ∃ p, pendB C.flex H0 e.cs s.pend = some p ∧ σ.bs = o0 ++ encs C.flex (pl.take s.k) vs ++ p
  bound : ∀ (pl : List (Ev × Nat)) (vs : List V), s.exp[s.top]? = some pl → σ.vs[s.top]? = some vs → o0.length + (encs C.flex pl vs).length + 8 ≤ 1099511627776
end Go.Proofs.YtiifcfngbbhgoagDoor.Rd

