/-
  WALKS with what is to be shown at the end: codes, loops, variables in the heap.
-/
import Derived.Test.YtiifcfngbbhgoagDoorQApKit
import Derived.Test.YtiifcfngbbhgoagDoorQAxDrawS
set_option linter.constructorNameAsVariable false
set_option linter.unusedVariables false
set_option linter.unusedSimpArgs false
namespace Go.Proofs.YtiifcfngbbhgoagDoor.Rd
open Go Go.Proofs.YtiifcfngbbhgoagDoor.Ax Go.Proofs.YtiifcfngbbhgoagDoor.Wire
set_option maxRecDepth 100000
abbrev Ends := AX → List AV → Heap → Prop
def WP (S : CallA) (c : Code) (fr : List AV) (H : Heap) (Q : Ends) : Prop := ∃ x fr' H', RU P S c fr H (x, fr', H') ∧ Q x fr' H'
def Sq (S : CallA) (b : Code) (Q : Ends) : Ends := fun x fr H => match x with
  | .normal => WP S b fr H Q
  | x => Q x fr H
def Bk (id : Nat) (Q : Ends) : Ends := fun x fr H => match x with
  | .exit j => if j = id then Q .normal fr H else Q (.exit j) fr H
  | x => Q x fr H
def Lp (Q : Ends) (I : List AV → Heap → Prop) : Ends := fun x fr H => match x with
  | .normal => I fr H
  | x => Q x fr H
def Lx (Q : Ends) : Ends := fun x fr H => x ≠ .normal ∧ Q x fr H
def Fe (rs : List ResultVar) (R : AV → Heap → Prop) : Ends := fun x fr H => (x = .normal ∨ x = .ret) ∧ ∃ vs, resultsA P H fr rs = some vs ∧ R (packA vs) H
section
variable {S : CallA} {fr : List AV} {H : Heap} {Q : Ends}
theorem Sq.n {b : Code} (h : WP S b fr H Q) : Sq S b Q .normal fr H := h
theorem Sq.ret {b : Code} (h : Q .ret fr H) : Sq S b Q .ret fr H := h
theorem Sq.exit {b : Code} {i : Nat} (h : Q (.exit i) fr H) : Sq S b Q (.exit i) fr H := h
theorem Bk.n {i : Nat} (h : Q .normal fr H) : Bk i Q .normal fr H := h
theorem Bk.ret {i : Nat} (h : Q .ret fr H) : Bk i Q .ret fr H := h
theorem Bk.exit {i : Nat} (h : Q .normal fr H) : Bk i Q (.exit i) fr H := by simp only [Bk, if_true]; exact h
theorem Bk.ex' {i j : Nat} (hij : j ≠ i) (h : Q (.exit j) fr H) : Bk i Q (.exit j) fr H := by simp only [Bk, if_neg hij]; exact h
theorem Lp.n {I : List AV → Heap → Prop} (h : I fr H) : Lp Q I .normal fr H := h
theorem Lp.ret {I : List AV → Heap → Prop} (h : Q .ret fr H) : Lp Q I .ret fr H := h
theorem Lp.exit {I : List AV → Heap → Prop} {i : Nat} (h : Q (.exit i) fr H) : Lp Q I (.exit i) fr H := h
theorem Lx.exit {i : Nat} (h : Q (.exit i) fr H) : Lx Q (.exit i) fr H := ⟨by simp, h⟩
theorem Fe.ret {rs : List ResultVar} {R : AV → Heap → Prop} {vs : List AV} (h : resultsA P H fr rs = some vs) (r : R (packA vs) H) : Fe rs R .ret fr H := ⟨.inr rfl, vs, h, r⟩
theorem Fe.r1 {rs : List ResultVar} {R : AV → Heap → Prop} {v : AV} (h : resultsA P H fr rs = some [v]) (r : R v H) : Fe rs R .ret fr H := ⟨.inr rfl, [v], h, r⟩
theorem Fe.n {rs : List ResultVar} {R : AV → Heap → Prop} {vs : List AV} (h : resultsA P H fr rs = some vs) (r : R (packA vs) H) : Fe rs R .normal fr H := ⟨.inl rfl, vs, h, r⟩
theorem WP.mono {c : Code} {Q' : Ends} (h : WP S c fr H Q') (k : ∀ x fr' H', Q' x fr' H' → Q x fr' H') : WP S c fr H Q := by
  obtain ⟨x, fr', H', h1, h2⟩ := h
  exact ⟨x, fr', H', h1, k _ _ _ h2⟩
theorem WP.skip (h : Q .normal fr H) : WP S .skip fr H Q := ⟨_, _, _, RU.skip, h⟩
theorem WP.ret (h : Q .ret fr H) : WP S .ret fr H Q := ⟨_, _, _, RU.ret, h⟩
theorem WP.exit {id : Nat} (h : Q (.exit id) fr H) : WP S (.exit id) fr H Q := ⟨_, _, _, RU.exit, h⟩
theorem WP.seq {a b : Code} (h : WP S a fr H (Sq S b Q)) : WP S (.seq a b) fr H Q := by
  obtain ⟨x, fr', H', h1, h2⟩ := h
  cases x with
  | normal =>
    obtain ⟨y, fr2, H2, h3, h4⟩ := h2
    exact ⟨y, fr2, H2, RU.seq h1 h3, h4⟩
  | _ => exact ⟨_, _, _, RU.seqx h1 (by simp), h2⟩
theorem WP.seqs {a b c : Code} (h : WP S (.seq a b) fr H (Sq S c Q)) : WP S (.seq (.seq a b) c) fr H Q := WP.seq h
theorem WP.condT {c : Operand} {a b : Code} (hc : ev fr c = some (.b true)) (h : WP S a fr H Q) : WP S (.cond c a b) fr H Q := by
  obtain ⟨x, fr', H', h1, h2⟩ := h
  exact ⟨_, _, _, RU.condT hc h1, h2⟩
theorem WP.condF {c : Operand} {a b : Code} (hc : ev fr c = some (.b false)) (h : WP S b fr H Q) : WP S (.cond c a b) fr H Q := by
  obtain ⟨x, fr', H', h1, h2⟩ := h
  exact ⟨_, _, _, RU.condF hc h1, h2⟩
theorem WP.block {id : Nat} {b : Code} (h : WP S b fr H (Bk id Q)) : WP S (.block id b) fr H Q := by
  obtain ⟨x, fr', H', h1, h2⟩ := h
  refine ⟨_, _, _, RU.block h1, ?_⟩
  cases x with
  | exit j =>
    simp only [Bk] at h2
    by_cases e : j = id
    · rw [if_pos e] at h2; simp only [if_pos e]; exact h2
    · rw [if_neg e] at h2; simp only [if_neg e]; exact h2
  | _ => exact h2
theorem WP.loop {b : Code} {Inv : Nat → List AV → Heap → Prop} (n : Nat) (step : ∀ j fr H, j ≤ n → Inv j fr H → WP S b fr H (Lp Q fun fr' H' => j < n ∧ Inv (j + 1) fr' H')) : ∀ (k j : Nat) (fr : List AV) (H : Heap), j + k = n → Inv j fr H → WP S (.loop b) fr H Q
  | k, j, fr, H, hj, hi => by
    obtain ⟨x, fr', H', h1, h2⟩ := step j fr H (by omega) hi
    cases x with
    | normal =>
      obtain ⟨hlt, h2⟩ := h2
      cases k with
      | zero => omega
      | succ k =>
        obtain ⟨y, fr2, H2, h3, h4⟩ := WP.loop n step k (j + 1) fr' H' (by omega) h2
        exact ⟨y, fr2, H2, RU.loop h1 h3, h4⟩
    | _ => exact ⟨_, _, _, RU.loopx h1 (by simp), h2⟩
theorem WP.loop0 {b : Code} (h : WP S b fr H (Lx Q)) : WP S (.loop b) fr H Q := by
  obtain ⟨x, fr', H', h1, hx, h2⟩ := h
  exact ⟨x, fr', H', RU.loopx h1 hx, h2⟩
theorem CA.wp {f : FuncId} {fn : Func} {c : Code} {args : List AV} {R : AV → Heap → Prop} (hf : P.funcs[f]? = some fn) (hb : fn.body = some c)
    (h : WP NS c (args ++ List.replicate (fn.ntmps - args.length) (.t [])) H (Fe fn.results.toList R)) (hs : NS f args H = none := by exact NS_none rfl _ _) :
    ∃ v H', CA P NS f args H (v, H') ∧ R v H' := by
  obtain ⟨x, fr1, H1, h1, h2, vs, h3, h4⟩ := h
  exact ⟨packA vs, H1, CA.of hs hf hb h2 h1 h3, h4⟩
def BoxA (H : Heap) (e : TypeId) (v q : AV) (H1 : Heap) : Prop := q = .p H.length 0 ∧ H1 = H ++ [.cells e .vr v.cells] ∧ v.cells.all AV.one = true
theorem op_box' {e : TypeId} {x : Operand} {v q : AV} {H1 : Heap} (h : ev fr x = some v) (hb : BoxA H e v q H1) : opA P (.box e x) fr H = some (q, H1) := by
  obtain ⟨rfl, rfl, h1⟩ := hb
  exact op_box h h1
def AllocA (H : Heap) (e : TypeId) (q : AV) (H1 : Heap) : Prop := ∃ z, zeroA P e = some z ∧ q = .p H.length 0 ∧ H1 = H ++ [.cells e .vr z.cells] ∧ z.cells.all AV.one = true
theorem op_alloc' {e : TypeId} {q : AV} {H1 : Heap} (hb : AllocA H e q H1) : opA P (.alloc e) fr H = some (q, H1) := by
  obtain ⟨z, hz, rfl, rfl, h1⟩ := hb
  exact op_alloc hz h1
theorem op_min {x y : Operand} {a b v : AV} {ats : Array TypeId} (h : ev fr x = some a) (h2 : ev fr y = some b) (hv : minA a b = some v) : opA P (.call { callee := .builtin .min, args := #[x, y], argTypes := ats }) fr H = some (v, H) := by simp [opA, h, h2, hv]
theorem op_build {t : TypeId} {parts : Array (Nat × Operand)} {ps : List (Nat × AV)} {v : AV} (h : evs fr parts.toList = some ps) (hv : buildA P t ps = some v) : opA P (.build t parts) fr H = some (v, H) := by simp [opA, h, hv]
theorem op_mkSlice {t : TypeId} {l c : Operand} {a b v : AV} {H1 : Heap} (h : ev fr l = some a) (h2 : ev fr c = some b) (hv : makeSliceA P H t a b = some (v, H1)) : opA P (.makeSlice t l c) fr H = some (v, H1) := by simp [opA, h, h2, hv]
theorem op_appendZ {t t2 : TypeId} {s x : Operand} {a b v : AV} {H1 : Heap} (h : ev fr s = some a) (h2 : ev fr x = some b) (hu : (match P.underlying t2 with | some (.int _) => true | _ => false) = true) (hv : appendZ P H t a b = some (v, H1)) :
    opA P (.call { callee := .builtin .append, args := #[s, x], argTypes := #[t, t2] }) fr H = some (v, H1) := by
  have : ∃ k, P.underlying t2 = some (.int k) := by
    split at hu
    · rename_i k hk; exact ⟨k, hk⟩
    · cases hu
  obtain ⟨k, hk⟩ := this
  simp [opA, h, h2, hk, hv]
def VarAt (H : Heap) (q : AV) (t : TypeId) (cs : List AV) : Prop := ∃ b, q = .p b 0 ∧ H[b]? = some (.cells t .vr cs)
theorem VarAt.kp {H H' : Heap} {q : AV} {t : TypeId} {cs : List AV} (h : VarAt H q t cs) (k : Kp H H') : VarAt H' q t cs := by
  obtain ⟨b, h1, h2⟩ := h
  exact ⟨b, h1, k.at_ h2⟩
end
theorem alloc_new {H : Heap} {e : TypeId} {z cs : List AV} {sz : Nat} (hz : zeroA P e = some (.g z)) (hz1 : z.all AV.one = true) (hsz : sizeA P e = some sz) (hzl : z.length = sz) (hl : cs.length = sz) (h1 : cs.all AV.one = true) :
    ∃ b H1 H2, AllocA H e (.p b 0) H1 ∧ storeA P H1 e (.p b 0) (.g cs) = some H2 ∧ Kp H H2 ∧ H2[b]? = some (.cells e .vr cs) ∧ H.length ≤ b ∧ Kp H H1 ∧ H1[b]? = some (.cells e .vr z) ∧ b < H1.length := by
  refine ⟨H.length, H ++ [.cells e .vr z], H ++ [.cells e .vr cs], ⟨.g z, hz, rfl, rfl, hz1⟩, ?_, Kp.app _ _, by simp, Nat.le_refl _, Kp.app _ _, by simp, by simp⟩
  have h : (H ++ [Blk.cells e .vr z])[H.length]? = some (.cells e .vr z) := by simp
  have ho : over z cs 0 = cs := by simp [over, hl, hzl]
  have ho2 : over z (AV.g cs).cells 0 = cs := ho
  simp only [storeA, h, hsz]
  rw [if_pos ⟨rfl, hl, by omega, h1⟩, ho2]
  simp
theorem xT0 (b : Nat) : True := trivial
theorem xT1 (b : Nat) : True := trivial
theorem xT2 (b : Nat) : True := trivial
theorem xT3 (b : Nat) : True := trivial
theorem xT4 (b : Nat) : True := trivial
theorem xF0 (b : Nat) : True := trivial
theorem xF1 (b : Nat) : True := trivial
theorem xF2 (b : Nat) : True := trivial
theorem xF3 (b : Nat) : True := trivial
theorem xF4 (b : Nat) : True := trivial
theorem xF6 (b : Nat) : True := trivial
theorem xF7 (b : Nat) : True := trivial
theorem xG0 (b : Nat) : True := trivial
theorem xG1 (b : Nat) : True := trivial
theorem aT : True := trivial
theorem aF : True := trivial
theorem aG : True := trivial
theorem zT : True := trivial
theorem zF : True := trivial
theorem zG : True := trivial
theorem a_int : aggA P 3 = some false := by kernel_rfl
theorem a_i64 : True := trivial
theorem a_u32 : aggA P 49 = some false := by kernel_rfl
theorem a_bool : aggA P 4 = some false := by kernel_rfl
theorem a_bs : aggA P 22 = some false := by kernel_rfl
theorem a_ts : True := trivial
theorem a_gs : True := trivial
theorem a_fs : True := trivial
section
variable {H : Heap} {b : Nat} {kn : Kn}
theorem ldk {t ty : TypeId} {cs : List AV} {o : Nat} {v : AV} (h : H[b]? = some (.cells ty kn cs)) (ha : aggA P t = some false) (hv : cs[o]? = some v) : loadA P H t (.p b o) = some v := by simp [loadA, loadAt, h, ha, hv]
theorem ldw {t ty : TypeId} {cs : List AV} {n : Nat} (h : H[b]? = some (.cells ty kn cs)) (ha : aggA P t = some true) (hz : sizeA P t = some n) (hl : cs.length = n) : loadA P H t (.p b 0) = some (.g cs) := by
  have : cs.take n = cs := by rw [← hl, List.take_length]
  simp [loadA, loadAt, h, ha, hz, hl, this]
end
section
variable {S : CallA} {fr fr1 : List AV} {H H1 : Heap} {ops : Array Oper} {l : List Oper} {v : AV}
theorem opy {o : Op} (h : opA P o fr H = some (v, H1) := by first | with_reducible exact op_move (by with_unfolding_all exact rfl) | with_reducible exact op_assign (by with_unfolding_all exact rfl) | with_reducible exact op_fieldAddr (by with_unfolding_all exact rfl) (by first | exact xT0 _ | exact xT1 _ | exact xT2 _ | exact xT3 _ | exact xT4 _ | exact xF0 _ | exact xF1 _ | exact xF2 _ | exact xF3 _ | exact xF4 _ | exact xF6 _ | exact xF7 _ | exact xG0 _ | exact xG1 _ | assumption) | with_reducible exact op_load (by with_unfolding_all exact rfl) (by first | assumption | exact ldw (by assumption) aT zT (by with_unfolding_all exact rfl) | exact ldw (by assumption) aF zF (by with_unfolding_all exact rfl) | exact ldw (by assumption) aG zG (by with_unfolding_all exact rfl) | exact ldk (by assumption) (by first | exact a_int | exact a_i64 | exact a_u32 | exact a_bool | exact a_bs | exact a_ts | exact a_gs | exact a_fs) (by with_unfolding_all exact rfl)) | with_reducible exact op_len (by with_unfolding_all exact rfl) (by assumption) | with_reducible exact op_bin (c := true) (by with_unfolding_all exact rfl) (by with_unfolding_all exact rfl) (by with_unfolding_all exact rfl) (by assumption) | with_reducible exact op_bin (c := false) (by with_unfolding_all exact rfl) (by with_unfolding_all exact rfl) (by with_unfolding_all exact rfl) (by assumption) | with_reducible exact op_box' (by with_unfolding_all exact rfl) (by assumption) | with_reducible exact op_alloc' (by assumption) | with_reducible exact op_store (by with_unfolding_all exact rfl) (by with_unfolding_all exact rfl) (by assumption) | with_reducible exact op_un (by with_unfolding_all exact rfl) (by with_unfolding_all exact rfl) | with_reducible exact op_pickT (by with_unfolding_all exact rfl) (by with_unfolding_all exact rfl) | with_reducible exact op_pickF (by with_unfolding_all exact rfl) (by with_unfolding_all exact rfl) | with_reducible exact op_extract (by with_unfolding_all exact rfl) (by with_unfolding_all exact rfl) | with_reducible exact op_sliceHi (by with_unfolding_all exact rfl) (by with_unfolding_all exact rfl) (by assumption) | with_reducible exact op_sliceLo (by with_unfolding_all exact rfl) (by with_unfolding_all exact rfl) (by assumption) | with_reducible exact op_buildSlice (by with_unfolding_all exact rfl) (by assumption) | with_reducible exact op_append (by with_unfolding_all exact rfl) (by with_unfolding_all exact rfl) (by with_unfolding_all exact rfl) (by first | exact elemBs | assumption) (by first | with_unfolding_all exact rfl | assumption) (by assumption) | with_reducible exact op_copy (by with_unfolding_all exact rfl) (by with_unfolding_all exact rfl) (by assumption) | with_reducible exact op_min (by with_unfolding_all exact rfl) (by with_unfolding_all exact rfl) (by assumption) | with_reducible exact op_conv (by with_unfolding_all exact rfl) (by assumption) | with_reducible exact op_indexAddr (by with_unfolding_all exact rfl) (by with_unfolding_all exact rfl) (by assumption) | with_reducible exact op_build (by with_unfolding_all exact rfl) (by assumption) | with_reducible exact op_mkSlice (by with_unfolding_all exact rfl) (by with_unfolding_all exact rfl) (by assumption) | with_reducible exact op_iface (by with_unfolding_all exact rfl) (by assumption) | with_reducible exact op_nilCheck (by with_unfolding_all exact rfl) | with_reducible exact op_appendZ (by with_unfolding_all exact rfl) (by with_unfolding_all exact rfl) (by kernel_rfl) (by assumption)) : opA P o fr H = some (v, H1) := h
theorem OS.sy {o : Oper} {r : List AV × Heap} (hg : wantA ops fr o.guard = some true) (hc : isCall o.op = false) (h2 : OS P S ops l (putA fr o.dst v) H1 r) (h1 : opA P o.op fr H = some (v, H1) := by exact opy) : OS P S ops (o :: l) fr H r := OS.opg hg hc h1 h2
theorem WP.rg {id : Nat} {c : Code} {Q : Ends} (k : WP S c fr1 H1 Q)
    (h : OS P S ops ops.toList fr H (fr1, H1) := by repeat (first | with_reducible exact OS.nil | (refine OS.sy rfl rfl ?_; dsimp only [AV.cells, putA, List.set_cons_zero, List.set_cons_succ]) | (refine OS.skip rfl ?_; dsimp only [AV.cells, putA, List.set_cons_zero, List.set_cons_succ]) | (refine OS.cl rfl rfl rfl ?_; dsimp only [AV.cells, putA, List.set_cons_zero, List.set_cons_succ]))) : WP S (.seq (.region id ops false) c) fr H Q := by
  obtain ⟨x, fr', H', h1, h2⟩ := k
  exact ⟨x, fr', H', RU.seq (RU.region h) h1, h2⟩
theorem WP.re {id : Nat} {Q : Ends} (k : Q .normal fr1 H1)
    (h : OS P S ops ops.toList fr H (fr1, H1) := by repeat (first | with_reducible exact OS.nil | (refine OS.sy rfl rfl ?_; dsimp only [AV.cells, putA, List.set_cons_zero, List.set_cons_succ]) | (refine OS.skip rfl ?_; dsimp only [AV.cells, putA, List.set_cons_zero, List.set_cons_succ]) | (refine OS.cl rfl rfl rfl ?_; dsimp only [AV.cells, putA, List.set_cons_zero, List.set_cons_succ]))) : WP S (.region id ops false) fr H Q := ⟨_, _, _, RU.region h, k⟩
theorem WP.r0 {id : Nat} {c : Code} {Q : Ends} (k : WP S c fr1 H1 Q)
    (hok : drawOk0 P ops = true := by kernel_rfl)
    (h : OS P S ops ops.toList fr H (fr1, H1) := by repeat (first | with_reducible exact OS.nil | (refine OS.sy rfl rfl ?_; dsimp only [AV.cells, putA, List.set_cons_zero, List.set_cons_succ]) | (refine OS.skip rfl ?_; dsimp only [AV.cells, putA, List.set_cons_zero, List.set_cons_succ]))) : WP S (.seq (.region id ops true) c) fr H Q := by
  obtain ⟨x, fr', H', h1, h2⟩ := k
  exact ⟨x, fr', H', RU.seq (RU.draw0 hok h) h1, h2⟩
def OpsP (P : Program) (call : CallA) (R : Heap → Prop) (l : List Oper) (fr : List AV) (H : Heap) (r : List AV × Heap) : Prop := OpsS P call R l fr H r.1 r.2
theorem WP.rS {id : Nat} {c : Code} {Q : Ends} (R : Heap → Prop) {n0 : Nat} (hR : R H) (h : ∃ fr1 H1, (∀ n, n0 ≤ n → OpsP P (run P S n) R ops.toList fr H (fr1, H1)) ∧ WP S c fr1 H1 Q) (hok : drawOk3 P ops = true := by kernel_rfl) : WP S (.seq (.region id ops true) c) fr H Q := by
  obtain ⟨fr1, H1, h, x, fr', H', h1, h2⟩ := h
  exact ⟨x, fr', H', RU.seq (RU.drawS R hok hR h) h1, h2⟩
theorem WP.rSe {id : Nat} {Q : Ends} (R : Heap → Prop) {n0 : Nat} (hR : R H) (h : ∃ fr1 H1, (∀ n, n0 ≤ n → OpsP P (run P S n) R ops.toList fr H (fr1, H1)) ∧ Q .normal fr1 H1) (hok : drawOk3 P ops = true := by kernel_rfl) : WP S (.region id ops true) fr H Q := by
  obtain ⟨fr1, H1, h, h2⟩ := h
  exact ⟨_, _, _, RU.drawS R hok hR h, h2⟩
theorem OpsP.nil {call : CallA} {R : Heap → Prop} : OpsP P call R [] fr H (fr, H) := OpsS.nil _ _
theorem OpsP.pu {call : CallA} {R : Heap → Prop} {o : Oper} {r : List AV × Heap} (hg : o.guard = none) (he : isEff o.op = false) (h : ∀ H2, R H2 → ∃ H3, opA P o.op fr H2 = some (v, H3)) (t : OpsP P call R l (putA fr o.dst v) H r) : OpsP P call R (o :: l) fr H r := OpsS.pure hg he h t
theorem OpsP.cl {call : CallA} {R : Heap → Prop} {d : Option Tmp} {f : Operand} {args : Array Operand} {ats : Array TypeId} {ty : TypeId} {pos : String} {af : Array Edge} {r : List AV × Heap} {g : FuncId} {as_ : List AV}
    (hf : ev fr f = some (.fn g [])) (ha : evl fr args.toList = some as_) (t : OpsP P call R l (putA fr d v) H1 r) (h1 : call g as_ H = some (v, H1) := by with_reducible assumption) (gr : R H1 := by with_reducible assumption) :
    OpsP P call R (⟨d, .call { callee := .value f, args := args, argTypes := ats }, ty, pos, af, none⟩ :: l) fr H r :=
  OpsS.eff rfl rfl (by rw [← List.append_nil as_] at h1; simp only [oneOp, hf, ha, h1]) gr t
theorem OpsP.op {call : CallA} {R : Heap → Prop} {o : Oper} {r : List AV × Heap} (hg : o.guard = none) (he : isEff o.op = true) (hc : isCall o.op = false) (t : OpsP P call R l (putA fr o.dst v) H1 r) (h1 : opA P o.op fr H = some (v, H1) := by exact opy) (gr : R H1 := by with_reducible assumption) :
    OpsP P call R (o :: l) fr H r := OpsS.eff hg he ((oneOp_pure hc).trans h1) gr t
end
end Go.Proofs.YtiifcfngbbhgoagDoor.Rd

