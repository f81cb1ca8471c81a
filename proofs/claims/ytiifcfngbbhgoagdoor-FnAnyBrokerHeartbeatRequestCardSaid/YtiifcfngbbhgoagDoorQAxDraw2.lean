/-
  THE ABSTRACT MACHINE: a region that draws its order and whose operations only add to the heap: it comes to what its operations come to in the text's order.
-/
import Derived.Test.YtiifcfngbbhgoagDoorQAxLog
import Derived.Test.YtiifcfngbbhgoagDoorProg
import Derived.ProofKit
set_option linter.constructorNameAsVariable false
set_option linter.unusedVariables false
set_option linter.unusedSimpArgs false
namespace Go.Proofs.YtiifcfngbbhgoagDoor.Ax
open Go
theorem ev_restr {ts : List Tmp} {fr : List AV} {x : Operand} (h : ∀ t, x = .tmp t → t ∈ ts) : ev (restr ts fr) x = ev fr x := by
  cases x with
  | tmp t =>
    simp only [ev, restr_at]
    cases fr[t]? <;> simp [h t rfl]
  | _ => rfl
theorem evl_restr {ts : List Tmp} {fr : List AV} : ∀ (l : List Operand), (∀ x ∈ l, ∀ t, x = .tmp t → t ∈ ts) → evl (restr ts fr) l = evl fr l
  | [], _ => rfl
  | x :: r, h => by
    unfold evl
    rw [ev_restr (h x (by simp)), evl_restr r (fun y hy => h y (by simp [hy]))]
theorem evs_restr {ts : List Tmp} {fr : List AV} : ∀ (l : List (Nat × Operand)), (∀ x ∈ l, ∀ t, x.2 = .tmp t → t ∈ ts) → evs (restr ts fr) l = evs fr l
  | [], _ => rfl
  | (i, x) :: r, h => by
    unfold evs
    rw [ev_restr (h (i, x) (by simp)), evs_restr r (fun y hy => h y (by simp [hy]))]
theorem opA_restr {P : Program} {ts : List Tmp} {fr : List AV} {H : Heap} (o : Op) (h : ∀ x ∈ o.operands, ∀ t, x = .tmp t → t ∈ ts) : opA P o (restr ts fr) H = opA P o fr H := by
  have e : ∀ x, x ∈ o.operands → ev (restr ts fr) x = ev fr x := fun x hx => ev_restr (h x hx)
  cases o with
  | move x => simp only [opA, e x (by simp [Op.operands])]
  | assign x => simp only [opA, e x (by simp [Op.operands])]
  | pick c x y => simp only [opA, e c (by simp [Op.operands]), e x (by simp [Op.operands]), e y (by simp [Op.operands])]
  | alloc t => rfl
  | box t x => simp only [opA, e x (by simp [Op.operands])]
  | build t ps => simp only [opA, evs_restr ps.toList (fun x hx t ht => h x.2 (by simp [Op.operands]; exact ⟨x.1, by simpa using hx⟩) t ht)]
  | buildSlice t n ps => simp only [opA, evs_restr ps.toList (fun x hx t ht => h x.2 (by simp [Op.operands]; exact ⟨x.1, by simpa using hx⟩) t ht)]
  | load t x => simp only [opA, e x (by simp [Op.operands])]
  | store t x y => simp only [opA, e x (by simp [Op.operands]), e y (by simp [Op.operands])]
  | nilCheck x => simp only [opA, e x (by simp [Op.operands])]
  | binOp op t x y z => simp only [opA, e x (by simp [Op.operands]), e y (by simp [Op.operands])]
  | unOp op t x => simp only [opA, e x (by simp [Op.operands])]
  | convert s t x => simp only [opA, e x (by simp [Op.operands])]
  | makeSlice t x y => simp only [opA, e x (by simp [Op.operands]), e y (by simp [Op.operands])]
  | slice t x lo hi mx =>
    have ex := e x (by simp [Op.operands])
    cases lo with
    | none =>
      cases hi with
      | none => cases mx <;> simp only [opA, ex]
      | some b =>
        have eb := e b (by simp [Op.operands])
        cases mx with
        | none => simp only [opA, ex, eb]
        | some m => simp only [opA, ex, eb, e m (by simp [Op.operands])]
    | some a =>
      have ea := e a (by simp [Op.operands])
      cases hi with
      | none => cases mx <;> simp only [opA, ex, ea]
      | some b =>
        have eb := e b (by simp [Op.operands])
        cases mx <;> simp only [opA, ex, ea, eb]
  | makeInterface t x => simp only [opA, e x (by simp [Op.operands])]
  | fieldAddr t x k => simp only [opA, e x (by simp [Op.operands])]
  | field t x k => simp only [opA, e x (by simp [Op.operands])]
  | indexAddr t x k => simp only [opA, e x (by simp [Op.operands]), e k (by simp [Op.operands])]
  | index t x k => simp only [opA, e x (by simp [Op.operands]), e k (by simp [Op.operands])]
  | extract x k => simp only [opA, e x (by simp [Op.operands])]
  | makeMap t r => cases r <;> rfl
  | mapUpdate t m k x => simp only [opA, e m (by simp [Op.operands]), e k (by simp [Op.operands]), e x (by simp [Op.operands])]
  | makeFunc fn first caps =>
    cases fn <;> simp only [opA]
    rw [evl_restr caps.toList (fun x hx t ht => h x (by simp [Op.operands]; exact .inr (by simpa using hx)) t ht)]
  | call c =>
    obtain ⟨callee, args, ats⟩ := c
    cases callee with
    | builtin b =>
      have ea : ∀ x, x ∈ args.toList → ev (restr ts fr) x = ev fr x := fun x hx => ev_restr (h x (by simp [Op.operands, Call.operands]; simpa using hx))
      unfold opA
      simp only
      generalize args.toList = l at ea ⊢
      generalize ats.toList = tl
      match l, ea with
      | [], _ => cases b <;> rfl
      | [x], e1 => rcases tl with _ | ⟨t1, _ | ⟨t2, _ | ⟨t3, r⟩⟩⟩ <;> cases b <;> first | rfl | simp only [e1 x (by simp)]
      | [x, y], e1 => rcases tl with _ | ⟨t1, _ | ⟨t2, _ | ⟨t3, r⟩⟩⟩ <;> cases b <;> first | rfl | simp only [e1 x (by simp), e1 y (by simp)]
      | x :: y :: z :: r, _ => cases b <;> rfl
    | _ => rfl
  | _ => rfl
theorem oneOp_restr {P : Program} {call : CallA} {ts : List Tmp} {fr : List AV} {H : Heap} (o : Op) (h : ∀ x ∈ o.operands, ∀ t, x = .tmp t → t ∈ ts) : oneOp P call o (restr ts fr) H = oneOp P call o fr H := by
  unfold oneOp
  split
  · rename_i f args ats
    have h1 : ev (restr ts fr) f = ev fr f := ev_restr (h f (by simp [Op.operands, Call.operands]))
    have h2 : evl (restr ts fr) args.toList = evl fr args.toList := evl_restr args.toList (fun x hx t ht => h x (by simp [Op.operands, Call.operands]; exact .inr (by simpa using hx)) t ht)
    rw [h1, h2]
  · rename_i f name args ats
    have h1 : ev (restr ts fr) f = ev fr f := ev_restr (h f (by simp [Op.operands, Call.operands]))
    have h2 : evl (restr ts fr) args.toList = evl fr args.toList := evl_restr args.toList (fun x hx t ht => h x (by simp [Op.operands, Call.operands]; exact .inr (by simpa using hx)) t ht)
    rw [h1, h2]
  · exact opA_restr _ h
def Grows (H H' : Heap) : Prop := ∃ K, H' = H ++ K
theorem Grows.refl (H : Heap) : Grows H H := ⟨[], by simp⟩
theorem Grows.trans {a b c : Heap} (h : Grows a b) (k : Grows b c) : Grows a c := by
  obtain ⟨x, rfl⟩ := h
  obtain ⟨y, rfl⟩ := k
  exact ⟨x ++ y, by simp⟩
theorem Grows.app (H K : Heap) : Grows H (H ++ K) := ⟨K, rfl⟩
theorem Grows.at {H H' : Heap} (h : Grows H H') {i : Nat} {b : Blk} (hi : H[i]? = some b) : H'[i]? = some b := by
  obtain ⟨K, rfl⟩ := h
  rw [List.getElem?_append_left (List.getElem?_eq_some_iff.1 hi).1]; exact hi
theorem loadAt_grows {P : Program} {H H' : Heap} (g : Grows H H') {t : TypeId} {i o : Nat} {v : AV} (h : loadAt P H t i o = some v) : loadAt P H' t i o = some v := by
  unfold loadAt at *
  cases hi : H[i]? with
  | none => rw [hi] at h; simp at h
  | some b => rw [g.at hi]; rw [hi] at h; exact h
theorem loadA_grows {P : Program} {H H' : Heap} (g : Grows H H') {t : TypeId} {x v : AV} (h : loadA P H t x = some v) : loadA P H' t x = some v := by
  unfold loadA at *
  split at h
  · exact loadAt_grows g h
  · rename_i gg
    split at h
    · rename_i hr
      obtain ⟨ty, cs, hb⟩ := isRo_some hr
      have : isRo H' gg = true := by unfold isRo; rw [g.at hb]
      rw [if_pos this]
      exact loadAt_grows g h
    · cases h
  · cases h
theorem strOf_grows {H H' : Heap} (g : Grows H H') {x : AV} {v : ByteArray} (h : strOf H x = some v) : strOf H' x = some v := by
  unfold strOf at *
  split at h
  · exact h
  · exact h
  · rename_i i o n
    cases hi : H[i]? with
    | none => rw [hi] at h; simp at h
    | some b => simp only [g.at hi]; rw [hi] at h; exact h
  · cases h
theorem sliceArr_grows {P : Program} {H H' : Heap} (g : Grows H H') {t : TypeId} {x v : AV} (h : sliceArrA P H t x = some v) : sliceArrA P H' t x = some v := by
  unfold sliceArrA at *
  split at h
  · rename_i n e i o hu
    cases hi : H[i]? with
    | none => rw [hi] at h; simp at h
    | some b => simp only [g.at hi]; rw [hi] at h; exact h
  · cases h
theorem opA_grows {P : Program} {H H' H2 : Heap} (g : Grows H H') {o : Op} (he : isEff o = false) {fr : List AV} {v : AV} (h : opA P o fr H = some (v, H2)) : opA P o fr H' = some (v, H') := by
  have pu : ∀ {r : Option AV}, (r.map fun v => (v, H)) = some (v, H2) → (r.map fun v => (v, H')) = some (v, H') := by
    intro r h
    obtain ⟨_, rfl, hh⟩ := Option.map_eq_some_iff.1 h
    simp at hh
    simp [hh.1]
  have pu2 : ∀ {r r' : Option AV}, (∀ v, r = some v → r' = some v) → (r.map fun v => (v, H)) = some (v, H2) → (r'.map fun v => (v, H')) = some (v, H') := by
    intro r r' hr h
    obtain ⟨x, rfl, hh⟩ := Option.map_eq_some_iff.1 h
    simp at hh
    rw [hr x rfl]
    simp [hh.1]
  have b1 : ∀ {x : Option AV} {f : AV → Option AV}, (x.bind fun a => (f a).map fun v => (v, H)) = some (v, H2) → (x.bind fun a => (f a).map fun v => (v, H')) = some (v, H') := by
    intro x f h
    obtain ⟨a, rfl, h⟩ := Option.bind_eq_some_iff.1 h
    exact pu h
  have b2 : ∀ {x y : Option AV} {f : AV → AV → Option AV}, (x.bind fun a => y.bind fun b => (f a b).map fun v => (v, H)) = some (v, H2) → (x.bind fun a => y.bind fun b => (f a b).map fun v => (v, H')) = some (v, H') := by
    intro x y f h
    obtain ⟨a, ha, h⟩ := Option.bind_eq_some_iff.1 h
    obtain ⟨b, hb, h⟩ := Option.bind_eq_some_iff.1 h
    simp only [ha, hb, Option.bind_some]
    exact pu h
  unfold opA at *
  cases o with
  | move x => exact pu h
  | assign x => exact pu h
  | pick c x y => simp only at h ⊢; split at h <;> first | exact pu h | cases h
  | build t ps => obtain ⟨a, ha, h⟩ := Option.bind_eq_some_iff.1 h; simp only [ha, Option.bind_some]; exact pu h
  | load t x =>
    obtain ⟨a, ha, h⟩ := Option.bind_eq_some_iff.1 h
    simp only [ha, Option.bind_some]
    exact pu2 (fun v hv => loadA_grows g hv) h
  | nilCheck x => exact b1 h
  | binOp op t x y yt => exact b2 (f := fun a b => binA P op t (isC x || isC y) a b) h
  | unOp op t x => exact b1 h
  | convert s t x =>
    obtain ⟨a, ha, h⟩ := Option.bind_eq_some_iff.1 h
    simp only [ha, Option.bind_some]
    cases hcv : convA P s t a with
    | some w => simp only [hcv] at h ⊢; simp at h; simp [h.1]
    | none =>
      simp only [hcv] at h ⊢
      cases hs : strA P H s t a with
      | some w =>
        have hs' : strA P H' s t a = some w := by
          unfold strA at *
          split at hs
          · split at hs
            · obtain ⟨bs, hbs, rfl⟩ := Option.map_eq_some_iff.1 hs
              rw [strOf_grows g hbs]; rfl
            · cases hs
          · cases hs
        simp only [hs] at h
        simp only [hs']
        simp at h
        simp [h.1]
      | none => simp only [hs] at h; rw [bytesOfA_none he] at h; cases h
  | slice t x lo hi mx =>
    cases mx with
    | some m =>
      cases lo <;> cases hi <;> simp only at h ⊢ <;> try (cases h; done)
      obtain ⟨a, ha, h⟩ := Option.bind_eq_some_iff.1 h
      obtain ⟨b, hb, h⟩ := Option.bind_eq_some_iff.1 h
      obtain ⟨c, hc, h⟩ := Option.bind_eq_some_iff.1 h
      simp only [ha, hb, hc, Option.bind_some]
      exact pu h
    | none =>
      obtain ⟨a, ha, h⟩ := Option.bind_eq_some_iff.1 h
      simp only [ha, Option.bind_some]
      cases lo <;> cases hi <;> simp only at h ⊢
      · exact pu2 (fun v hv => sliceArr_grows g hv) h
      · exact b1 h
      · exact b1 h
      · obtain ⟨b, hb, h⟩ := Option.bind_eq_some_iff.1 h
        obtain ⟨c, hc, h⟩ := Option.bind_eq_some_iff.1 h
        simp only [hb, hc, Option.bind_some]
        exact pu h
  | makeInterface t x => exact b1 h
  | fieldAddr t x k => exact b1 h
  | field t x k => exact b1 h
  | indexAddr t x k => exact b2 (f := fun a b => indexAddrA P t a b) h
  | index t x k => exact b2 (f := fun a b => indexA P t a b) h
  | extract x k => simp only at h ⊢; split at h <;> first | exact pu h | cases h
  | makeFunc fn first caps =>
    cases fn <;> simp only at h ⊢ <;> try (cases h; done)
    split at h
    · rename_i h0
      rw [if_pos h0]
      obtain ⟨a, ha, h⟩ := Option.bind_eq_some_iff.1 h
      simp only [ha, Option.bind_some]
      exact pu h
    · cases h
  | call c =>
    obtain ⟨callee, args, ats⟩ := c
    cases callee with
    | builtin b =>
      simp only at h ⊢
      split at h
      · rename_i x t _ _
        obtain ⟨a, ha, h⟩ := Option.bind_eq_some_iff.1 h
        simp only [ha, Option.bind_some]
        refine pu2 (fun v hv => ?_) h
        cases hl : lenA P t a with
        | some w => simp only [hl] at hv ⊢; exact hv
        | none =>
          simp only [hl] at hv ⊢
          unfold lenM at *
          split at hv
          · rename_i i _
            cases hi : H[i]? with
            | none => rw [hi] at hv; simp at hv
            | some b => simp only [g.at hi]; rw [hi] at hv; exact hv
          · cases hv
      · exact b2 (f := maxA) h
      · exact b2 (f := minA) h
      · simp [isEff] at he
      · simp [isEff] at he
      · cases h
    | _ => simp at h
  | alloc _ => simp [isEff] at he
  | box _ _ => simp [isEff] at he
  | buildSlice _ _ _ => simp [isEff] at he
  | store _ _ _ => simp [isEff] at he
  | makeSlice _ _ _ => simp [isEff] at he
  | makeMap _ _ => simp [isEff] at he
  | mapUpdate _ _ _ _ => simp [isEff] at he
  | _ => simp at h
def heapFree (P : Program) : Op → Bool
  | .move _ | .assign _ | .pick .. | .nilCheck _ | .binOp .. | .unOp .. | .fieldAddr .. | .extract .. => true
  | .call { callee := .builtin .len, argTypes, .. } => argTypes.toList.all fun t => (keyA P t).isNone
  | _ => false
theorem lenM_none {P : Program} {H : Heap} {t : TypeId} {x : AV} (h : keyA P t = none) : lenM P H t x = none := by unfold lenM; rw [h]
theorem opA_free {P : Program} {H H' H2 : Heap} {o : Op} (he : heapFree P o = true) {fr : List AV} {v : AV} (h : opA P o fr H = some (v, H2)) : opA P o fr H' = some (v, H') := by
  have pu : ∀ {r : Option AV}, (r.map fun v => (v, H)) = some (v, H2) → (r.map fun v => (v, H')) = some (v, H') := by
    intro r h
    obtain ⟨_, rfl, hh⟩ := Option.map_eq_some_iff.1 h
    simp at hh
    simp [hh.1]
  have b1 : ∀ {x : Option AV} {f : AV → Option AV}, (x.bind fun a => (f a).map fun v => (v, H)) = some (v, H2) → (x.bind fun a => (f a).map fun v => (v, H')) = some (v, H') := by
    intro x f h
    obtain ⟨a, rfl, h⟩ := Option.bind_eq_some_iff.1 h
    exact pu h
  have b2 : ∀ {x y : Option AV} {f : AV → AV → Option AV}, (x.bind fun a => y.bind fun b => (f a b).map fun v => (v, H)) = some (v, H2) → (x.bind fun a => y.bind fun b => (f a b).map fun v => (v, H')) = some (v, H') := by
    intro x y f h
    obtain ⟨a, ha, h⟩ := Option.bind_eq_some_iff.1 h
    obtain ⟨b, hb, h⟩ := Option.bind_eq_some_iff.1 h
    simp only [ha, hb, Option.bind_some]
    exact pu h
  unfold opA at *
  cases o with
  | move x => exact pu h
  | assign x => exact pu h
  | pick c x y => simp only at h ⊢; split at h <;> first | exact pu h | cases h
  | nilCheck x => exact b1 h
  | binOp op t x y yt => exact b2 (f := fun a b => binA P op t (isC x || isC y) a b) h
  | unOp op t x => exact b1 h
  | fieldAddr t x k => exact b1 h
  | extract x k => simp only at h ⊢; split at h <;> first | exact pu h | cases h
  | call c =>
    obtain ⟨callee, args, ats⟩ := c
    cases callee with
    | builtin b =>
      cases b <;> simp [heapFree] at he
      simp only at h ⊢
      have he : ∀ t ∈ ats.toList, keyA P t = none := fun t ht => by
        obtain ⟨i, hi, rfl⟩ := List.mem_iff_getElem.1 ht
        simpa using he i (by simpa using hi)
      generalize args.toList = l at h ⊢
      generalize ats.toList = tl at h he ⊢
      rcases l with _ | ⟨x, _ | ⟨y, r⟩⟩ <;> rcases tl with _ | ⟨t1, _ | ⟨t2, r2⟩⟩ <;> first | (simp only [lenM_none (he t1 (by simp))] at h ⊢; exact b1 h) | cases h
    | _ => simp [heapFree] at he
  | _ => simp [heapFree] at he
inductive OpsG (P : Program) (call : CallA) : List Oper → List AV → Heap → List AV → Heap → Prop
  | nil (fr : List AV) (H : Heap) : OpsG P call [] fr H fr H
  | op {o : Oper} {l : List Oper} {fr fr' : List AV} {H H1 H' : Heap} {v : AV} (hg : o.guard = none) (h : oneOp P call o.op fr H = some (v, H1)) (g : Grows H H1) (t : OpsG P call l (putA fr o.dst v) H1 fr' H') : OpsG P call (o :: l) fr H fr' H'
def Ent.key (e : Ent) : Oper × Bool × Bool × Nat × Nat := (e.o, e.wanted, e.eff, e.no, e.lo)
theorem key_count : ∀ {es es' : List Ent}, es.map Ent.key = es'.map Ent.key → countEff es = countEff es'
  | [], [], _ => rfl
  | [], _ :: _, h => by simp at h
  | _ :: _, [], h => by simp at h
  | e :: r, e' :: r', h => by
    simp only [List.map_cons, List.cons.injEq] at h
    have := key_count h.2
    have he : e.eff = e'.eff := congrArg (fun x => x.2.2.1) h.1
    unfold countEff at *
    simp only [List.filter_cons, he]
    split <;> simp [this]
theorem key_dep {es es' : List Ent} (h : es.map Ent.key = es'.map Ent.key) (i : Nat) : depOf es i = depOf es' i := by
  have h1 : (es.map Ent.key)[i]? = (es'.map Ent.key)[i]? := by rw [h]
  simp only [List.getElem?_map] at h1
  unfold depOf
  cases h2 : es[i]? with
  | none =>
    cases h3 : es'[i]? with
    | none => rfl
    | some _ => rw [h2, h3] at h1; simp at h1
  | some e =>
    cases h3 : es'[i]? with
    | none => rw [h2, h3] at h1; simp at h1
    | some e' =>
      rw [h2, h3] at h1
      simp only [Option.map_some, Option.some.injEq] at h1
      have a : e.eff = e'.eff := congrArg (fun x => x.2.2.1) h1
      have b : e.no = e'.no := congrArg (fun x => x.2.2.2.1) h1
      have c : e.lo = e'.lo := congrArg (fun x => x.2.2.2.2) h1
      simp only [a, b, c]
theorem key_lo {es es' : List Ent} (h : es.map Ent.key = es'.map Ent.key) : ∀ l, loOf es l = loOf es' l
  | [] => rfl
  | d :: r => by
    unfold loOf
    rw [key_dep h, key_lo h r]
def statEs : List Oper → List Ent → List Ent
  | [], es => es
  | o :: r, es => statEs r (es ++ [⟨o, true, isEff o.op, countEff es, loOf es o.after.toList, .u, []⟩])
def effOk (P : Program) (ops : Array Oper) : Bool := (statEs ops.toList []).all fun e => if e.eff then e.no ≤ e.lo else heapFree P e.o.op || e.no == e.lo
def drawOk (P : Program) (ops : Array Oper) : Bool := P.follows .mixedOrders && edgesOk ops.toList && slotsOk ops ops.toList && dstsOk ops.toList && effOk P ops
mutual
theorem sameV_refl : ∀ x : AV, sameV x x = true
  | .u | .p0 | .s0 | .se | .sn | .m0 | .n | .e => by simp [sameV]
  | .k _ | .b _ | .i _ _ | .f _ _ | .s _ | .p _ _ | .sl _ _ _ | .mp _ | .gp _ | .ip _ _ _ => by simp [sameV]
  | .fn f a => by simp [sameV, sameVs_refl a]
  | .g a => by simp [sameV, sameVs_refl a]
  | .t a => by simp [sameV, sameVs_refl a]
theorem sameVs_refl : ∀ x : List AV, sameVs x x = true
  | [] => by simp [sameVs]
  | a :: r => by simp [sameVs, sameV_refl a, sameVs_refl r]
end
def Chain (Hs : List Heap) : Prop := ∀ (i j : Nat) (a b : Heap), i ≤ j → Hs[i]? = some a → Hs[j]? = some b → Grows a b
theorem Chain.one (H : Heap) : Chain [H] := by
  intro i j a b hij ha hb
  have h1 := (List.getElem?_eq_some_iff.1 ha).1
  have h2 := (List.getElem?_eq_some_iff.1 hb).1
  simp at h1 h2
  subst h1; subst h2
  simp at ha hb
  subst ha; subst hb
  exact .refl _
theorem Chain.snoc {Hs : List Heap} (h : Chain Hs) {c : Nat} {H H1 : Heap} (hl : Hs.length = c + 1) (hc : Hs[c]? = some H) (g : Grows H H1) : Chain (Hs ++ [H1]) := by
  intro i j a b hij ha hb
  rw [List.getElem?_append] at ha hb
  split at hb
  · rename_i hj
    rw [if_pos (by omega)] at ha
    exact h i j a b hij ha hb
  · rename_i hj
    have hb1 : H1 = b := by
      have hlt : j - Hs.length < 1 := by have := (List.getElem?_eq_some_iff.1 hb).1; simpa using this
      have : j - Hs.length = 0 := by omega
      rw [this] at hb; simpa using hb
    subst hb1
    split at ha
    · rename_i hi
      exact (h i c a H (by omega) ha hc).trans g
    · rename_i hi
      have : a = H1 := by
        have hlt : i - Hs.length < 1 := by have := (List.getElem?_eq_some_iff.1 ha).1; simpa using this
        have : i - Hs.length = 0 := by omega
        rw [this] at ha; simpa using ha.symm
      subst this
      exact .refl _
def FltAt (P : Program) (Hs : List Heap) (e : Ent) : Prop := e.eff = false → isEff e.o.op = false ∧ ∃ Hc H2, Hs[e.no]? = some Hc ∧ opA P e.o.op e.fr Hc = some (e.val, H2)
theorem lexA_grows {P : Program} {call : CallA} {ops : Array Oper} : ∀ (l : List Oper) (fr : List AV) (H : Heap) (fr' : List AV) (H' : Heap), OpsG P call l fr H fr' H' → ∀ (es es0 : List Ent) (Hs : List Heap), Hs.length = countEff es + 1 → Hs[countEff es]? = some H → Chain Hs → es.map Ent.key = es0.map Ent.key →
    (∀ e ∈ es, FltAt P Hs e) →
    ∃ es' Hs', lexA P call ops l es Hs fr H = some (es', Hs', fr', H') ∧ Chain Hs' ∧ es'.map Ent.key = (statEs l es0).map Ent.key ∧ (∀ e ∈ es', FltAt P Hs' e) := by
  intro l fr H fr' H' h
  induction h with
  | nil fr H => intro es es0 Hs hl hH hc hk hg; exact ⟨es, Hs, rfl, hc, hk, hg⟩
  | @op o l fr fr' H H1 H' v hgd hv g _ ih =>
    intro es es0 Hs hl hH hc hk hg
    have hops : ∀ x ∈ o.op.operands, ∀ t, x = .tmp t → t ∈ o.looksAt ops := by
      intro x hx t ht
      unfold Oper.looksAt
      refine List.mem_append_left _ (List.mem_filterMap.2 ⟨x, by simpa using hx, ?_⟩)
      rw [ht]
    have hr : oneOp P call o.op (restr (o.looksAt ops) fr) H = some (v, H1) := by rw [oneOp_restr o.op hops]; exact hv
    have hw : wantA ops (restr (o.looksAt ops) fr) o.guard = some true := by rw [hgd]; rfl
    by_cases he : isEff o.op = true
    · obtain ⟨es', Hs', h1, h2, h3, h4⟩ := ih (es ++ [⟨o, true, true, countEff es, loOf es o.after.toList, v, restr (o.looksAt ops) fr⟩]) (es0 ++ [⟨o, true, isEff o.op, countEff es0, loOf es0 o.after.toList, .u, []⟩]) (Hs ++ [H1])
        (by simp [countEff_snoc, hl]) (by simp [countEff_snoc, ← hl]) (hc.snoc hl hH g) (by simp [hk, Ent.key, he, key_count hk, key_lo hk]) (fun e hm hf => by
          rcases List.mem_append.1 hm with hm | hm
          · obtain ⟨k1, Hc, H2, k2, k3⟩ := hg e hm hf
            exact ⟨k1, Hc, H2, by rw [List.getElem?_append_left (List.getElem?_eq_some_iff.1 k2).1]; exact k2, k3⟩
          · simp at hm; subst hm; cases hf)
      refine ⟨es', Hs', ?_, h2, h3, h4⟩
      unfold lexA
      simp only [hw, he, if_true, hr]
      exact h1
    · have hcl : isCall o.op = false := by
        cases ho : o.op <;> simp [isCall]
        rename_i c
        obtain ⟨cl, _, _⟩ := c
        cases cl <;> simp [ho, isEff] at *
      have hr2 : opA P o.op (restr (o.looksAt ops) fr) H = some (v, H1) := by rw [← oneOp_pure (call := call) hcl]; exact hr
      have he' : isEff o.op = false := by simpa using he
      obtain rfl : H1 = H := float_heap he' hr2
      obtain ⟨es', Hs', h1, h2, h3, h4⟩ := ih (es ++ [⟨o, true, false, countEff es, loOf es o.after.toList, v, restr (o.looksAt ops) fr⟩]) (es0 ++ [⟨o, true, isEff o.op, countEff es0, loOf es0 o.after.toList, .u, []⟩]) Hs
        (by simp [countEff_snoc, hl]) (by simpa [countEff_snoc] using hH) hc (by simp [hk, Ent.key, he', key_count hk, key_lo hk]) (fun e hm hf => by
          rcases List.mem_append.1 hm with hm | hm
          · exact hg e hm hf
          · simp at hm; subst hm; exact ⟨he', _, _, hH, hr2⟩)
      refine ⟨es', Hs', ?_, h2, h3, h4⟩
      unfold lexA
      simp only [hw, he', hr2]
      exact h1
theorem draw_grows {P : Program} {call : CallA} {ops : Array Oper} {H H' : Heap} {fr fr' : List AV} (hok : drawOk P ops = true) (h : OpsG P call ops.toList fr H fr' H') : drawA P call ops fr H = some (fr', H') := by
  unfold drawOk at hok
  simp only [Bool.and_eq_true] at hok
  obtain ⟨⟨⟨⟨a, b⟩, c⟩, d⟩, e⟩ := hok
  obtain ⟨es', Hs', h1, h2, h3, h4⟩ := lexA_grows (ops := ops) _ _ _ _ _ h [] [] [H] rfl rfl (Chain.one H) rfl (fun e he => by simp at he)
  unfold drawA
  simp only [a, b, c, d, Bool.and_self, if_true, h1]
  rw [if_pos]
  rw [List.all_eq_true]
  rintro ⟨x, nx⟩ hx
  have hx := (List.mem_zipIdx_iff_getElem?.1 hx)
  have hx : x ∈ es' := List.mem_of_getElem? hx
  unfold effOk at e
  rw [List.all_eq_true] at e
  have hkx : x.key ∈ es'.map Ent.key := List.mem_map_of_mem hx
  rw [h3] at hkx
  obtain ⟨y, hy, hxy⟩ := List.mem_map.1 hkx
  have hy2 := e y hy
  have k0 : y.o = x.o := congrArg (fun z => z.1) hxy
  have k1 : y.eff = x.eff := congrArg (fun z => z.2.2.1) hxy
  have k2 : y.no = x.no := congrArg (fun z => z.2.2.2.1) hxy
  have k3 : y.lo = x.lo := congrArg (fun z => z.2.2.2.2) hxy
  rw [k0, k1, k2, k3] at hy2
  cases hxe : x.eff with
  | true => simp [hxe] at hy2; simp [hy2]
  | false =>
    obtain ⟨hne, Hc, H2, hno, hv⟩ := h4 x hx hxe
    simp [hxe] at hy2
    have : floatOk P x (Hs'.take (hiOf es' nx + 1)) = true := by
      unfold floatOk
      rw [List.all_eq_true]
      intro h hh
      have hval : ∃ H3, opA P x.o.op x.fr h = some (x.val, H3) := by
        rcases hy2 with hy2 | hy2
        · exact ⟨_, opA_free hy2 hv⟩
        · obtain ⟨j, hj⟩ := List.mem_iff_getElem?.1 hh
          rw [List.getElem?_drop, List.getElem?_take] at hj
          split at hj
          rotate_left
          · cases hj
          exact ⟨_, opA_grows (h2 x.no _ Hc h (by omega) hno hj) hne hv⟩
      obtain ⟨H3, hval⟩ := hval
      rw [hval]
      exact sameV_refl _
    simp [this]
theorem opsG_one {P : Program} {call : CallA} {ops : Array Oper} : ∀ (l : List Oper) (fr : List AV) (H : Heap) (fr' : List AV) (H' : Heap), l.all (·.guard.isNone) = true → l.countP (fun o => isEff o.op) ≤ 1 → opsA P call ops l fr H = some (fr', H') → Grows H H' → OpsG P call l fr H fr' H'
  | [], fr, H, fr', H', _, _, h, _ => by
    simp [opsA] at h
    obtain ⟨rfl, rfl⟩ := h
    exact .nil _ _
  | o :: l, fr, H, fr', H', hg, hc, h, g => by
    simp only [List.all_cons, Bool.and_eq_true, Option.isNone_iff_eq_none] at hg
    simp only [opsA, hg.1, wantA] at h
    split at h
    · rename_i v H1 hv
      by_cases he : isEff o.op = true
      · have h0 : l.countP (fun o => isEff o.op) = 0 := by rw [List.countP_cons, if_pos he] at hc; omega
        have stay : ∀ (l : List Oper) (fr : List AV) (H1 : Heap) (fr' : List AV) (H' : Heap), l.all (·.guard.isNone) = true → l.countP (fun o => isEff o.op) = 0 → opsA P call ops l fr H1 = some (fr', H') → H' = H1 := by
          intro l
          induction l with
          | nil => intro fr H1 fr' H' _ _ h; simp [opsA] at h; exact h.2.symm
          | cons o l ih =>
            intro fr H1 fr' H' hg hc h
            simp only [List.all_cons, Bool.and_eq_true, Option.isNone_iff_eq_none] at hg
            rw [List.countP_cons] at hc
            have he : isEff o.op = false := by cases hx : isEff o.op <;> simp [hx] at hc ⊢
            simp only [opsA, hg.1, wantA] at h
            split at h
            · rename_i v H2 hv
              have hcl : isCall o.op = false := by
                cases ho : o.op <;> simp [isCall]
                rename_i c
                obtain ⟨cl, _, _⟩ := c
                cases cl <;> simp [ho, isEff] at *
              rw [oneOp_pure hcl] at hv
              obtain rfl := float_heap he hv
              exact ih _ _ _ _ hg.2 (by omega) h
            · cases h
        obtain rfl := stay l _ _ _ _ hg.2 h0 h
        exact .op hg.1 hv g (opsG_one l _ _ _ _ hg.2 (by omega) h (.refl _))
      · have he' : isEff o.op = false := by simpa using he
        have hcl : isCall o.op = false := by
          cases ho : o.op <;> simp [isCall]
          rename_i c
          obtain ⟨cl, _, _⟩ := c
          cases cl <;> simp [ho, isEff] at *
        have hv2 := hv
        rw [oneOp_pure hcl] at hv2
        obtain rfl := float_heap he' hv2
        exact .op hg.1 hv (.refl _) (opsG_one l _ _ _ _ hg.2 (by rw [List.countP_cons] at hc; simp [he'] at hc; exact hc) h g)
    · cases h
def oneEff (ops : Array Oper) : Bool := ops.toList.all (·.guard.isNone) && decide (ops.toList.countP (fun o => isEff o.op) ≤ 1)
theorem RU.draw {P : Program} {S : CallA} {id : Nat} {ops : Array Oper} {fr fr1 : List AV} {H H1 : Heap} (hok : drawOk P ops = true) {n0 : Nat} (h : ∀ n, n0 ≤ n → OpsG P (run P S n) ops.toList fr H fr1 H1) : RU P S (.region id ops true) fr H (.normal, fr1, H1) := by
  refine ⟨n0 + 1, fun n hn => ?_⟩
  obtain ⟨m, rfl⟩ : ∃ m, n = m + 1 := ⟨n - 1, by omega⟩
  have := draw_grows hok (h m (by omega))
  simp only [run] at this
  simp [exec, this]
theorem RU.draw1 {P : Program} {S : CallA} {id : Nat} {ops : Array Oper} {fr fr1 : List AV} {H H1 : Heap} (hok : drawOk P ops = true) (h1 : oneEff ops = true) (n0 : Nat) (h : ∀ n, n0 ≤ n → opsA P (run P S n) ops ops.toList fr H = some (fr1, H1)) (g : Grows H H1) : RU P S (.region id ops true) fr H (.normal, fr1, H1) := by
  unfold oneEff at h1
  simp only [Bool.and_eq_true, decide_eq_true_eq] at h1
  exact RU.draw hok fun n hn => opsG_one _ _ _ _ _ h1.1 h1.2 (h n hn) g
theorem RU.k {P : Program} {S : CallA} {c : Code} {fr : List AV} {H : Heap} {r : AX × List AV × Heap} (h : ∀ m, exec P S (drawA P) (m + 20) c fr H = some r) : RU P S c fr H r :=
  ⟨20, fun n hn => by obtain ⟨m, rfl⟩ : ∃ m, n = m + 20 := ⟨n - 20, by omega⟩; exact h m⟩
end Go.Proofs.YtiifcfngbbhgoagDoor.Ax

namespace Go.Proofs.YtiifcfngbbhgoagDoor.Rd
open Go Go.Proofs.YtiifcfngbbhgoagDoor.Ax Go.Proofs.YtiifcfngbbhgoagDoor.Wire
noncomputable abbrev P : Program := Tryd.prog
abbrev tB : TypeId := 22
abbrev tU : TypeId := 5
abbrev tR : TypeId := 56
theorem bty : Bty P tB tU := ⟨by kernel_rfl, by kernel_rfl, by kernel_rfl, by kernel_rfl, by kernel_rfl, by kernel_rfl⟩
theorem fr0 (i o : Nat) : fieldAddrA P 56 (.p i o) 0 = some (.p i o) := by kernel_rfl
theorem fr1 (i o : Nat) : fieldAddrA P 56 (.p i o) 1 = some (.p i (o + 1)) := by kernel_rfl
theorem fr1' (i : Nat) : fieldAddrA P 56 (.p i 0) 1 = some (.p i 1) := by kernel_rfl
theorem aggB : aggA P 22 = some false := by kernel_rfl
theorem aggb : aggA P 4 = some false := by kernel_rfl
theorem sizeb : sizeA P 4 = some 1 := by kernel_rfl
theorem sizeB : sizeA P 22 = some 1 := by kernel_rfl
theorem lss (t : TypeId) (k : IntKind) (c : Bool) (a b : Int) : binA P .lss t c (.i k a) (.i k b) = some (.b (decide (a < b))) := by
  simp [binA, binOp, Op.intCmp, ofSem, ofV1]
  rfl
theorem leq (t : TypeId) (k : IntKind) (c : Bool) (a b : Int) : binA P .leq t c (.i k a) (.i k b) = some (.b (decide (a ≤ b))) := by
  simp [binA, binOp, Op.intCmp, ofSem, ofV1]
  rfl
theorem eql (t : TypeId) (k : IntKind) (c : Bool) (a b : Int) : binA P .eql t c (.i k a) (.i k b) = some (.b (a == b)) := by
  simp [binA, binOp, Op.intCmp, ofSem, ofV1]
  rfl
theorem sub (t : TypeId) (c : Bool) (a b : Int) : binA P .sub t c (.i .i64 a) (.i .i64 b) = some (.i .i64 (IntKind.i64.wrap (a - b))) := by
  simp [binA, binOp, Op.intArith, ofSem, ofV1]
  rfl
end Go.Proofs.YtiifcfngbbhgoagDoor.Rd

namespace Go.Proofs.YtiifcfngbbhgoagDoor.Ax
open Go
section
variable {P : Program} {fr : List AV} {H H1 : Heap}
theorem op_move {x : Operand} {v : AV} (h : ev fr x = some v) : opA P (.move x) fr H = some (v, H) := by simp [opA, h]
theorem op_assign {x : Operand} {v : AV} (h : ev fr x = some v) : opA P (.assign x) fr H = some (v, H) := by simp [opA, h]
theorem op_pickT {c a b : Operand} {v : AV} (hc : ev fr c = some (.b true)) (h : ev fr a = some v) : opA P (.pick c a b) fr H = some (v, H) := by simp [opA, h, hc]
theorem op_pickF {c a b : Operand} {v : AV} (hc : ev fr c = some (.b false)) (h : ev fr b = some v) : opA P (.pick c a b) fr H = some (v, H) := by simp [opA, h, hc]
theorem op_nilCheck {x : Operand} {i o : Nat} (h : ev fr x = some (.p i o)) : opA P (.nilCheck x) fr H = some (.p i o, H) := by simp [opA, h, nilCheckA]
theorem op_fieldAddr {t : TypeId} {x : Operand} {k : Nat} {a v : AV} (h : ev fr x = some a) (hv : fieldAddrA P t a k = some v) : opA P (.fieldAddr t x k) fr H = some (v, H) := by simp [opA, h, hv]
theorem op_load {t : TypeId} {x : Operand} {a v : AV} (h : ev fr x = some a) (hv : loadA P H t a = some v) : opA P (.load t x) fr H = some (v, H) := by simp [opA, h, hv]
theorem op_store {t : TypeId} {x y : Operand} {a v : AV} (h : ev fr x = some a) (h2 : ev fr y = some v) (hv : storeA P H t a v = some H1) : opA P (.store t x y) fr H = some (.u, H1) := by simp [opA, h, h2, hv]
theorem op_bin {op : BinOp} {t s : TypeId} {x y : Operand} {a b v : AV} {c : Bool} (h : ev fr x = some a) (h2 : ev fr y = some b) (hc : (isC x || isC y) = c) (hv : binA P op t c a b = some v) : opA P (.binOp op t x y s) fr H = some (v, H) := by simp [opA, h, h2, hc, hv]
theorem op_un {op : UnOp} {t : TypeId} {x : Operand} {a v : AV} (h : ev fr x = some a) (hv : unA op a = some v) : opA P (.unOp op t x) fr H = some (v, H) := by simp [opA, h, hv]
theorem op_conv {s d : TypeId} {x : Operand} {a v : AV} (h : ev fr x = some a) (hv : convA P s d a = some v) : opA P (.convert s d x) fr H = some (v, H) := by simp [opA, h, hv]
theorem op_convS {s d : TypeId} {x : Operand} {a v : AV} (h : ev fr x = some a) (h0 : convA P s d a = none) (hv : strA P H s d a = some v) : opA P (.convert s d x) fr H = some (v, H) := by simp [opA, h, h0, hv]
theorem op_len {x : Operand} {t : TypeId} {a v : AV} (h : ev fr x = some a) (hv : lenA P t a = some v) : opA P (.call { callee := .builtin .len, args := #[x], argTypes := #[t] }) fr H = some (v, H) := by simp [opA, h, hv]
theorem op_lenM {x : Operand} {t : TypeId} {a v : AV} (h : ev fr x = some a) (h0 : lenA P t a = none) (hv : lenM P H t a = some v) : opA P (.call { callee := .builtin .len, args := #[x], argTypes := #[t] }) fr H = some (v, H) := by simp [opA, h, h0, hv]
theorem op_makeMap {t : TypeId} {v : AV} (h : makeMapA P H t = some (v, H1)) : opA P (.makeMap t none) fr H = some (v, H1) := by simp [opA, h]
theorem op_mapUpdate {t : TypeId} {m k x : Operand} {a b c : AV} (h : ev fr m = some a) (h2 : ev fr k = some b) (h3 : ev fr x = some c) (hv : mapSetA P H t a b c = some H1) : opA P (.mapUpdate t m k x) fr H = some (.u, H1) := by simp [opA, h, h2, h3, hv]
theorem op_indexAddr {t : TypeId} {x k : Operand} {a b v : AV} (h : ev fr x = some a) (h2 : ev fr k = some b) (hv : indexAddrA P t a b = some v) : opA P (.indexAddr t x k) fr H = some (v, H) := by simp [opA, h, h2, hv]
theorem op_index {t : TypeId} {x k : Operand} {a b v : AV} (h : ev fr x = some a) (h2 : ev fr k = some b) (hv : indexA P t a b = some v) : opA P (.index t x k) fr H = some (v, H) := by simp [opA, h, h2, hv]
theorem op_sliceLo {t : TypeId} {x l : Operand} {a b v : AV} (h : ev fr x = some a) (h2 : ev fr l = some b) (hv : sliceA P t a (some b) none = some v) : opA P (.slice t x (some l) none none) fr H = some (v, H) := by simp [opA, h, h2, hv]
theorem op_sliceHi {t : TypeId} {x l : Operand} {a b v : AV} (h : ev fr x = some a) (h2 : ev fr l = some b) (hv : sliceA P t a none (some b) = some v) : opA P (.slice t x none (some l) none) fr H = some (v, H) := by simp [opA, h, h2, hv]
theorem op_sliceLH {t : TypeId} {x l r : Operand} {a b c v : AV} (h : ev fr x = some a) (h2 : ev fr l = some b) (h3 : ev fr r = some c) (hv : sliceA P t a (some b) (some c) = some v) : opA P (.slice t x (some l) (some r) none) fr H = some (v, H) := by simp [opA, h, h2, h3, hv]
theorem op_iface {t : TypeId} {x : Operand} {a v : AV} (h : ev fr x = some a) (hv : ifaceA P t a = some v) : opA P (.makeInterface t x) fr H = some (v, H) := by simp [opA, h, hv]
theorem op_sliceMax {t : TypeId} {x l m : Operand} {a b c v : AV} (h : ev fr x = some a) (h2 : ev fr l = some b) (h3 : ev fr m = some c) (hv : sliceMaxA P t a b c = some v) : opA P (.slice t x none (some l) (some m)) fr H = some (v, H) := by simp [opA, h, h2, h3, hv]
theorem op_sliceArr {t : TypeId} {x : Operand} {a v : AV} (h : ev fr x = some a) (hv : sliceArrA P H t a = some v) : opA P (.slice t x none none none) fr H = some (v, H) := by simp [opA, h, hv]
theorem op_extract {x : Operand} {k : Nat} {vs : List AV} {v : AV} (h : ev fr x = some (.t vs)) (hv : vs[k]? = some v) : opA P (.extract x k) fr H = some (v, H) := by simp [opA, h, hv]
theorem op_field {t : TypeId} {x : Operand} {k : Nat} {a v : AV} (h : ev fr x = some a) (hv : fieldA P t a k = some v) : opA P (.field t x k) fr H = some (v, H) := by simp [opA, h, hv]
theorem op_alloc {e : TypeId} {z : AV} (hz : zeroA P e = some z) (h1 : z.cells.all AV.one = true) : opA P (.alloc e) fr H = some (.p H.length 0, H ++ [.cells e .vr z.cells]) := by simp only [opA, hz, newBlk, h1, Option.bind_some, if_true, Option.map_some]
theorem op_box {e : TypeId} {x : Operand} {v : AV} (h : ev fr x = some v) (h1 : v.cells.all AV.one = true) : opA P (.box e x) fr H = some (.p H.length 0, H ++ [.cells e .vr v.cells]) := by simp only [opA, h, newBlk, h1, Option.bind_some, if_true, Option.map_some]
theorem op_buildSlice {t : TypeId} {n : Nat} {parts : Array (Nat × Operand)} {ps : List (Nat × AV)} {v : AV} (h : evs fr parts.toList = some ps) (hv : buildSliceA P H t n ps = some (v, H1)) : opA P (.buildSlice t n parts) fr H = some (v, H1) := by simp [opA, h, hv]
theorem op_append {t t2 : TypeId} {s x : Operand} {a b v : AV} (h : ev fr s = some a) (h2 : ev fr x = some b) (ht : t = t2) (hu : (elemA P t2).isSome = true) (hb : b.isS = false) (hv : appendA P H t false a b = some (v, H1)) :
    opA P (.call { callee := .builtin .append, args := #[s, x], argTypes := #[t, t2] }) fr H = some (v, H1) := by
  subst ht
  have : ∃ e, P.underlying t = some (.slice e) := by
    unfold elemA at hu
    split at hu
    · rename_i e he; exact ⟨e, he⟩
    · simp at hu
  obtain ⟨e, he⟩ := this
  simp [opA, h, h2, he, hb, hv]
theorem op_appendS {t t2 : TypeId} {s x : Operand} {a b v : AV} (h : ev fr s = some a) (h2 : ev fr x = some b) (hu : P.underlying t2 = some .string) (hv : appendA P H t true a b = some (v, H1)) :
    opA P (.call { callee := .builtin .append, args := #[s, x], argTypes := #[t, t2] }) fr H = some (v, H1) := by
  simp [opA, h, h2, hu, hv]
theorem op_copy {t t2 : TypeId} {d x : Operand} {a b v : AV} (h : ev fr d = some a) (h2 : ev fr x = some b) (hv : copyA P H t a b = some (v, H1)) :
    opA P (.call { callee := .builtin .copy, args := #[d, x], argTypes := #[t, t2] }) fr H = some (v, H1) := by
  simp [opA, h, h2, hv]
theorem op_func {f : FuncId} {caps : Array Operand} {cs : List AV} (h : evl fr caps.toList = some cs) (h1 : cs.all AV.one = true) : opA P (.makeFunc (.func f) #[] caps) fr H = some (.fn f cs, H) := by
  simp only [opA, h, h1, Option.bind_some, if_true, Option.map_some, Array.size_empty]
end
def OG (P : Program) (call : CallA) (l : List Oper) (fr : List AV) (H : Heap) (r : List AV × Heap) : Prop := OpsG P call l fr H r.1 r.2
theorem OG.nil {P : Program} {call : CallA} {fr : List AV} {H : Heap} : OG P call [] fr H (fr, H) := OpsG.nil _ _
theorem OG.pure {P : Program} {call : CallA} {o : Oper} {l : List Oper} {fr : List AV} {H H1 : Heap} {v : AV} {r : List AV × Heap} (hg : o.guard = none) (hc : isCall o.op = false) (h : opA P o.op fr H = some (v, H1)) (g : Grows H H1) (t : OG P call l (putA fr o.dst v) H1 r) : OG P call (o :: l) fr H r :=
  OpsG.op hg ((oneOp_pure hc).trans h) g t
theorem OG.call {P : Program} {call : CallA} {d : Option Tmp} {f : Operand} {args : Array Operand} {ats : Array TypeId} {ty : TypeId} {pos : String} {af : Array Edge} {l : List Oper} {fr : List AV} {H H1 : Heap} {v : AV} {r : List AV × Heap} {g : FuncId} {caps as_ : List AV}
    (hf : ev fr f = some (.fn g caps)) (ha : evl fr args.toList = some as_) (h1 : call g (as_ ++ caps) H = some (v, H1)) (gr : Grows H H1) (t : OG P call l (putA fr d v) H1 r) : OG P call (⟨d, .call { callee := .value f, args := args, argTypes := ats }, ty, pos, af, none⟩ :: l) fr H r :=
  OpsG.op rfl (by simp only [oneOp, hf, ha, h1]) gr t
theorem OG.call0 {P : Program} {call : CallA} {d : Option Tmp} {f : Operand} {args : Array Operand} {ats : Array TypeId} {ty : TypeId} {pos : String} {af : Array Edge} {l : List Oper} {fr : List AV} {H H1 : Heap} {v : AV} {r : List AV × Heap} {g : FuncId} {as_ : List AV}
    (hf : ev fr f = some (.fn g [])) (ha : evl fr args.toList = some as_) (h1 : call g as_ H = some (v, H1)) (gr : Grows H H1) (t : OG P call l (putA fr d v) H1 r) : OG P call (⟨d, .call { callee := .value f, args := args, argTypes := ats }, ty, pos, af, none⟩ :: l) fr H r :=
  OG.call hf ha (by rw [List.append_nil]; exact h1) gr t
theorem OS.call0 {P : Program} {S : CallA} {ops : Array Oper} {d : Option Tmp} {f : Operand} {args : Array Operand} {ats : Array TypeId} {ty : TypeId} {pos : String} {af : Array Edge} {l : List Oper} {fr : List AV} {H H1 : Heap} {v : AV} {r : List AV × Heap} {g : FuncId} {as_ : List AV}
    (hf : ev fr f = some (.fn g [])) (ha : evl fr args.toList = some as_) (h1 : CA P S g as_ H (v, H1)) (h2 : OS P S ops l (putA fr d v) H1 r) : OS P S ops (⟨d, .call { callee := .value f, args := args, argTypes := ats }, ty, pos, af, none⟩ :: l) fr H r :=
  OS.call hf ha (by rw [List.append_nil]; exact h1) h2
theorem OS.opg {P : Program} {S : CallA} {ops : Array Oper} {o : Oper} {l : List Oper} {fr : List AV} {H H1 : Heap} {v : AV} {r : List AV × Heap} (hg : wantA ops fr o.guard = some true) (hc : isCall o.op = false) (h1 : opA P o.op fr H = some (v, H1)) (h2 : OS P S ops l (putA fr o.dst v) H1 r) : OS P S ops (o :: l) fr H r := by
  obtain ⟨n1, k1⟩ := h2
  refine ⟨n1, fun n hn => ?_⟩
  simp only [opsA, hg, oneOp_pure hc, h1, k1 n hn]
theorem OS.skip {P : Program} {S : CallA} {ops : Array Oper} {o : Oper} {l : List Oper} {fr : List AV} {H : Heap} {r : List AV × Heap} (hg : wantA ops fr o.guard = some false) (h2 : OS P S ops l (putA fr o.dst (.t [])) H r) : OS P S ops (o :: l) fr H r := by
  obtain ⟨n1, k1⟩ := h2
  refine ⟨n1, fun n hn => ?_⟩
  simp only [opsA, hg, k1 n hn]
theorem RU.drawn {P : Program} {S : CallA} {id : Nat} {ops : Array Oper} {fr fr1 : List AV} {H H1 : Heap} (hok : drawOk P ops = true) {n0 : Nat} (h : ∀ n, n0 ≤ n → OG P (run P S n) ops.toList fr H (fr1, H1)) : RU P S (.region id ops true) fr H (.normal, fr1, H1) := RU.draw hok h
end Go.Proofs.YtiifcfngbbhgoagDoor.Ax

