/-
  THE ABSTRACT MACHINE: what it computes of a function's call, the program's call computes.
-/
import Derived.Test.YthioggjaccpfgaaAxExec
import Derived.LoopN
import Derived.Scope
namespace Go.Proofs.Ythioggjaccpfgaa.Ax
open Go Go.RowKit

def exitOf : AX → Exit
  | .normal => .normal
  | .ret => .ret
  | .exit i => .exit i
  | .goto l => .goto l

/-- What a call of the machine promises of the program's. -/
def Meets (P : Program) (ρ : Nat → Value) (base : Nat) (μ : List Loc) (w : World) (v : AV) (H' : Heap) (e : Ending) (w' : World) : Prop :=
  ∃ v' μ', e = .returned v' ∧ Ext μ μ' ∧ VR ρ μ' v v' ∧ HR P ρ base μ' H' w' ∧ Below base w w'
def CallSound (P : Program) (ρ : Nat → Value) (base : Nat) (call : CallA) : Prop :=
  ∀ (f : FuncId) (args : List AV) (H : Heap) (v : AV) (H' : Heap), call f args H = some (v, H') → (∃ fn, P.funcs[f]? = some fn ∧ fn.body.isSome = true) ∧
    ∀ (μ : List Loc) (w : World) (vs : List Value), HR P ρ base μ H w → VRs ρ μ args vs → Calls P f vs.toArray w (Meets P ρ base μ w v H')
def DrawSound (P : Program) (ρ : Nat → Value) (base : Nat) (draw : CallA → Array Oper → List AV → Heap → Option (List AV × Heap)) : Prop :=
  ∀ call, CallSound P ρ base call → ∀ id ops fr H fr' H', draw call ops fr H = some (fr', H') → ∀ μ a w Q, HR P ρ base μ H w → FR ρ μ fr a.tmps →
    (∀ a' w' μ', Ext μ μ' → FR ρ μ' fr' a'.tmps → a'.defers = a.defers → HR P ρ base μ' H' w' → Below base w w' → Q .normal a' w') → (Code.region id ops true).wp P Q a w
def NoCount (P : Program) : Prop := ∀ (f : FuncId) (fn : Func), P.funcs[f]? = some fn → (fn.name == "runtime.NumGoroutine") = false

def resOf (tmps : Array Value) : ResultVar → Sem Value
  | .tmp t => pure (tmps.getD t undef)
  | .cell a t => do loadVar t (← asAddr (tmps.getD a undef))

section
variable {P : Program} {ρ : Nat → Value} {base : Nat} {μ : List Loc} {H : Heap} {w : World} {fr : List AV} {a : Act}

theorem VR.undef : VR ρ μ (.t []) undef := .t (vs := []) rfl (fun j x v h => by simp at h)

theorem FR.put (hf : FR ρ μ fr a.tmps) {d : Option Tmp} {v : AV} {v' : Value} (hv : VR ρ μ v v') : FR ρ μ (putA fr d v) (a.put d v').tmps := by
  cases d with
  | none => exact hf
  | some d =>
    simp only [putA, Act.put]
    refine ⟨by simp [hf.1], fun j x u p q => ?_⟩
    rw [Array.toList_setIfInBounds, List.getElem?_set] at q
    rw [List.getElem?_set] at p
    split at p
    · rename_i e
      subst e
      rw [if_pos rfl] at q
      split at p
      · rename_i h1
        rw [if_pos (by rw [← hf.1]; exact h1)] at q
        simp at p q
        subst p; subst q
        exact hv
      · cases p
    · rename_i e
      rw [if_neg e] at q
      exact hf.2 j x u p q
theorem put_defers (a : Act) (d : Option Tmp) (v : Value) : (a.put d v).defers = a.defers := by cases d <;> rfl

theorem want_eq (hf : FR ρ μ fr a.tmps) {ops : Array Oper} {o : Oper} {b : Bool} (h : wantA ops fr o.guard = some b) : Region.wanted o (yielded ops a.tmps) = b := by
  unfold wantA at h
  unfold Region.wanted
  split at h
  · rename_i hg; simp at h; subst h; simp [hg]
  · rename_i j wnt hg
    simp only [hg]
    split at h
    · rename_i d hd
      split at h
      · rename_i x hx
        simp at h
        obtain ⟨u, hu, huv⟩ := VRs.at hf hx
        cases huv
        unfold yielded
        rw [Array.getElem?_toList] at hu
        simp only [hd, Option.bind_some, hu]
        rw [← h]
        cases x <;> cases wnt <;> rfl
      · rename_i vs hx
        simp at h
        subst h
        obtain ⟨u, hu, huv⟩ := VRs.at hf hx
        cases huv
        unfold yielded
        rw [Array.getElem?_toList] at hu
        simp only [hd, Option.bind_some, hu]
        cases wnt <;> rfl
      · cases h
    · cases h

theorem oneOp_wp (hρ : ∀ j, (ρ j).oneCell' = true) (hN : NoCount P) {call : CallA} (hc : CallSound P ρ base call) (hr : HR P ρ base μ H w) (hf : FR ρ μ fr a.tmps) {o : Oper} {v : AV} {H' : Heap} (h : oneOp P call o.op fr H = some (v, H')) {K : Act → World → Prop} {Q : Exit → Act → World → Prop}
    (hK : ∀ v' w' μ', Ext μ μ' → VR ρ μ' v v' → HR P ρ base μ' H' w' → Below base w w' → K (a.put o.dst v') w') : o.wp P a w K Q := by
  unfold oneOp at h
  split at h
  · rename_i f args argTypes hop
    split at h
    · rename_i fid caps as hfv has
      have h1 := ev_VR hfv hf
      have h2 := evl_VRs hf has
      generalize hfx : a.eval f = fx at h1
      cases h1 with
      | fn hl hh =>
        rename_i cvs
        obtain ⟨⟨fn, hfn, hb⟩, hcalls⟩ := hc _ _ _ _ _ h
        have hargs : VRs ρ μ (as ++ caps) (args.toList.map a.eval ++ cvs) := h2.append ⟨hl, hh⟩
        have hcall := hcalls μ w _ hr hargs
        unfold Oper.wp execOp
        rw [hop]
        have hres : (do let d ← resolve a.eval { callee := .value f, args := args, argTypes := argTypes } o.type; invoke d.target d.args : Sem Next).run P w = .ok (.enter fid ((args.toList.map a.eval ++ cvs).toArray)) w := by
          have hnn : (fn.name == "runtime.NumGoroutine") = false := hN fid fn hfn
          obtain ⟨c, hcb⟩ := Option.isSome_iff_exists.1 hb
          have hbn : fn.body.isNone = false := by simp [hcb]
          simp only [resolve, hfx, Deferred.ofValue, Sem.run_bind, Sem.run_pure, Result.andThen_ok, invoke, callFunc, run_program, hfn, hnn, hbn, if_false, Bool.false_eq_true]
          congr 2
          apply Array.ext'
          simp
        simp only [hres]
        show Calls P fid _ w _
        refine hcall.mono fun e w' hm => ?_
        obtain ⟨v', μ', rfl, e1, e2, e3, e4⟩ := hm
        exact hK v' w' μ' e1 e2 e3 e4
    · cases h
  · exact opA_wp hρ hr hf h hK

theorem opsA_wp (hρ : ∀ j, (ρ j).oneCell' = true) (hN : NoCount P) {call : CallA} (hc : CallSound P ρ base call) {ops : Array Oper} {Q : Exit → Act → World → Prop} :
    ∀ (l : List Oper) (fr : List AV) (H : Heap) (fr' : List AV) (H' : Heap) (μ : List Loc) (a : Act) (w : World), opsA P call ops l fr H = some (fr', H') → HR P ρ base μ H w → FR ρ μ fr a.tmps →
    (∀ a' w' μ', Ext μ μ' → FR ρ μ' fr' a'.tmps → a'.defers = a.defers → HR P ρ base μ' H' w' → Below base w w' → Q .normal a' w') → wpList P ops Q l a w
  | [], fr, H, fr', H', μ, a, w, h, hr, hf, hQ => by
    simp [opsA] at h
    obtain ⟨rfl, rfl⟩ := h
    exact hQ a w μ (Ext.refl _) hf rfl hr (Below.refl _ _)
  | o :: rest, fr, H, fr', H', μ, a, w, h, hr, hf, hQ => by
    unfold opsA at h
    split at h
    · rename_i hw
      split at h
      · rename_i v H1 hv
        unfold wpList
        rw [if_pos (want_eq hf hw)]
        refine .inl (oneOp_wp hρ hN hc hr hf hv fun v' w' μ' e1 e2 e3 e4 => ?_)
        refine opsA_wp hρ hN hc rest _ H1 fr' H' μ' _ w' h e3 (FR.put (hf.mono e1) e2) fun a' w'' μ'' d1 d2 d3 d4 d5 => ?_
        exact hQ a' w'' μ'' (e1.trans d1) d2 (d3.trans (put_defers ..)) d4 (e4.trans d5)
      · cases h
    · rename_i hw
      unfold wpList
      rw [if_neg (by rw [want_eq hf hw]; simp)]
      exact opsA_wp hρ hN hc rest _ H fr' H' μ _ w h hr (FR.put hf VR.undef) fun a' w'' μ'' d1 d2 d3 d4 d5 => hQ a' w'' μ'' d1 d2 (d3.trans (put_defers ..)) d4 d5
    · cases h

/-- The run stands at a code in a scope. -/
def Standing (P : Program) (c rest : Code) (Q : Exit → Act → World → Prop) (a : Act) (w : World) : Prop :=
  ∀ (b : Frame) (k : List Item) (cs : List Frame), ∃ e a' w', Q e a' w' ∧ Arrives P (lone (b.at a (.code rest :: .inScope c :: k)) cs w) b k cs e a' w'
/-- By a goto to a label of the scope: on from there. -/
def jumped (P : Program) (c : Code) (Q : Exit → Act → World → Prop) : Exit → Act → World → Prop
  | .goto l, a, w => ∃ rest, findLabel c l = some rest ∧ Standing P c rest Q a w
  | e, a, w => Q e a w

theorem wp_scope_of {c : Code} {Q : Exit → Act → World → Prop} (h : Standing P c c Q a w) : (Code.scope c).wp P Q a w := by
  intro b k cs
  obtain ⟨e, a₁, w₁, hq, harr⟩ := h b k cs
  exact ⟨e, a₁, w₁, hq, .of_steps (.one step_scope) harr⟩

theorem standing_of {c rest : Code} {Q : Exit → Act → World → Prop} (h : rest.wp P (jumped P c Q) a w) : Standing P c rest Q a w := by
  intro b k cs
  obtain ⟨e, a₁, w₁, hq, harr⟩ := h b (.inScope c :: k) cs
  cases e with
  | normal => exact ⟨.normal, a₁, w₁, hq, Steps.trans harr (.one step_inScope)⟩
  | exit id => exact ⟨.exit id, a₁, w₁, hq, fun k' hk => harr k' (by simp [exitTo, hk])⟩
  | goto l' =>
    obtain ⟨rest', hf, hst⟩ := hq
    have hg : gotoIn l' (.inScope c :: k) = some (.code rest' :: .inScope c :: k) := by simp [gotoIn, hf]
    obtain ⟨e₂, a₂, w₂, hq₂, harr₂⟩ := hst b k cs
    exact ⟨e₂, a₂, w₂, hq₂, .of_steps (harr _ hg) harr₂⟩
  | ret => exact ⟨_, a₁, w₁, hq, harr⟩
  | panic ch => exact ⟨_, a₁, w₁, hq, harr⟩
  | outgrown => exact ⟨_, a₁, w₁, hq, harr⟩

theorem jump_sound {run : Code → List AV → Heap → Option (AX × List AV × Heap)} {c : Code}
    (ih : ∀ c fr H x fr' H', run c fr H = some (x, fr', H') → ∀ μ a w Q, HR P ρ base μ H w → FR ρ μ fr a.tmps →
      (∀ a' w' μ', Ext μ μ' → FR ρ μ' fr' a'.tmps → a'.defers = a.defers → HR P ρ base μ' H' w' → Below base w w' → Q (exitOf x) a' w') → c.wp P Q a w) :
    ∀ k rest fr H x fr' H', jumpA run c k (run rest fr H) = some (x, fr', H') → ∀ μ a w Q, HR P ρ base μ H w → FR ρ μ fr a.tmps →
      (∀ a' w' μ', Ext μ μ' → FR ρ μ' fr' a'.tmps → a'.defers = a.defers → HR P ρ base μ' H' w' → Below base w w' → Q (exitOf x) a' w') → Standing P c rest Q a w := by
  have stop : ∀ rest fr H x fr' H', run rest fr H = some (x, fr', H') → (∀ l, x ≠ .goto l) → ∀ μ a w Q, HR P ρ base μ H w → FR ρ μ fr a.tmps →
      (∀ a' w' μ', Ext μ μ' → FR ρ μ' fr' a'.tmps → a'.defers = a.defers → HR P ρ base μ' H' w' → Below base w w' → Q (exitOf x) a' w') → Standing P c rest Q a w := by
    intro rest fr H x fr' H' h hx μ a w Q hr hf hQ
    refine standing_of (ih rest fr H x fr' H' h μ a w _ hr hf fun a' w' μ' e1 e2 e3 e4 e5 => ?_)
    have := hQ a' w' μ' e1 e2 e3 e4 e5
    cases x with
    | goto l => exact absurd rfl (hx l)
    | _ => exact this
  intro k
  induction k with
  | zero =>
    intro rest fr H x fr' H' h μ a w Q hr hf hQ
    unfold jumpA at h
    split at h
    · cases h
    · rename_i hne
      exact stop rest fr H x fr' H' h (fun l e => by subst e; exact hne _ _ _ h) μ a w Q hr hf hQ
  | succ k ihk =>
    intro rest fr H x fr' H' h μ a w Q hr hf hQ
    unfold jumpA at h
    split at h
    · rename_i l fr1 H1 h1
      split at h
      · rename_i rest' hfl
        refine standing_of (ih rest fr H (.goto l) fr1 H1 h1 μ a w _ hr hf fun a' w' μ' e1 e2 e3 e4 e5 => ?_)
        exact ⟨rest', hfl, ihk rest' fr1 H1 x fr' H' h μ' a' w' Q e4 e2 fun a'' w'' μ'' d1 d2 d3 d4 d5 => hQ a'' w'' μ'' (e1.trans d1) d2 (d3.trans e3) d4 (e5.trans d5)⟩
      · cases h
    · rename_i hne
      exact stop rest fr H x fr' H' h (fun l e => by subst e; exact hne _ _ _ h) μ a w Q hr hf hQ

theorem exec_wp (hρ : ∀ j, (ρ j).oneCell' = true) (hN : NoCount P) {S : CallA} {draw : CallA → Array Oper → List AV → Heap → Option (List AV × Heap)} (hdraw : DrawSound P ρ base draw)
    (hcw : ∀ n, (∀ c fr H x fr' H', exec P S draw n c fr H = some (x, fr', H') → ∀ μ a w Q, HR P ρ base μ H w → FR ρ μ fr a.tmps →
      (∀ a' w' μ', Ext μ μ' → FR ρ μ' fr' a'.tmps → a'.defers = a.defers → HR P ρ base μ' H' w' → Below base w w' → Q (exitOf x) a' w') → c.wp P Q a w) → CallSound P ρ base (callWith P S (exec P S draw n))) :
    ∀ n, (∀ c fr H x fr' H', exec P S draw n c fr H = some (x, fr', H') → ∀ μ a w Q, HR P ρ base μ H w → FR ρ μ fr a.tmps →
      (∀ a' w' μ', Ext μ μ' → FR ρ μ' fr' a'.tmps → a'.defers = a.defers → HR P ρ base μ' H' w' → Below base w w' → Q (exitOf x) a' w') → c.wp P Q a w) ∧
    (∀ c fr H x fr' H', exec P S draw n (.loop c) fr H = some (x, fr', H') → ∀ μ a w Q, HR P ρ base μ H w → FR ρ μ fr a.tmps →
      (∀ a' w' μ', Ext μ μ' → FR ρ μ' fr' a'.tmps → a'.defers = a.defers → HR P ρ base μ' H' w' → Below base w w' → Q (exitOf x) a' w') → Code.rounds P c Q n a w) := by
  intro n
  induction n with
  | zero => exact ⟨fun c fr H x fr' H' h => by simp [exec] at h, fun c fr H x fr' H' h => by simp [exec] at h⟩
  | succ n ih =>
    obtain ⟨ihA, ihB⟩ := ih
    have hcs := hcw n ihA
    have B : ∀ c fr H x fr' H', exec P S draw (n + 1) (.loop c) fr H = some (x, fr', H') → ∀ μ a w Q, HR P ρ base μ H w → FR ρ μ fr a.tmps →
      (∀ a' w' μ', Ext μ μ' → FR ρ μ' fr' a'.tmps → a'.defers = a.defers → HR P ρ base μ' H' w' → Below base w w' → Q (exitOf x) a' w') → Code.rounds P c Q (n + 1) a w := by
      intro c fr H x fr' H' h μ a w Q hr hf hQ
      simp only [exec] at h
      rw [rounds_succ]
      split at h
      · rename_i fr1 H1 h1
        refine ihA c fr H .normal fr1 H1 h1 μ a w _ hr hf fun a' w' μ' e1 e2 e3 e4 e5 => ?_
        show Code.rounds P c Q n a' w'
        exact ihB c fr1 H1 x fr' H' h μ' a' w' Q e4 e2 fun a'' w'' μ'' d1 d2 d3 d4 d5 => hQ a'' w'' μ'' (e1.trans d1) d2 (d3.trans e3) d4 (e5.trans d5)
      · rename_i hne
        refine ihA c fr H x fr' H' h μ a w _ hr hf fun a' w' μ' e1 e2 e3 e4 e5 => ?_
        have := hQ a' w' μ' e1 e2 e3 e4 e5
        cases x with
        | normal => exact absurd h (hne _ _)
        | _ => exact this
    refine ⟨?_, B⟩
    intro c fr H x fr' H' h μ a w Q hr hf hQ
    cases c with
    | loop c => exact wp_loop_rounds (n + 1) (B c fr H x fr' H' h μ a w Q hr hf hQ)
    | skip =>
      simp [exec] at h
      obtain ⟨rfl, rfl, rfl⟩ := h
      exact wp_skip (hQ a w μ (Ext.refl _) hf rfl hr (Below.refl _ _))
    | ret =>
      simp [exec] at h
      obtain ⟨rfl, rfl, rfl⟩ := h
      exact wp_ret (hQ a w μ (Ext.refl _) hf rfl hr (Below.refl _ _))
    | label l =>
      simp [exec] at h
      obtain ⟨rfl, rfl, rfl⟩ := h
      exact wp_label (hQ a w μ (Ext.refl _) hf rfl hr (Below.refl _ _))
    | goto l =>
      simp [exec] at h
      obtain ⟨rfl, rfl, rfl⟩ := h
      exact wp_goto (hQ a w μ (Ext.refl _) hf rfl hr (Below.refl _ _))
    | scope c =>
      simp only [exec] at h
      exact wp_scope_of (jump_sound ihA 3 c fr H x fr' H' h μ a w Q hr hf hQ)
    | exit id =>
      simp [exec] at h
      obtain ⟨rfl, rfl, rfl⟩ := h
      exact wp_exit (hQ a w μ (Ext.refl _) hf rfl hr (Below.refl _ _))
    | region id ops dr =>
      simp only [exec] at h
      split at h
      · rename_i hd
        obtain ⟨⟨fr1, H1⟩, h1, hh⟩ := Option.map_eq_some_iff.1 h
        simp at hh
        obtain ⟨rfl, rfl, rfl⟩ := hh
        subst hd
        exact hdraw _ hcs id ops fr H fr1 H1 h1 μ a w Q hr hf hQ
      · rename_i hd
        obtain ⟨⟨fr1, H1⟩, h1, hh⟩ := Option.map_eq_some_iff.1 h
        simp at hh
        obtain ⟨rfl, rfl, rfl⟩ := hh
        have : dr = false := by simpa using hd
        subst this
        exact wp_region_list (opsA_wp hρ hN hcs ops.toList fr H fr1 H1 μ a w h1 hr hf hQ)
    | seq c1 c2 =>
      simp only [exec] at h
      split at h
      · rename_i fr1 H1 h1
        refine wp_seq (ihA c1 fr H .normal fr1 H1 h1 μ a w _ hr hf fun a' w' μ' e1 e2 e3 e4 e5 => ?_)
        exact ihA c2 fr1 H1 x fr' H' h μ' a' w' Q e4 e2 fun a'' w'' μ'' d1 d2 d3 d4 d5 => hQ a'' w'' μ'' (e1.trans d1) d2 (d3.trans e3) d4 (e5.trans d5)
      · rename_i hne
        refine wp_seq (ihA c1 fr H x fr' H' h μ a w _ hr hf fun a' w' μ' e1 e2 e3 e4 e5 => ?_)
        have := hQ a' w' μ' e1 e2 e3 e4 e5
        cases x with
        | normal => exact absurd h (hne _ _)
        | _ => exact this
    | cond c c1 c2 =>
      simp only [exec] at h
      split at h
      · rename_i hc
        have hv := ev_VR hc hf
        generalize hcv : a.eval c = cv at hv
        cases hv
        exact wp_cond_true hcv (ihA c1 fr H x fr' H' h μ a w Q hr hf hQ)
      · rename_i hc
        have hv := ev_VR hc hf
        generalize hcv : a.eval c = cv at hv
        cases hv
        exact wp_cond_false hcv (ihA c2 fr H x fr' H' h μ a w Q hr hf hQ)
      · cases h
    | block id c =>
      simp only [exec] at h
      split at h
      · rename_i j fr1 H1 h1
        refine wp_block (ihA c fr H (.exit j) fr1 H1 h1 μ a w _ hr hf fun a' w' μ' e1 e2 e3 e4 e5 => ?_)
        simp only [exitOf, Exit.inBlock]
        split at h
        · rename_i e
          simp at h
          obtain ⟨rfl, rfl, rfl⟩ := h
          rw [if_pos e]
          exact hQ a' w' μ' e1 e2 e3 e4 e5
        · rename_i e
          simp at h
          obtain ⟨rfl, rfl, rfl⟩ := h
          rw [if_neg e]
          exact hQ a' w' μ' e1 e2 e3 e4 e5
      · rename_i hne
        refine wp_block (ihA c fr H x fr' H' h μ a w _ hr hf fun a' w' μ' e1 e2 e3 e4 e5 => ?_)
        have := hQ a' w' μ' e1 e2 e3 e4 e5
        cases x with
        | exit j => exact absurd h (hne _ _ _)
        | _ => exact this
    | _ => simp [exec] at h

theorem results_fine (hr : HR P ρ base μ H w) (hf : FR ρ μ fr a.tmps) : ∀ (l : List ResultVar) (vs : List AV), resultsA P H fr l = some vs →
    ∃ us, (l.mapM (resOf a.tmps)).run P w = .ok us w ∧ VRs ρ μ vs us
  | [], vs, h => by simp [resultsA] at h; subst h; exact ⟨[], rfl, .nil⟩
  | r :: l, vs, h => by
    unfold resultsA at h
    split at h
    · rename_i v vs' h1 h2
      simp at h; subst h
      obtain ⟨us, hus, huv⟩ := results_fine hr hf l vs' h2
      cases r with
      | tmp t =>
        have hv := ev_VR (x := .tmp t) (show ev fr (.tmp t) = some v from h1) hf
        refine ⟨a.tmps.getD t undef :: us, ?_, .cons hv huv⟩
        simp [List.mapM_cons, resOf, hus]
      | cell x t =>
        simp only at h1
        obtain ⟨p, hp, hl⟩ := Option.bind_eq_some_iff.1 h1
        have hx := ev_VR (x := .tmp x) (show ev fr (.tmp x) = some p from hp) hf
        obtain ⟨ad, u, had, hrun, hu⟩ := load_run hr hl hx
        have had' : a.tmps.getD x undef = .pointer (some ad) := had
        refine ⟨u :: us, ?_, .cons hu huv⟩
        simp [List.mapM_cons, resOf, had', asAddr, hrun, hus]
    · cases h
end
end Go.Proofs.Ythioggjaccpfgaa.Ax
