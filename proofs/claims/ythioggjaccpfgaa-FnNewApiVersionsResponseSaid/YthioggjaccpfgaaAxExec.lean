/-
  THE ABSTRACT MACHINE: what it computes of a function's call, the program's call computes.
-/
import Derived.Test.YthioggjaccpfgaaAxOps4
import Derived.Test.YthioggjaccpfgaaAxDraw
namespace Go.Proofs.Ythioggjaccpfgaa.Ax
open Go Go.RowKit

section
variable {P : Program} {ρ : Nat → Value} {base : Nat} {μ : List Loc} {H : Heap} {w : World} {fr : List AV} {a : Act}

theorem wp_of_fine {o : Oper} {K : Act → World → Prop} {Q : Exit → Act → World → Prop} {v : AV} {H' : Heap} {s : Sem Value} (he : execOp a.eval o = (do pure (.value (← s)))) (hf : Fine P ρ base μ w v H' (s.run P w))
    (hK : ∀ v' w' μ', Ext μ μ' → VR ρ μ' v v' → HR P ρ base μ' H' w' → Below base w w' → K (a.put o.dst v') w') : o.wp P a w K Q := by
  obtain ⟨v', w', μ', hrun, h1, h2, h3, h4⟩ := hf
  unfold Oper.wp
  rw [he]
  simp only [Sem.run_bind, hrun, Result.andThen_ok, Sem.run_pure]
  exact hK v' w' μ' h1 h2 h3 h4

theorem parts_arr (a : Act) (parts : Array (Nat × Operand)) : (parts.toList.map fun (i, x) => (i, a.eval x)).toArray = parts.map fun (i, x) => (i, a.eval x) := by apply Array.ext'; simp

theorem exec_builtin {o : Oper} {b : Builtin} {args : Array Operand} {argTypes : Array TypeId} (hop : o.op = .call { callee := .builtin b, args, argTypes }) {vs : Array Value} (hv : args.map a.eval = vs) {s : Sem Value}
    (hs : ∀ consts, builtin b argTypes o.type consts vs = (do pure (.value (← s)))) : execOp a.eval o = (do pure (.value (← s))) := by
  unfold execOp
  rw [hop]
  simp only [resolve, hv]
  exact hs _

theorem opA_wp (hρ : ∀ j, (ρ j).oneCell' = true) (hr : HR P ρ base μ H w) (hf : FR ρ μ fr a.tmps) {o : Oper} {v : AV} {H' : Heap} (h : opA P o.op fr H = some (v, H')) {K : Act → World → Prop} {Q : Exit → Act → World → Prop}
    (hK : ∀ v' w' μ', Ext μ μ' → VR ρ μ' v v' → HR P ρ base μ' H' w' → Below base w w' → K (a.put o.dst v') w') : o.wp P a w K Q := by
  have pu : ∀ {r : Option AV} {s : Sem Value}, (r.map fun v => (v, H)) = some (v, H') → execOp a.eval o = (do pure (.value (← s))) → (∀ v, r = some v → Fine P ρ base μ w v H (s.run P w)) → o.wp P a w K Q := by
    intro r s hr1 he hs
    obtain ⟨v0, rfl, hh⟩ := Option.map_eq_some_iff.1 hr1
    simp at hh
    obtain ⟨rfl, rfl⟩ := hh
    exact wp_of_fine he (hs _ rfl) hK
  unfold opA at h
  generalize hop : o.op = op at h
  cases op with
  | move x =>
    exact pu h (s := pure (a.eval x)) (by unfold execOp; rw [hop]; rfl) fun v hv => fine_pure hr (ev_VR hv hf)
  | assign x =>
    exact pu h (s := pure (a.eval x)) (by unfold execOp; rw [hop]; rfl) fun v hv => fine_pure hr (ev_VR hv hf)
  | pick c x y =>
    simp only at h
    have he : ∀ b, a.eval c = .bool b → execOp a.eval o = (do pure (.value (if b then a.eval x else a.eval y))) := by
      intro b hb; unfold execOp; rw [hop]; simp only [hb]; rfl
    split at h
    · rename_i hc
      have hb := ev_VR hc hf
      generalize hcv : a.eval c = cv at hb
      cases hb
      exact pu h (s := pure (a.eval x)) (by rw [he _ hcv]; rfl) fun v hv => fine_pure hr (ev_VR hv hf)
    · rename_i hc
      have hb := ev_VR hc hf
      generalize hcv : a.eval c = cv at hb
      cases hb
      exact pu h (s := pure (a.eval y)) (by rw [he _ hcv]; rfl) fun v hv => fine_pure hr (ev_VR hv hf)
    · cases h
  | alloc e =>
    obtain ⟨z, hz, h⟩ := Option.bind_eq_some_iff.1 h
    obtain ⟨⟨i, H1⟩, hn, hh⟩ := Option.map_eq_some_iff.1 h
    simp at hh
    obtain ⟨rfl, rfl⟩ := hh
    obtain ⟨zv, hzr, hzv, _⟩ := run_zeroA hz
    refine wp_of_fine (s := Instr.alloc e true (.tuple #[])) (by unfold execOp; rw [hop]) ?_ hK
    have hzc := (ofV_VR (ρ := ρ) (μ := μ) hzv).cells hρ (newBlk_some hn).2.2
    obtain ⟨μ', hext, hloc, hr', hbel⟩ := fine_new hr (kn := .vr) rfl hn hzc [] 0 (by simp) false (by simp)
    refine ⟨.pointer (some ⟨w.heap.size, 0, none⟩), _, μ', ?_, hext, .p hloc, hr', hbel⟩
    simp [Instr.alloc, hzr, newVar, newRow]
  | box e x =>
    obtain ⟨z, hz, h⟩ := Option.bind_eq_some_iff.1 h
    obtain ⟨⟨i, H1⟩, hn, hh⟩ := Option.map_eq_some_iff.1 h
    simp at hh
    obtain ⟨rfl, rfl⟩ := hh
    refine wp_of_fine (s := Instr.box e (a.eval x)) (by unfold execOp; rw [hop]) ?_ hK
    have hzc := (ev_VR hz hf).cells hρ (newBlk_some hn).2.2
    obtain ⟨μ', hext, hloc, hr', hbel⟩ := fine_new hr (kn := .vr) rfl hn hzc [] 0 (by simp) false (by simp)
    refine ⟨.pointer (some ⟨w.heap.size, 0, none⟩), _, μ', ?_, hext, .p hloc, hr', hbel⟩
    simp [Instr.box, newVar, newRow]
  | build t parts =>
    obtain ⟨ps, hps, h⟩ := Option.bind_eq_some_iff.1 h
    refine pu h (s := Instr.build t (parts.map fun (i, x) => (i, a.eval x))) (by unfold execOp; rw [hop]) fun v hv => ?_
    have := build_fine hρ hr (evs_PR hf hps) hv
    rwa [parts_arr] at this
  | buildSlice t len parts =>
    obtain ⟨ps, hps, h⟩ := Option.bind_eq_some_iff.1 h
    refine wp_of_fine (s := Instr.buildSlice t len (parts.map fun (i, x) => (i, a.eval x))) (by unfold execOp; rw [hop]) ?_ hK
    have := buildSlice_fine hρ hr (evs_PR hf hps) h
    rwa [parts_arr] at this
  | load t x =>
    obtain ⟨p, hp, h⟩ := Option.bind_eq_some_iff.1 h
    exact pu h (s := Instr.loadAt t (a.eval x)) (by unfold execOp; rw [hop]) fun v hv => load_fine hr hv (ev_VR hp hf)
  | store t x y =>
    obtain ⟨p, hp, h⟩ := Option.bind_eq_some_iff.1 h
    obtain ⟨q, hq, h⟩ := Option.bind_eq_some_iff.1 h
    obtain ⟨H1, hs, hh⟩ := Option.map_eq_some_iff.1 h
    simp at hh
    obtain ⟨rfl, rfl⟩ := hh
    obtain ⟨w', hrun, hr', hbel⟩ := store_fine hρ hr hs (ev_VR hp hf) (ev_VR hq hf)
    unfold Oper.wp execOp
    rw [hop]
    simp only [Sem.run_bind, hrun, Result.andThen_ok, Sem.run_pure]
    exact hK undef w' μ (Ext.refl _) (.u _) hr' hbel
  | nilCheck x =>
    obtain ⟨p, hp, h⟩ := Option.bind_eq_some_iff.1 h
    have hx := ev_VR hp hf
    obtain ⟨v0, hv0, hh⟩ := Option.map_eq_some_iff.1 h
    simp at hh
    obtain ⟨rfl, rfl⟩ := hh
    unfold nilCheckA at hv0
    split at hv0
    · simp at hv0; subst hv0
      generalize hxv : a.eval x = xv at hx
      cases hx with
      | p hl =>
        refine wp_of_fine (s := pure (.pointer (some ⟨_, _, none⟩))) (by unfold execOp; rw [hop]; simp only [hxv]; rfl) (fine_pure hr (.p hl)) hK
    · cases hv0
  | binOp op t x y yt =>
    obtain ⟨p, hp, h⟩ := Option.bind_eq_some_iff.1 h
    obtain ⟨q, hq, h⟩ := Option.bind_eq_some_iff.1 h
    exact pu h (s := do eqGuard op t x y (a.eval x) (a.eval y); binOp op t (a.eval x) (a.eval y)) (by unfold execOp; rw [hop]) fun v hv => bin_fine hr hv (ev_VR hp hf) (ev_VR hq hf)
  | unOp op t x =>
    obtain ⟨p, hp, h⟩ := Option.bind_eq_some_iff.1 h
    exact pu h (s := Op.unary op (a.eval x)) (by unfold execOp; rw [hop]) fun v hv => un_fine hr hv (ev_VR hp hf)
  | convert s t x =>
    obtain ⟨p, hp, h⟩ := Option.bind_eq_some_iff.1 h
    exact pu h (s := convert s t (a.eval x)) (by unfold execOp; rw [hop]) fun v hv => by
      split at hv
      · rename_i hc
        simp at hv; subst hv
        exact conv_fine hr hc (ev_VR hp hf)
      · exact strA_fine hr hv (ev_VR hp hf)
  | makeSlice t l c =>
    obtain ⟨p, hp, h⟩ := Option.bind_eq_some_iff.1 h
    obtain ⟨q, hq, h⟩ := Option.bind_eq_some_iff.1 h
    exact wp_of_fine (s := Instr.makeSlice t (a.eval l) (a.eval c)) (by unfold execOp; rw [hop]) (makeSlice_fine hρ hr h (ev_VR hp hf) (ev_VR hq hf)) hK
  | slice t x lo hi mx =>
    cases mx with
    | some m =>
      cases lo with
      | some _ => simp at h
      | none =>
        cases hi with
        | none => simp at h
        | some hh =>
          simp only at h
          obtain ⟨p, hp, h⟩ := Option.bind_eq_some_iff.1 h
          obtain ⟨q, hq, h⟩ := Option.bind_eq_some_iff.1 h
          obtain ⟨r, hrr, h⟩ := Option.bind_eq_some_iff.1 h
          exact pu h (s := Instr.sliceAt t (a.eval x) none (some (a.eval hh)) (some (a.eval m))) (by unfold execOp; rw [hop]; rfl) fun v hv => sliceMax_fine hr hv (ev_VR hp hf) (ev_VR hq hf) (ev_VR hrr hf)
    | none =>
      simp only at h
      obtain ⟨p, hp, h⟩ := Option.bind_eq_some_iff.1 h
      have hx := ev_VR hp hf
      cases lo with
      | some l =>
        cases hi with
        | some r => simp at h
        | none =>
          simp only at h
          obtain ⟨q, hq, h⟩ := Option.bind_eq_some_iff.1 h
          refine pu h (s := Instr.sliceAt t (a.eval x) (some (a.eval l)) none none) (by unfold execOp; rw [hop]; rfl) fun v hv => ?_
          exact slice_fine hr hv hx (fun l' e => by cases e; exact ⟨_, rfl, ev_VR hq hf⟩) (fun e => by cases e) (fun l' e => by cases e) (fun _ => rfl)
      | none =>
        cases hi with
        | some r =>
          simp only at h
          obtain ⟨q, hq, h⟩ := Option.bind_eq_some_iff.1 h
          refine pu h (s := Instr.sliceAt t (a.eval x) none (some (a.eval r)) none) (by unfold execOp; rw [hop]; rfl) fun v hv => ?_
          exact slice_fine hr hv hx (fun l' e => by cases e) (fun _ => rfl) (fun l' e => by cases e; exact ⟨_, rfl, ev_VR hq hf⟩) (fun e => by cases e)
        | none =>
          simp only at h
          exact pu h (s := Instr.sliceAt t (a.eval x) none none none) (by unfold execOp; rw [hop]; rfl) fun v hv => sliceArr_fine hr hv hx
  | fieldAddr t x k =>
    obtain ⟨p, hp, h⟩ := Option.bind_eq_some_iff.1 h
    exact pu h (s := Instr.fieldAt t (a.eval x) k) (by unfold execOp; rw [hop]) fun v hv => fieldAddr_fine hr hv (ev_VR hp hf)
  | field t x k =>
    obtain ⟨p, hp, h⟩ := Option.bind_eq_some_iff.1 h
    exact pu h (s := Instr.field t (a.eval x) k) (by unfold execOp; rw [hop]) fun v hv => field_fine hr hv (ev_VR hp hf)
  | indexAddr t x k =>
    obtain ⟨p, hp, h⟩ := Option.bind_eq_some_iff.1 h
    obtain ⟨q, hq, h⟩ := Option.bind_eq_some_iff.1 h
    exact pu h (s := Instr.indexAt t (a.eval x) (a.eval k)) (by unfold execOp; rw [hop]) fun v hv => indexAddr_fine hr hv (ev_VR hp hf) (ev_VR hq hf)
  | index t x k =>
    obtain ⟨p, hp, h⟩ := Option.bind_eq_some_iff.1 h
    obtain ⟨q, hq, h⟩ := Option.bind_eq_some_iff.1 h
    exact pu h (s := Instr.index t (a.eval x) (a.eval k)) (by unfold execOp; rw [hop]) fun v hv => index_fine hr hv (ev_VR hp hf) (ev_VR hq hf)
  | extract x k =>
    simp only at h
    split at h
    · rename_i vs hp
      have hx := ev_VR hp hf
      generalize hxv : a.eval x = xv at hx
      cases hx with
      | t hl hh =>
        rename_i us
        refine pu h (s := Instr.extract (.tuple us.toArray) k) (by unfold execOp; rw [hop]; simp only [hxv]) fun v hv => ?_
        obtain ⟨u, hu, huv⟩ := (show VRs ρ μ vs us from ⟨hl, hh⟩).at hv
        have : (Instr.extract (.tuple us.toArray) k).run P w = .ok u w := by simp [Instr.extract, hu]
        rw [this]
        exact fine_pure hr huv
    · cases h
  | makeFunc fn first caps =>
    cases fn with
    | func f =>
      simp only at h
      split at h
      · rename_i h0
        obtain ⟨cs, hcs, h⟩ := Option.bind_eq_some_iff.1 h
        have hv := evl_VRs hf hcs
        refine pu h (s := Instr.makeFunc (.func f) (first.map a.eval) (caps.map a.eval)) (by unfold execOp; rw [hop]) fun v hv' => ?_
        split at hv'
        · simp at hv'; subst hv'
          have e1 : first.map a.eval = #[] := by
            have : first = #[] := Array.eq_empty_of_size_eq_zero h0
            rw [this, Array.map_empty]
          have e2 : caps.map a.eval = (caps.toList.map a.eval).toArray := by apply Array.ext'; rw [Array.toList_map]
          rw [e1, e2]
          exact fine_pure hr (.fn hv.1 hv.2)
        · cases hv'
      · cases h
    | _ => simp at h
  | call c =>
    obtain ⟨callee, args, argTypes⟩ := c
    cases callee with
    | builtin b =>
      simp only at h
      have hargs : ∀ l, args.toList = l → args = l.toArray := fun l e => by rw [← e]
      split at h
      · rename_i x t hx1 hx2
        obtain ⟨p, hp, h⟩ := Option.bind_eq_some_iff.1 h
        refine pu h (s := Builtin.len_ #[t] o.type #[a.eval x]) (exec_builtin hop (vs := #[a.eval x]) (by rw [hargs _ hx1]; simp) fun consts => by
          have : argTypes = #[t] := by rw [← Array.toArray_toList (xs := argTypes), hx2]
          rw [this]; rfl) fun v hv => len_fine hr hv (ev_VR hp hf)
      · rename_i x y hx1
        obtain ⟨p, hp, h⟩ := Option.bind_eq_some_iff.1 h
        obtain ⟨q, hq, h⟩ := Option.bind_eq_some_iff.1 h
        refine pu h (s := Builtin.max_ argTypes o.type #[a.eval x, a.eval y]) (exec_builtin hop (vs := #[a.eval x, a.eval y]) (by rw [hargs _ hx1]; simp) fun consts => rfl) fun v hv => max_fine hr hv (ev_VR hp hf) (ev_VR hq hf)
      · rename_i x y hx1
        obtain ⟨p, hp, h⟩ := Option.bind_eq_some_iff.1 h
        obtain ⟨q, hq, h⟩ := Option.bind_eq_some_iff.1 h
        refine pu h (s := Builtin.min_ argTypes o.type #[a.eval x, a.eval y]) (exec_builtin hop (vs := #[a.eval x, a.eval y]) (by rw [hargs _ hx1]; simp) fun consts => rfl) fun v hv => min_fine hr hv (ev_VR hp hf) (ev_VR hq hf)
      · rename_i s x t1 t2 hx1 hx2
        obtain ⟨p, hp, h⟩ := Option.bind_eq_some_iff.1 h
        obtain ⟨q, hq, h⟩ := Option.bind_eq_some_iff.1 h
        have he : execOp a.eval o = (do pure (.value (← Builtin.append_ #[t1, t2] o.type #[a.eval s, a.eval x]))) := by
          refine exec_builtin hop (vs := #[a.eval s, a.eval x]) (by rw [hargs _ hx1]; simp) fun consts => ?_
          have : argTypes = #[t1, t2] := by rw [← Array.toArray_toList (xs := argTypes), hx2]
          rw [this]; rfl
        split at h
        · rename_i hu
          exact wp_of_fine he (append_fine hρ hr h (.inl hu) (fun _ => rfl) (ev_VR hp hf) (ev_VR hq hf)) hK
        · rename_i e' hu
          split at h
          · rename_i e12
            obtain ⟨e12, hns⟩ := e12
            have h3 := h
            subst e12
            refine wp_of_fine he (append_fine hρ hr h3 (.inr ⟨_, hu⟩) (fun hb => ?_) (ev_VR hp hf) (ev_VR hq hf)) hK
            obtain ⟨bs, rfl⟩ := hb
            cases hns
          · cases h
        · rename_i k0 hu
          exact wp_of_fine he (appendZ_fine hρ hr h hu (ev_VR hp hf) (ev_VR hq hf)) hK
        · cases h
      · rename_i d x t1 t2 hx1 hx2
        obtain ⟨p, hp, h⟩ := Option.bind_eq_some_iff.1 h
        obtain ⟨q, hq, h⟩ := Option.bind_eq_some_iff.1 h
        have he : execOp a.eval o = (do pure (.value (← Builtin.copy_ #[t1, t2] o.type #[a.eval d, a.eval x]))) := by
          refine exec_builtin hop (vs := #[a.eval d, a.eval x]) (by rw [hargs _ hx1]; simp) fun consts => ?_
          have : argTypes = #[t1, t2] := by rw [← Array.toArray_toList (xs := argTypes), hx2]
          rw [this]; rfl
        exact wp_of_fine he (copy_fine hρ hr h (ev_VR hp hf) (ev_VR hq hf)) hK
      · cases h
    | _ => simp at h
  | _ => simp at h
end
end Go.Proofs.Ythioggjaccpfgaa.Ax
