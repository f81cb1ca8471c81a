/-
  THE ABSTRACT MACHINE: one operation that is no call of a Go function. What the machine computes, the program's operation computes.
-/
import Derived.Test.YthioggjaccpfgaaAxRel
namespace Go.Proofs.Ythioggjaccpfgaa.Ax
open Go Go.RowKit

section facts
variable {P : Program} (w : World)
theorem run_sizeA {t : TypeId} {s : Nat} (h : sizeA P t = some s) : (sizeOf t).run P w = .ok s w := by
  unfold sizeA at h
  cases hi : P.info? t with
  | none => simp [hi] at h
  | some i => simp [hi] at h; simp [sizeOf, typeInfo, hi, h]
theorem run_aggA {t : TypeId} {b : Bool} (h : aggA P t = some b) : (isAgg t).run P w = .ok b w := by
  unfold aggA at h
  cases hu : P.underlying t with
  | none => simp [hu] at h
  | some d =>
    unfold isAgg
    simp only [Sem.run_bind, run_underlying hu, Result.andThen_ok]
    cases d <;> simp [hu] at h <;> subst h <;> rfl
theorem run_zeroA {t : TypeId} {z : AV} (h : zeroA P t = some z) : ∃ v, (∀ w : World, (zeroValue t).run P w = .ok v w) ∧ ofV v = some z ∧ ((P.info? t).bind (·.zero)) = some v := by
  unfold zeroA at h
  cases hz : (P.info? t).bind (·.zero) with
  | none => simp [hz] at h
  | some v =>
    simp [hz] at h
    refine ⟨v, fun w => ?_, h, rfl⟩
    cases hi : P.info? t with
    | none => simp [hi] at hz
    | some i => simp [hi] at hz; simp [zeroValue, typeInfo, hi, hz]
theorem run_elemA {t e : TypeId} (h : elemA P t = some e) : P.underlying t = some (.slice e) := by
  unfold elemA at h
  split at h
  · rename_i e' hu; simp at h; subst h; exact hu
  · cases h
theorem cellsOf_sizeA {t : TypeId} {s : Nat} (h : sizeA P t = some s) : P.cellsOf t = s := by
  unfold sizeA at h
  unfold Program.cellsOf
  rw [h]; rfl
theorem add_at (b o n : Nat) : (⟨b, o, none⟩ : Addr).add n = ⟨b, o + n, none⟩ := by unfold Addr.add; split <;> simp_all
end facts

/-- What is wanted of a step: it ends with a value that the abstract one stands for, in a world that the abstract heap stands for. -/
def Fine (P : Program) (ρ : Nat → Value) (base : Nat) (μ : List Loc) (w : World) (v : AV) (H' : Heap) (r : Result Value) : Prop :=
  ∃ v' w' μ', r = .ok v' w' ∧ Ext μ μ' ∧ VR ρ μ' v v' ∧ HR P ρ base μ' H' w' ∧ Below base w w'

section
variable {P : Program} {ρ : Nat → Value} {base : Nat} {μ : List Loc} {H : Heap} {w : World} {fr : List AV} {a : Act}

theorem fine_pure {v : AV} {v' : Value} (hr : HR P ρ base μ H w) (hv : VR ρ μ v v') : Fine P ρ base μ w v H (.ok v' w) := ⟨v', w, μ, rfl, Ext.refl _, hv, hr, Below.refl _ _⟩

theorem newBlk_some {ty : TypeId} {kn : Kn} {cs : List AV} {i : Nat} {H' : Heap} (h : newBlk H ty kn cs = some (i, H')) : i = H.length ∧ H' = H ++ [.cells ty kn cs] ∧ cs.all AV.one = true := by
  unfold newBlk at h
  split at h
  · rename_i h1; simp at h; exact ⟨h.1.symm, h.2.symm, h1⟩
  · cases h

theorem fine_new (hr : HR P ρ base μ H w) {ty : TypeId} {kn : Kn} (hk : kn.own = true) {cs : List AV} {i : Nat} {H' : Heap} (h : newBlk H ty kn cs = some (i, H')) {vs : List Value} (hv : VRs ρ μ cs vs) (more : List Value) (cap : Nat) (hc : cap * P.cellsOf ty ≤ vs.length + more.length) (row : Bool) (hrow : row = true ↔ kn = .row) :
    ∃ μ', Ext μ μ' ∧ μ'[i]? = some ⟨w.heap.size, cap, row⟩ ∧ HR P ρ base μ' H' (w.alloc (.cells (vs ++ more).toArray ty)) ∧ Below base w (w.alloc (.cells (vs ++ more).toArray ty)) := by
  obtain ⟨rfl, rfl, h1⟩ := newBlk_some h
  exact ⟨_, Ext.append _ _, by rw [← hr.len]; simp, hr.alloc ty hk h1 hv cap hc row hrow, (Below.refl _ _).alloc hr.base_le _⟩

theorem loadAt_run (hr : HR P ρ base μ H w) {t : TypeId} {i o : Nat} {v : AV} {l : Loc} (h : loadAt P H t i o = some v) (hl : μ[i]? = some l) : ∃ v', (loadVar t ⟨l.b, o, none⟩).run P w = .ok v' w ∧ VR ρ μ v v' := by
  unfold loadAt at h
  split at h
  · rename_i ty kn cs sz hb ha hs
    split at h
    · rename_i hle
      simp at h; subst h
      obtain ⟨vs, hvl, hvs, _, hc⟩ := (hr.live i ty kn cs l hb hl).part hle
      have hld := run_loadCells_list (P := P) w ⟨l.b, o, none⟩ vs hc
      rw [hvl] at hld
      have : (loadVar t ⟨l.b, o, none⟩).run P w = .ok (.agg vs.toArray) w := by
        simp [loadVar, run_aggA w ha, run_sizeA w hs, hld]
      exact ⟨_, this, .g hvs.1 hvs.2⟩
    · cases h
  · rename_i _ ty kn cs hb ha
    have hlt := (List.getElem?_eq_some_iff.1 h).1
    obtain ⟨vs, hvl, hvs, _, hc⟩ := (hr.live i ty kn cs l hb hl).part (o := o) (n := 1) (by omega)
    have h0 : ((cs.drop o).take 1)[0]? = some v := by rw [List.getElem?_take, if_pos (by omega), List.getElem?_drop]; exact h
    obtain ⟨u, hu, huv⟩ := hvs.at h0
    have hcell := hc 0 u hu
    rw [add_at] at hcell
    have : (loadVar t ⟨l.b, o, none⟩).run P w = .ok u w := by
      simp at hcell
      simp [loadVar, run_aggA w ha, hcell]
    exact ⟨_, this, huv⟩
  · cases h

theorem isRo_some {i : Nat} (h : isRo H i = true) : ∃ ty cs, H[i]? = some (.cells ty .ro cs) := by
  unfold isRo at h
  split at h
  · rename_i ty cs hb; exact ⟨ty, cs, hb⟩
  · cases h

theorem load_run (hr : HR P ρ base μ H w) {t : TypeId} {x v : AV} {x' : Value} (h : loadA P H t x = some v) (hx : VR ρ μ x x') : ∃ ad v', x' = .pointer (some ad) ∧ (loadVar t ad).run P w = .ok v' w ∧ VR ρ μ v v' := by
  unfold loadA at h
  split at h
  · rename_i i o
    cases hx with
    | p hl =>
      rename_i l
      obtain ⟨v', h1, h2⟩ := loadAt_run hr h hl
      exact ⟨_, v', rfl, h1, h2⟩
  · rename_i g
    cases hx
    split at h
    · rename_i hg
      obtain ⟨ty, cs, hb⟩ := isRo_some hg
      obtain ⟨l, hl⟩ := hr.loc hb
      have hlb := hr.same g ty .ro cs l hb rfl hl
      obtain ⟨v', h1, h2⟩ := loadAt_run hr h hl
      rw [hlb] at h1
      exact ⟨_, v', rfl, h1, h2⟩
    · cases h
  · cases h

theorem load_fine (hr : HR P ρ base μ H w) {t : TypeId} {x v : AV} {x' : Value} (h : loadA P H t x = some v) (hx : VR ρ μ x x') : Fine P ρ base μ w v H ((Instr.loadAt t x').run P w) := by
  obtain ⟨ad, v', rfl, hrun, hv⟩ := load_run hr h hx
  have : (Instr.loadAt t (.pointer (some ad))).run P w = .ok v' w := by simp [Instr.loadAt, Instr.sureAddr, hrun]
  rw [this]
  exact fine_pure hr hv

theorem over_all {cs new : List AV} {o : Nat} (h1 : cs.all AV.one = true) (h2 : new.all AV.one = true) : (over cs new o).all AV.one = true := by
  rw [List.all_eq_true] at *
  intro x hx
  unfold over at hx
  rw [List.mem_append, List.mem_append] at hx
  rcases hx with (hx | hx) | hx
  · exact h1 x (List.mem_of_mem_take hx)
  · exact h2 x hx
  · exact h1 x (List.mem_of_mem_drop hx)
theorem over_length {cs new : List AV} {o : Nat} (h : o + new.length ≤ cs.length) : (over cs new o).length = cs.length := by
  unfold over; simp; omega

/-- Cells stored into a block of one's own. -/
theorem put_row (hρ : ∀ j, (ρ j).oneCell' = true) (hr : HR P ρ base μ H w) {i : Nat} {ty : TypeId} {kn : Kn} (hk : kn.own = true) {cs : List AV} {l : Loc} (hb : H[i]? = some (.cells ty kn cs)) (hl : μ[i]? = some l) {new : List AV} {o : Nat} (ho : o + new.length ≤ cs.length)
    (h1 : new.all AV.one = true) {vs : List Value} (hv : VRs ρ μ new vs) :
    ∃ w', (storeCells ⟨l.b, o, none⟩ vs).run P w = .ok () w' ∧ HR P ρ base μ (H.set i (.cells ty kn (over cs new o))) w' ∧ Below base w w' := by
  obtain ⟨cur, fz, hbl, hro, _, _, hle, hone, hvs⟩ := hr.live i ty kn cs l hb hl
  obtain ⟨hbase, rfl, hcap⟩ := hro hk
  have hvl := hv.1
  have hone' : ∀ u ∈ vs, u.oneCell' = true := by
    intro u hu
    obtain ⟨j, hj, rfl⟩ := List.mem_iff_getElem.1 hu
    have hj' : j < new.length := by omega
    refine (hv.2 j new[j] vs[j] (by simp [hj']) (by simp [hj])).oneCell hρ ?_
    rw [List.all_eq_true] at h1
    exact h1 _ (List.getElem_mem _)
  have hst := run_storeCells_at P l.b o ty vs 0 cur w hbl (by omega) hone'
  simp only [Nat.add_zero] at hst
  refine ⟨_, hst, ?_, ⟨rfl, rfl, rfl, by simp, fun k hk => setRow_other w l.b k _ (by omega)⟩⟩
  refine hr.setRow hk hb hl (over cs new o) _ (fun cur' hc' => ?_) (over_all hone h1)
  have : cur' = cur := by rw [hbl] at hc'; simp at hc'; exact hc'.symm
  subst this
  refine ⟨by simp; omega, by rw [over_length ho]; simp; omega, ?_⟩
  rw [over_length ho]
  have e1 : (cur'.toList.take o ++ vs ++ cur'.toList.drop (o + vs.length)).take cs.length = ((cur'.toList.take cs.length).take o) ++ vs ++ ((cur'.toList.take cs.length).drop (o + vs.length)) := by
    rw [List.take_append, List.take_append]
    have l1 : (cur'.toList.take o).length = o := by simp; omega
    have t1 : (cur'.toList.take o).take cs.length = (cur'.toList.take cs.length).take o := by rw [List.take_take, List.take_take]; congr 1; omega
    have t2 : vs.take (cs.length - (cur'.toList.take o).length) = vs := List.take_of_length_le (by omega)
    rw [t1, t2, List.drop_take]
    congr 2
    simp only [List.length_append, l1]
  rw [e1]
  unfold over
  rw [hvl]
  exact ((hvs.take o).append hv).append (hvs.drop _)

theorem store_fine (hρ : ∀ j, (ρ j).oneCell' = true) (hr : HR P ρ base μ H w) {t : TypeId} {x y : AV} {x' y' : Value} {H' : Heap} (h : storeA P H t x y = some H') (hx : VR ρ μ x x') (hy : VR ρ μ y y') :
    ∃ w', (Instr.storeAt t x' y').run P w = .ok () w' ∧ HR P ρ base μ H' w' ∧ Below base w w' := by
  unfold storeA at h
  split at h
  · rename_i i o
    cases hx with
    | p hl =>
      rename_i l
      split at h
      · rename_i ty kn cs sz hb hs
        split at h
        · rename_i hc
          obtain ⟨hc0, hc1, hc2, hc3⟩ := hc
          simp at h; subst h
          have hyv := hy.cells hρ hc3
          obtain ⟨w', hrun, hr', hbel⟩ := put_row hρ hr hc0 hb hl (o := o) (by omega) hc3 hyv
          refine ⟨w', ?_, hr', hbel⟩
          have hsz : y'.cells.size = sz := by have := hyv.1; simp at this; omega
          simp [Instr.storeAt, Instr.sureAddr, storeVar, run_sizeA w hs, hsz, hrun]
        · cases h
      · cases h
  · cases h

/-- Parts, the same place by place. -/
inductive PR (ρ : Nat → Value) (μ : List Loc) : List (Nat × AV) → List (Nat × Value) → Prop
  | nil : PR ρ μ [] []
  | cons {i : Nat} {x : AV} {v : Value} {r : List (Nat × AV)} {s : List (Nat × Value)} (h : VR ρ μ x v) (t : PR ρ μ r s) : PR ρ μ ((i, x) :: r) ((i, v) :: s)

theorem seg_over (off : Nat) : ∀ (vs : List Value) (k : Nat) (cells : Array Value), off + k + vs.length ≤ cells.size →
    (vs.zipIdx k).foldl (fun (cs : Array Value) (c, j) => cs.setIfInBounds (off + j) c) cells = (cells.toList.take (off + k) ++ vs ++ cells.toList.drop (off + k + vs.length)).toArray
  | [], k, cells, _ => by simp
  | v :: vs, k, cells, h => by
    simp only [List.length_cons] at h
    simp only [List.zipIdx_cons, List.foldl_cons]
    rw [seg_over off vs (k + 1) (cells.setIfInBounds (off + k) v) (by simp; omega)]
    have e := list_seg_step cells.toList (off + k) v vs (by simp; omega)
    apply Array.ext'
    simp only [Array.toList_setIfInBounds, List.length_cons]
    simpa [Nat.add_assoc] using e

theorem over_VRs {cs new : List AV} {vs us : List Value} (h : VRs ρ μ cs vs) (k : VRs ρ μ new us) (o : Nat) : VRs ρ μ (over cs new o) (vs.take o ++ us ++ vs.drop (o + us.length)) := by
  unfold over
  rw [k.1]
  exact ((h.take o).append k).append (h.drop _)

theorem fill_fine (hρ : ∀ j, (ρ j).oneCell' = true) {place place' : Nat → Option (Nat × Nat)} (hp : ∀ i s, place i = some s → place' i = some s) {parts : List (Nat × AV)} {parts' : List (Nat × Value)} (hps : PR ρ μ parts parts') :
    ∀ (cs : List AV) (vs : List Value) (out : List AV), fillA place cs parts = some out → VRs ρ μ cs vs → cs.all AV.one = true →
    ∃ vs', Instr.fill place' vs.toArray parts' = some vs'.toArray ∧ VRs ρ μ out vs' ∧ out.all AV.one = true := by
  induction hps with
  | nil =>
    intro cs vs out h hv h1
    simp [fillA] at h
    subst h
    exact ⟨vs, rfl, hv, h1⟩
  | @cons i x v r s hx _ ih =>
    intro cs vs out h hv h1
    unfold fillA at h
    split at h
    · rename_i off size hpl
      split at h
      · rename_i hc
        obtain ⟨c1, c2, c3⟩ := hc
        have hxc := hx.cells hρ c3
        have hsz : v.cells.size = size := by have := hxc.1; simp at this; omega
        have hvl := hv.1
        have hseg := seg_over off v.cells.toList 0 vs.toArray (by simp; omega)
        obtain ⟨vs', hf, hv', h1'⟩ := ih (over cs x.cells off) (vs.take off ++ v.cells.toList ++ vs.drop (off + v.cells.toList.length)) out h (over_VRs hv hxc off) (over_all h1 c3)
        refine ⟨vs', ?_, hv', h1'⟩
        unfold Instr.fill
        rw [hp _ _ hpl]
        simp only [Nat.add_zero] at hseg
        simp only
        rw [if_neg (by simp; omega), ← hf]
        congr 1
        rw [← Array.foldl_toList, Array.toList_zipIdx, hseg]
      · cases h
    · cases h
end
end Go.Proofs.Ythioggjaccpfgaa.Ax
