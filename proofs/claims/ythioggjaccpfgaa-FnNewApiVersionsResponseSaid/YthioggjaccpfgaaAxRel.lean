/-
  THE ABSTRACT MACHINE: how its values, its heap and its frame stand to the program's.
-/
import Derived.Test.YthioggjaccpfgaaAxDef
namespace Go.Proofs.Ythioggjaccpfgaa.Ax
open Go Go.RowKit

/-- Where an abstract block lies: the block, and how many elements it has room for. -/
structure Loc where
  b : Nat
  cap : Nat
  row : Bool

inductive VR (ρ : Nat → Value) (μ : List Loc) : AV → Value → Prop
  | u (v : Value) : VR ρ μ .u v
  | k (j : Nat) : VR ρ μ (.k j) (ρ j)
  | b (x : Bool) : VR ρ μ (.b x) (.bool x)
  | i (kd : IntKind) (n : Int) : VR ρ μ (.i kd n) (.int kd n)
  | f (kd : FloatKind) (x : Nat) : VR ρ μ (.f kd x) (.float kd x)
  | s (x : ByteArray) : VR ρ μ (.s x) (.string x)
  | p0 : VR ρ μ .p0 (.pointer none)
  | p {i o : Nat} {l : Loc} (h : μ[i]? = some l) : VR ρ μ (.p i o) (.pointer (some ⟨l.b, o, none⟩))
  | s0 : VR ρ μ .s0 (.slice none 0 0)
  | se (a : Addr) (c : Nat) : VR ρ μ .se (.slice (some a) 0 c)
  | sl {i o n : Nat} {l : Loc} {c : Nat} (h : μ[i]? = some l) (h1 : n ≤ c) (h2 : c ≤ maxLen) (h3 : o = 0 → l.row = true → c ≤ l.cap) : VR ρ μ (.sl i o n) (.slice (some ⟨l.b, o, none⟩) n c)
  | m0 : VR ρ μ .m0 (.map none)
  | mp {i : Nat} {l : Loc} (h : μ[i]? = some l) : VR ρ μ (.mp i) (.map (some l.b))
  | n : VR ρ μ .n .nilIface
  | e (t : TypeId) (v : Value) : VR ρ μ .e (.iface t v)
  | gp (g : Nat) : VR ρ μ (.gp g) (.pointer (some ⟨g, 0, none⟩))
  | fn {f : FuncId} {caps : List AV} {vs : List Value} (hl : caps.length = vs.length) (h : ∀ (j : Nat) (x : AV) (v : Value), caps[j]? = some x → vs[j]? = some v → VR ρ μ x v) : VR ρ μ (.fn f caps) (.func (.func f) #[] vs.toArray)
  | g {cs : List AV} {vs : List Value} (hl : cs.length = vs.length) (h : ∀ (j : Nat) (x : AV) (v : Value), cs[j]? = some x → vs[j]? = some v → VR ρ μ x v) : VR ρ μ (.g cs) (.agg vs.toArray)
  | t {cs : List AV} {vs : List Value} (hl : cs.length = vs.length) (h : ∀ (j : Nat) (x : AV) (v : Value), cs[j]? = some x → vs[j]? = some v → VR ρ μ x v) : VR ρ μ (.t cs) (.tuple vs.toArray)

def VRs (ρ : Nat → Value) (μ : List Loc) (xs : List AV) (vs : List Value) : Prop := xs.length = vs.length ∧ ∀ (j : Nat) (x : AV) (v : Value), xs[j]? = some x → vs[j]? = some v → VR ρ μ x v
def Ext (μ μ' : List Loc) : Prop := ∀ (i : Nat) (l : Loc), μ[i]? = some l → μ'[i]? = some l

theorem Ext.refl (μ : List Loc) : Ext μ μ := fun _ _ h => h
theorem Ext.trans {a b c : List Loc} (h : Ext a b) (k : Ext b c) : Ext a c := fun i l x => k i l (h i l x)
theorem Ext.append (μ : List Loc) (t : List Loc) : Ext μ (μ ++ t) := fun i l h => by
  rw [List.getElem?_append_left (List.getElem?_eq_some_iff.1 h).1]; exact h

section
variable {ρ : Nat → Value} {μ μ' : List Loc}

theorem VR.mono (e : Ext μ μ') {x : AV} {v : Value} (h : VR ρ μ x v) : VR ρ μ' x v := by
  induction h with
  | u v => exact .u v
  | k j => exact .k j
  | b x => exact .b x
  | i kd n => exact .i kd n
  | f kd x => exact .f kd x
  | s x => exact .s x
  | p0 => exact .p0
  | p h => exact .p (e _ _ h)
  | s0 => exact .s0
  | se a c => exact .se a c
  | sl h h1 h2 h3 => exact .sl (e _ _ h) h1 h2 h3
  | m0 => exact .m0
  | mp h => exact .mp (e _ _ h)
  | n => exact .n
  | e t v => exact .e t v
  | gp g => exact .gp g
  | fn hl _ ih => exact .fn hl ih
  | g hl _ ih => exact .g hl ih
  | t hl _ ih => exact .t hl ih

theorem VRs.mono (e : Ext μ μ') {x : List AV} {v : List Value} (h : VRs ρ μ x v) : VRs ρ μ' x v := ⟨h.1, fun j a b p q => (h.2 j a b p q).mono e⟩
theorem VRs.nil : VRs ρ μ [] [] := ⟨rfl, fun j x v h => by simp at h⟩
theorem VRs.cons {x : AV} {v : Value} {xs : List AV} {vs : List Value} (h : VR ρ μ x v) (hs : VRs ρ μ xs vs) : VRs ρ μ (x :: xs) (v :: vs) := by
  refine ⟨by simp [hs.1], fun j a b p q => ?_⟩
  cases j with
  | zero => simp at p q; subst p; subst q; exact h
  | succ j => simp at p q; exact hs.2 j a b p q
theorem VRs.append {xs ys : List AV} {vs us : List Value} (h : VRs ρ μ xs vs) (k : VRs ρ μ ys us) : VRs ρ μ (xs ++ ys) (vs ++ us) := by
  refine ⟨by simp [h.1, k.1], fun j a b p q => ?_⟩
  rw [List.getElem?_append] at p q
  rw [← h.1] at q
  split at p
  · rename_i hj; rw [if_pos hj] at q; exact h.2 j a b p q
  · rename_i hj; rw [if_neg hj] at q; exact k.2 _ a b p q
theorem VRs.take {xs : List AV} {vs : List Value} (h : VRs ρ μ xs vs) (n : Nat) : VRs ρ μ (xs.take n) (vs.take n) := by
  refine ⟨by simp [h.1], fun j a b p q => ?_⟩
  rw [List.getElem?_take] at p q
  split at p
  · rename_i hj; rw [if_pos hj] at q; exact h.2 j a b p q
  · cases p
theorem VRs.drop {xs : List AV} {vs : List Value} (h : VRs ρ μ xs vs) (n : Nat) : VRs ρ μ (xs.drop n) (vs.drop n) := by
  refine ⟨by simp [h.1], fun j a b p q => ?_⟩
  rw [List.getElem?_drop] at p q
  exact h.2 _ a b p q
theorem VRs.at {xs : List AV} {vs : List Value} (h : VRs ρ μ xs vs) {j : Nat} {x : AV} (p : xs[j]? = some x) : ∃ v, vs[j]? = some v ∧ VR ρ μ x v := by
  have hj : j < vs.length := by have := (List.getElem?_eq_some_iff.1 p).1; have := h.1; omega
  exact ⟨vs[j], by simp [hj], h.2 j x _ p (by simp [hj])⟩
theorem VRs.replicate {x : AV} {v : Value} (h : VR ρ μ x v) (n : Nat) : VRs ρ μ (List.replicate n x) (List.replicate n v) := by
  refine ⟨by simp, fun j a b p q => ?_⟩
  simp [List.getElem?_replicate] at p q
  obtain ⟨_, rfl⟩ := p
  obtain ⟨_, rfl⟩ := q
  exact h

theorem VR.oneCell (hρ : ∀ j, (ρ j).oneCell' = true) {x : AV} {v : Value} (h : VR ρ μ x v) (h1 : x.one = true) : v.oneCell' = true := by
  cases h <;> first | rfl | exact hρ _ | simp [AV.one] at h1

theorem cells_one {v : Value} (h : v.oneCell' = true) : v.cells = #[v] := by
  cases v <;> first | rfl | simp [Value.oneCell'] at h

/-- The cells of a value that is known. -/
theorem VR.cells (hρ : ∀ j, (ρ j).oneCell' = true) {x : AV} {v : Value} (h : VR ρ μ x v) (h1 : x.cells.all AV.one = true) : VRs ρ μ x.cells v.cells.toList := by
  by_cases hx : x.one = true
  · have hc : x.cells = [x] := by cases x <;> first | rfl | simp [AV.one] at hx
    rw [hc, cells_one (h.oneCell hρ hx)]
    exact .cons h .nil
  · cases h with
    | g hl hh => exact ⟨hl, hh⟩
    | u v => simp [AV.cells, AV.one] at h1
    | t hl hh => simp [AV.cells, AV.one] at h1
    | _ => simp [AV.one] at hx

theorem ofV1_VR {v : Value} {x : AV} (h : ofV1 v = some x) : VR ρ μ x v ∧ x.one = true := by
  unfold ofV1 at h
  split at h <;> simp at h <;> subst h <;> exact ⟨by constructor, rfl⟩
theorem ofVs_VR : ∀ {vs : List Value} {xs : List AV}, ofVs vs = some xs → VRs ρ μ xs vs ∧ xs.all AV.one = true
  | [], xs, h => by simp [ofVs] at h; subst h; exact ⟨.nil, rfl⟩
  | v :: vs, xs, h => by
    unfold ofVs at h
    split at h
    · rename_i x ys h1 h2
      simp at h; subst h
      have a := ofV1_VR (ρ := ρ) (μ := μ) h1
      have b := ofVs_VR (vs := vs) h2
      exact ⟨.cons a.1 b.1, by simp [a.2, b.2]⟩
    · cases h
theorem ofV_VR {v : Value} {x : AV} (h : ofV v = some x) : VR ρ μ x v := by
  unfold ofV at h
  split at h
  · rename_i cs
    simp at h
    obtain ⟨xs, hx, rfl⟩ := h
    have a := (ofVs_VR (ρ := ρ) (μ := μ) hx).1
    exact .g (vs := cs.toList) a.1 a.2
  · rename_i cs
    simp at h
    obtain ⟨xs, hx, rfl⟩ := h
    have a := (ofVs_VR (ρ := ρ) (μ := μ) hx).1
    exact .t (vs := cs.toList) a.1 a.2
  · exact (ofV1_VR h).1
end

/-- A live block: what it holds lies where its place says. -/
def LiveAt (P : Program) (ρ : Nat → Value) (base : Nat) (μ : List Loc) (w : World) (l : Loc) (ty : TypeId) (kn : Kn) (cs : List AV) : Prop :=
  ∃ cur fz, w.heap[l.b]? = some (.cells cur ty fz) ∧ (kn.own = true → base ≤ l.b ∧ fz = (0, 0) ∧ l.cap * P.cellsOf ty ≤ cur.size) ∧ (kn.own = false → l.b < base) ∧ (l.row = true ↔ kn = .row) ∧ cs.length ≤ cur.size ∧
    cs.all AV.one = true ∧ VRs ρ μ cs (cur.toList.take cs.length)

structure HR (P : Program) (ρ : Nat → Value) (base : Nat) (μ : List Loc) (H : Heap) (w : World) : Prop where
  len : μ.length = H.length
  base_le : base ≤ w.heap.size
  live : ∀ (i : Nat) (ty : TypeId) (kn : Kn) (cs : List AV) (l : Loc), H[i]? = some (.cells ty kn cs) → μ[i]? = some l → LiveAt P ρ base μ w l ty kn cs
  same : ∀ (i : Nat) (ty : TypeId) (kn : Kn) (cs : List AV) (l : Loc), H[i]? = some (.cells ty kn cs) → kn.own = false → μ[i]? = some l → l.b = i
  inj : ∀ (i j : Nat) (ty : TypeId) (kn : Kn) (cs : List AV) (ty' : TypeId) (kn' : Kn) (cs' : List AV) (l l' : Loc), H[i]? = some (.cells ty kn cs) → kn.own = true → H[j]? = some (.cells ty' kn' cs') → kn'.own = true → μ[i]? = some l → μ[j]? = some l' → l.b = l'.b → i = j

/-- The frame. -/
def FR (ρ : Nat → Value) (μ : List Loc) (fr : List AV) (tmps : Array Value) : Prop := VRs ρ μ fr tmps.toList

section
variable {P : Program} {ρ : Nat → Value} {base : Nat} {μ μ' : List Loc} {H : Heap} {w : World} {fr : List AV} {a : Act}

theorem FR.mono (e : Ext μ μ') {fr : List AV} {t : Array Value} (h : FR ρ μ fr t) : FR ρ μ' fr t := VRs.mono e h

theorem ev_VR {x : Operand} {v : AV} (h : ev fr x = some v) (hf : FR ρ μ fr a.tmps) : VR ρ μ v (a.eval x) := by
  cases x with
  | tmp t =>
    obtain ⟨u, hu, hv⟩ := VRs.at hf (show fr[t]? = some v from h)
    simp only [Act.eval]
    rw [Array.getElem?_toList] at hu
    simp only [Array.getD_eq_getD_getElem?, hu, Option.getD_some]
    exact hv
  | const c => exact ofV_VR h
  | global g =>
    simp only [ev, Option.some.injEq] at h
    subst h
    exact .gp g
  | func f =>
    simp only [ev, Option.some.injEq] at h
    subst h
    exact .fn (vs := []) rfl (fun j x v h => by simp at h)

theorem HR.loc (h : HR P ρ base μ H w) {i : Nat} {b : Blk} (hi : H[i]? = some b) : ∃ l, μ[i]? = some l := by
  have : i < μ.length := by rw [h.len]; exact (List.getElem?_eq_some_iff.1 hi).1
  exact ⟨μ[i], by simp [this]⟩

/-- A block's cells, from place o on, so many. -/
theorem LiveAt.part {l : Loc} {ty : TypeId} {kn : Kn} {cs : List AV} (h : LiveAt P ρ base μ w l ty kn cs) {o n : Nat} (hn : o + n ≤ cs.length) :
    ∃ vs : List Value, vs.length = n ∧ VRs ρ μ ((cs.drop o).take n) vs ∧ ((cs.drop o).take n).all AV.one = true ∧ ∀ (j : Nat) (u : Value), vs[j]? = some u → w.cell? ((⟨l.b, o, none⟩ : Addr).add j) = some u := by
  obtain ⟨cur, fz, hb, _, _, _, hle, h1, hv⟩ := h
  refine ⟨((cur.toList.take cs.length).drop o).take n, by simp; omega, (hv.drop o).take n, ?_, fun j u hu => ?_⟩
  · rw [List.all_eq_true] at h1 ⊢
    exact fun x hx => h1 x (List.mem_of_mem_drop (List.mem_of_mem_take hx))
  · rw [List.getElem?_take] at hu
    split at hu
    · rename_i hj
      rw [List.getElem?_drop, List.getElem?_take, if_pos (by omega)] at hu
      have hadd : (⟨l.b, o, none⟩ : Addr).add j = ⟨l.b, o + j, none⟩ := by unfold Addr.add; split <;> simp_all
      rw [hadd, cell_of_row w l.b (o + j) cur ty fz hb]
      simpa using hu
    · cases hu

theorem LiveAt.ext (e : Ext μ μ') {w' : World} {l : Loc} {ty : TypeId} {kn : Kn} {cs : List AV} (h : LiveAt P ρ base μ w l ty kn cs) (hb : w'.heap[l.b]? = w.heap[l.b]?) : LiveAt P ρ base μ' w' l ty kn cs := by
  obtain ⟨cur, fz, h1, h2, h3, h3b, h4, h5, h6⟩ := h
  exact ⟨cur, fz, hb.trans h1, h2, h3, h3b, h4, h5, h6.mono e⟩
theorem LiveAt.lt {l : Loc} {ty : TypeId} {kn : Kn} {cs : List AV} (h : LiveAt P ρ base μ w l ty kn cs) : l.b < w.heap.size := by
  obtain ⟨cur, fz, h1, _⟩ := h
  exact (Array.getElem?_eq_some_iff.1 h1).1

theorem HR.drew (h : HR P ρ base μ H w) : HR P ρ base μ H w.drew := ⟨h.len, h.base_le, fun i ty kn cs l a b => (h.live i ty kn cs l a b).ext (Ext.refl _) rfl, h.same, h.inj⟩

/-- A heap with one block more: what stands where. -/
theorem at_last {H : Heap} {b b' : Blk} {i : Nat} (hi : (H ++ [b])[i]? = some b') : (i < H.length ∧ H[i]? = some b') ∨ (i = H.length ∧ b' = b) := by
  rw [List.getElem?_append] at hi
  split at hi
  · exact .inl ⟨by assumption, hi⟩
  · right
    have hlt : i - H.length < 1 := by have := (List.getElem?_eq_some_iff.1 hi).1; simpa using this
    have : i = H.length := by omega
    subst this
    simp at hi
    exact ⟨rfl, hi.symm⟩
theorem loc_old {μ : List Loc} {n : Nat} (hn : μ.length = n) {l l' : Loc} {i : Nat} (hi : i < n) (hl : (μ ++ [l])[i]? = some l') : μ[i]? = some l' := by
  rwa [List.getElem?_append_left (by rw [hn]; exact hi)] at hl
theorem loc_last {μ : List Loc} {n : Nat} (hn : μ.length = n) {l l' : Loc} (hl : (μ ++ [l])[n]? = some l') : l' = l := by
  rw [← hn] at hl
  simp at hl
  exact hl.symm

/-- A new block. -/
theorem HR.alloc (h : HR P ρ base μ H w) (ty : TypeId) {kn : Kn} (hk : kn.own = true) {cs : List AV} (h1 : cs.all AV.one = true) {vs more : List Value} (hv : VRs ρ μ cs vs) (cap : Nat) (hc : cap * P.cellsOf ty ≤ vs.length + more.length) (row : Bool) (hrow : row = true ↔ kn = .row) :
    HR P ρ base (μ ++ [⟨w.heap.size, cap, row⟩]) (H ++ [.cells ty kn cs]) (w.alloc (.cells (vs ++ more).toArray ty)) := by
  have hext : Ext μ (μ ++ [⟨w.heap.size, cap, row⟩]) := Ext.append _ _
  refine ⟨by simp [h.len], by have := h.base_le; simp; omega, ?_, ?_, ?_⟩
  rotate_left
  · intro i ty' kn' cs' l hi ho hl
    rcases at_last hi with ⟨hlt, hi'⟩ | ⟨rfl, hb⟩
    · exact h.same i ty' kn' cs' l hi' ho (loc_old h.len hlt hl)
    · simp only [Blk.cells.injEq] at hb
      obtain ⟨rfl, rfl, rfl⟩ := hb
      rw [hk] at ho; cases ho
  rotate_left
  · intro i ty' kn' cs' l hi hl
    rcases at_last hi with ⟨hlt, hi'⟩ | ⟨rfl, hb⟩
    · have hL := h.live i ty' kn' cs' l hi' (loc_old h.len hlt hl)
      exact hL.ext hext (heap_alloc_old w _ hL.lt)
    · obtain rfl := loc_last h.len hl
      simp only [Blk.cells.injEq] at hb
      obtain ⟨rfl, rfl, rfl⟩ := hb
      refine ⟨(vs ++ more).toArray, (0, 0), heap_alloc_new w _, fun _ => ⟨h.base_le, rfl, by simpa using hc⟩, (fun hh => by rw [hk] at hh; cases hh), hrow, by simp [hv.1], h1, ?_⟩
      have : (vs ++ more).toArray.toList.take cs'.length = vs := by rw [hv.1]; simp
      rw [this]
      exact hv.mono hext
  · intro i j t1 k1 c1 t2 k2 c2 l l' hi hi1 hj hj1 hl hl' hb
    rcases at_last hi with ⟨hlt, hi'⟩ | ⟨rfl, e1⟩ <;> rcases at_last hj with ⟨hlt', hj'⟩ | ⟨rfl, e2⟩
    · exact h.inj i j t1 k1 c1 t2 k2 c2 l l' hi' hi1 hj' hj1 (loc_old h.len hlt hl) (loc_old h.len hlt' hl') hb
    · have hL := (h.live i t1 k1 c1 l hi' (loc_old h.len hlt hl)).lt
      obtain rfl := loc_last h.len hl'
      simp at hb; omega
    · have hL := (h.live j t2 k2 c2 l' hj' (loc_old h.len hlt' hl')).lt
      obtain rfl := loc_last h.len hl
      simp at hb; omega
    · rfl

theorem set_old {H : Heap} {i j : Nat} {b b' : Blk} (hj : (H.set i b)[j]? = some b') : (j = i ∧ b' = b) ∨ (j ≠ i ∧ H[j]? = some b') := by
  rw [List.getElem?_set] at hj
  split at hj
  · rename_i e
    split at hj
    · simp at hj; exact .inl ⟨e.symm, hj.symm⟩
    · cases hj
  · rename_i hne; exact .inr ⟨fun e => hne e.symm, hj⟩

theorem HR.kill (h : HR P ρ base μ H w) (i : Nat) : HR P ρ base μ (H.set i .dead) w := by
  have hold : ∀ {j : Nat} {ty : TypeId} {kn : Kn} {cs : List AV}, (H.set i .dead)[j]? = some (Blk.cells ty kn cs) → H[j]? = some (.cells ty kn cs) := by
    intro j ty kn cs hj
    rcases set_old hj with ⟨_, e⟩ | ⟨_, e⟩
    · cases e
    · exact e
  exact ⟨by simp [h.len], h.base_le, fun j ty kn cs l hj hl => h.live j ty kn cs l (hold hj) hl, fun j ty kn cs l hj ho hl => h.same j ty kn cs l (hold hj) ho hl,
    fun a b t1 k1 c1 t2 k2 c2 l l' ha ha1 hb => h.inj a b t1 k1 c1 t2 k2 c2 l l' (hold ha) ha1 (hold hb)⟩

/-- Cells written over in a block that is the call's own. -/
theorem HR.setRow (h : HR P ρ base μ H w) {i : Nat} {ty : TypeId} {kn : Kn} (hk : kn.own = true) {cs : List AV} {l : Loc} (hi : H[i]? = some (.cells ty kn cs)) (hl : μ[i]? = some l) (cs' : List AV) (new : List Value)
    (hnew : ∀ cur, w.heap[l.b]? = some (.cells cur ty (0, 0)) → new.length = cur.size ∧ cs'.length ≤ new.length ∧ VRs ρ μ cs' (new.take cs'.length)) (h1 : cs'.all AV.one = true) :
    HR P ρ base μ (H.set i (.cells ty kn cs')) (w.setRow l.b new.toArray) := by
  obtain ⟨cur, fz, hb, hro, hrb, hrow, hle, hone, hv⟩ := h.live i ty kn cs l hi hl
  obtain ⟨hbase, rfl, hcap⟩ := hro hk
  obtain ⟨n1, n2, n3⟩ := hnew cur hb
  refine ⟨by simp [h.len], by simpa using h.base_le, ?_, ?_, ?_⟩
  rotate_left
  · intro j ty' kn' c' l' hj ho hl'
    rcases set_old hj with ⟨rfl, e⟩ | ⟨hne, hj'⟩
    · simp only [Blk.cells.injEq] at e
      obtain ⟨rfl, rfl, rfl⟩ := e
      rw [hk] at ho; cases ho
    · exact h.same j ty' kn' c' l' hj' ho hl'
  rotate_left
  · intro j ty' kn' c' l' hj hl'
    rcases set_old hj with ⟨rfl, e⟩ | ⟨hne, hj'⟩
    · simp only [Blk.cells.injEq] at e
      obtain ⟨rfl, rfl, rfl⟩ := e
      obtain rfl : l = l' := Option.some.inj (hl.symm.trans hl')
      exact ⟨new.toArray, (0, 0), setRow_heap w l.b cur _ _ _ hb, fun _ => ⟨hbase, rfl, by simpa [n1] using hcap⟩, (fun hh => by rw [hk] at hh; cases hh), hrow, by simpa using n2, h1, by simpa using n3⟩
    · have hL := h.live j ty' kn' c' l' hj' hl'
      refine hL.ext (Ext.refl _) (setRow_other w l.b l'.b _ ?_)
      intro e
      cases hkn : kn'.own with
      | true => exact hne (h.inj j i _ _ _ _ _ _ l' l hj' hkn hi hk hl' hl e)
      | false =>
        obtain ⟨_, _, _, _, hlt, _⟩ := hL
        have := hlt hkn
        omega
  · have own : ∀ {x : Nat} {t : TypeId} {k : Kn} {c : List AV}, (H.set i (.cells ty kn cs'))[x]? = some (Blk.cells t k c) → k.own = true → ∃ t k c, H[x]? = some (.cells t k c) ∧ k.own = true := by
      intro x t k c hx hk'
      rcases set_old hx with ⟨rfl, _⟩ | ⟨_, k'⟩
      · exact ⟨_, _, _, hi, hk⟩
      · exact ⟨_, _, _, k', hk'⟩
    intro x y t1 k1 c1 t2 k2 c2 lx ly hx hx1 hy hy1 hlx hly hb'
    obtain ⟨_, _, _, kx, kx1⟩ := own hx hx1
    obtain ⟨_, _, _, ky, ky1⟩ := own hy hy1
    exact h.inj x y _ _ _ _ _ _ lx ly kx kx1 ky ky1 hlx hly hb'

/-- A dead block's place given to a new block. -/
theorem HR.moved (h : HR P ρ base μ H w) {i : Nat} {ty : TypeId} {kn : Kn} (hkn : kn.own = true) {cs : List AV} {l : Loc} (hi : H[i]? = some (.cells ty kn cs)) (hl : μ[i]? = some l) :
    HR P ρ base (μ ++ [l]) (H.set i .dead ++ [.cells ty kn cs]) w := by
  have hk := h.kill i
  have hlen : (H.set i Blk.dead).length = H.length := by simp
  have hml : μ.length = (H.set i Blk.dead).length := by simp [h.len]
  have hne : ∀ {j : Nat} {t : TypeId} {k : Kn} {c : List AV}, (H.set i .dead)[j]? = some (Blk.cells t k c) → j ≠ i ∧ H[j]? = some (.cells t k c) := by
    intro j t k c hj
    rcases set_old hj with ⟨_, e⟩ | ⟨e1, e⟩
    · cases e
    · exact ⟨e1, e⟩
  refine ⟨by simp [h.len], h.base_le, ?_, ?_, ?_⟩
  rotate_left
  · intro j ty' kn' c' l' hj ho hl'
    rcases at_last hj with ⟨hlt, hj'⟩ | ⟨rfl, e⟩
    · exact hk.same j ty' kn' c' l' hj' ho (loc_old hml hlt hl')
    · simp only [Blk.cells.injEq] at e
      obtain ⟨rfl, rfl, rfl⟩ := e
      rw [hkn] at ho; cases ho
  rotate_left
  · intro j ty' kn' c' l' hj hl'
    rcases at_last hj with ⟨hlt, hj'⟩ | ⟨rfl, e⟩
    · exact (hk.live j ty' kn' c' l' hj' (loc_old hml hlt hl')).ext (Ext.append _ _) rfl
    · obtain rfl := loc_last hml hl'
      simp only [Blk.cells.injEq] at e
      obtain ⟨rfl, rfl, rfl⟩ := e
      exact (h.live i _ _ _ _ hi hl).ext (Ext.append _ _) rfl
  · intro x y t1 k1 c1 t2 k2 c2 lx ly hx hx1 hy hy1 hlx hly hb
    rcases at_last hx with ⟨ltx, hx'⟩ | ⟨rfl, ex⟩ <;> rcases at_last hy with ⟨lty, hy'⟩ | ⟨rfl, ey⟩
    · exact hk.inj x y _ _ _ _ _ _ lx ly hx' hx1 hy' hy1 (loc_old hml ltx hlx) (loc_old hml lty hly) hb
    · obtain rfl := loc_last hml hly
      obtain ⟨hne1, hx2⟩ := hne hx'
      exact absurd (h.inj x i _ _ _ _ _ _ lx ly hx2 hx1 hi hkn (loc_old hml ltx hlx) hl hb) hne1
    · obtain rfl := loc_last hml hlx
      obtain ⟨hne1, hy2⟩ := hne hy'
      exact absurd (h.inj i y _ _ _ _ _ _ lx ly hi hkn hy2 hy1 hl (loc_old hml lty hly) hb).symm hne1
    · rfl
end
end Go.Proofs.Ythioggjaccpfgaa.Ax
