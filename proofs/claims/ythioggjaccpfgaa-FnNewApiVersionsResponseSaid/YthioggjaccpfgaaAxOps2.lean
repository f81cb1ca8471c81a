/-
  THE ABSTRACT MACHINE: operations, more: building, slices, append, copy, numbers.
-/
import Derived.Test.YthioggjaccpfgaaAxOps
import Derived.Lib.AppendStr
namespace Go.Proofs.Ythioggjaccpfgaa.Ax
open Go Go.RowKit

section
variable {P : Program} {ρ : Nat → Value} {base : Nat} {μ : List Loc} {H : Heap} {w : World} {fr : List AV} {a : Act}

theorem evs_PR (hf : FR ρ μ fr a.tmps) : ∀ {ps : List (Nat × Operand)} {xs : List (Nat × AV)}, evs fr ps = some xs → PR ρ μ xs (ps.map fun (i, x) => (i, a.eval x))
  | [], xs, h => by simp [evs] at h; subst h; exact .nil
  | (i, x) :: r, xs, h => by
    unfold evs at h
    split at h
    · rename_i v vs h1 h2
      simp at h; subst h
      exact .cons (ev_VR h1 hf) (evs_PR hf h2)
    · cases h
theorem evl_VRs (hf : FR ρ μ fr a.tmps) : ∀ {ps : List Operand} {xs : List AV}, evl fr ps = some xs → VRs ρ μ xs (ps.map a.eval)
  | [], xs, h => by simp [evl] at h; subst h; exact .nil
  | x :: r, xs, h => by
    unfold evl at h
    split at h
    · rename_i v vs h1 h2
      simp at h; subst h
      exact .cons (ev_VR h1 hf) (evl_VRs hf h2)
    · cases h

theorem mapM_places (w : World) : ∀ (fs : List Field), fs.all (fun f => (sizeA P f.type).isSome) = true →
    (fs.mapM (fun f => (do pure (f.offset, ← sizeOf f.type) : Sem (Nat × Nat)))).run P w = .ok (fs.map fun f => (f.offset, (sizeA P f.type).getD 0)) w
  | [], _ => rfl
  | f :: fs, h => by
    simp only [List.all_cons, Bool.and_eq_true] at h
    obtain ⟨s, hs⟩ := Option.isSome_iff_exists.1 h.1
    have ih := mapM_places w fs h.2
    simp only [List.mapM_cons, Sem.run_bind, run_sizeA w hs, Result.andThen_ok, Sem.run_pure, ih, List.map_cons, hs, Option.getD_some]

theorem build_fine (hρ : ∀ j, (ρ j).oneCell' = true) (hr : HR P ρ base μ H w) {t : TypeId} {xs : List (Nat × AV)} {vs : List (Nat × Value)} (hp : PR ρ μ xs vs) {v : AV} (h : buildA P t xs = some v) :
    Fine P ρ base μ w v H ((Instr.build t vs.toArray).run P w) := by
  unfold buildA at h
  split at h
  · rename_i fields z hu hz
    split at h
    · rename_i hc
      simp only [Bool.and_eq_true] at hc
      obtain ⟨out, ho, rfl⟩ := Option.map_eq_some_iff.1 h
      obtain ⟨zv, hzr, hzv, _⟩ := run_zeroA hz
      have hzc := (ofV_VR (ρ := ρ) (μ := μ) hzv).cells hρ hc.2
      obtain ⟨vs', hf, hv', _⟩ := fill_fine (place' := ((fields.toList.map fun f => (f.offset, (sizeA P f.type).getD 0)).toArray[·]?)) hρ (fun i s hs => by
        unfold fieldPlaceA at hs
        split at hs
        · rename_i f hfi
          obtain ⟨sz, hsz, rfl⟩ := Option.map_eq_some_iff.1 hs
          have : fields.toList[i]? = some f := by simpa using hfi
          simp [this, hsz]
        · cases hs) hp z.cells zv.cells.toList out ho hzc hc.2
      have hm := mapM_places (P := P) w fields.toList hc.1
      have hm' : (fields.mapM (fun f => (do pure (f.offset, ← sizeOf f.type) : Sem (Nat × Nat)))).run P w = .ok (fields.toList.map fun f => (f.offset, (sizeA P f.type).getD 0)).toArray w := by
        rw [Array.mapM_eq_mapM_toList, Sem.run_map, hm]; rfl
      have : (Instr.build t vs.toArray).run P w = .ok (.agg vs'.toArray) w := by
        simp only [Instr.build, Sem.run_bind, hzr, Result.andThen_ok, run_underlying hu, hm']
        simp only [Array.toArray_toList] at hf
        rw [hf]
        rfl
      rw [this]
      exact fine_pure hr (.g hv'.1 hv'.2)
    · cases h
  · cases h

theorem zeros_VRs {z : List AV} {zv : List Value} (h : VRs ρ μ z zv) (sz : Nat) (hz : z.length = sz) (hsz : 0 < sz) : ∀ n, VRs ρ μ (zerosA z n) ((Array.range (n * sz)).map (zv.toArray[· % zv.toArray.size]!)).toList := by
  have hzl : zv.length = sz := by rw [← h.1]; exact hz
  intro n
  have hlen : ∀ n, (zerosA z n).length = n * sz := by
    intro n
    induction n with
    | zero => simp [zerosA]
    | succ n ih => simp [zerosA, ih, hz, Nat.add_mul]; omega
  refine ⟨by simp [hlen], fun j x v p q => ?_⟩
  have hj : j < n * sz := by have := (List.getElem?_eq_some_iff.1 p).1; rw [hlen] at this; exact this
  have hx : ∀ n j, j < n * sz → (zerosA z n)[j]? = z[j % sz]? := by
    intro n
    induction n with
    | zero => intro j hj; simp at hj
    | succ n ih =>
      intro j hj
      unfold zerosA
      rw [List.getElem?_append]
      split
      · rename_i hlt; rw [hz] at hlt; rw [Nat.mod_eq_of_lt hlt]
      · rename_i hge
        rw [hz] at hge ⊢
        rw [ih _ (by rw [Nat.add_mul] at hj; omega)]
        rw [show j % sz = (j - sz) % sz by rw [← Nat.mod_eq_sub_mod (by omega)]]
  rw [hx n j hj] at p
  have hm : j % sz < zv.length := by rw [hzl]; exact Nat.mod_lt _ hsz
  simp only [Array.toList_map, List.getElem?_map, Array.toList_range, List.getElem?_range hj, Option.map_some, Option.some.injEq] at q
  subst q
  have hs : zv.toArray.size = sz := by simp [hzl]
  rw [hs]
  refine h.2 _ x _ p ?_
  rw [getElem!_pos zv.toArray _ (by simpa using hm)]
  simp [hm]
theorem zeros_one {z : List AV} (h : z.all AV.one = true) : ∀ n, (zerosA z n).all AV.one = true
  | 0 => rfl
  | n + 1 => by unfold zerosA; rw [List.all_append, h, zeros_one h n]; rfl

theorem buildSlice_fine (hρ : ∀ j, (ρ j).oneCell' = true) (hr : HR P ρ base μ H w) {t : TypeId} {len : Nat} {xs : List (Nat × AV)} {vs : List (Nat × Value)} (hp : PR ρ μ xs vs) {v : AV} {H' : Heap} (h : buildSliceA P H t len xs = some (v, H')) :
    Fine P ρ base μ w v H' ((Instr.buildSlice t len vs.toArray).run P w) := by
  unfold buildSliceA at h
  split at h
  · rename_i e he
    split at h
    · rename_i sz z hs hz
      split at h
      · rename_i hc
        obtain ⟨c1, c2, c3, c4, c5⟩ := hc
        split at h
        · rename_i cs hcs
          obtain ⟨⟨i, H1⟩, hn, hh⟩ := Option.map_eq_some_iff.1 h
          simp at hh
          obtain ⟨rfl, rfl⟩ := hh
          obtain ⟨zv, hzr, hzv, _⟩ := run_zeroA hz
          have hzc := (ofV_VR (ρ := ρ) (μ := μ) hzv).cells hρ c3
          have hzs := zeros_VRs hzc sz c2 c1 len
          obtain ⟨vs', hf, hv', _⟩ := fill_fine (place' := fun i => some (i * sz, sz)) hρ (fun i s hs => hs) hp _ _ cs hcs hzs (zeros_one c3 len)
          have hlen : vs'.length = len * sz := by
            have hfl : ∀ (parts : List (Nat × AV)) (cs out : List AV), fillA (fun i => some (i * sz, sz)) cs parts = some out → out.length = cs.length := by
              intro parts
              induction parts with
              | nil => intro cs out h; simp [fillA] at h; rw [h]
              | cons p r ih =>
                intro cs out h
                obtain ⟨i, v⟩ := p
                simp only [fillA] at h
                split at h
                · rename_i hc; rw [ih _ _ h, over_length (by omega)]
                · cases h
            rw [← hv'.1, hfl _ _ _ hcs, hzs.1]; simp
          obtain ⟨μ', hext, hloc, hr', hbel⟩ := fine_new hr (kn := .row) rfl hn hv' [] len (by rw [cellsOf_sizeA hs]; simp [hlen]) true (by simp)
          refine ⟨.slice (some ⟨w.heap.size, 0, none⟩) len len, _, μ', ?_, hext, .sl hloc (Nat.le_refl _) (by unfold maxLen; have : len ≤ len * sz := Nat.le_mul_of_pos_right _ c1; omega) (fun _ _ => Nat.le_refl _), hr', hbel⟩
          have n1 : ¬ (len * sz > 2 ^ 24) := by omega
          have n2 : ¬ (len * sz = 0) := by
            intro e0
            rcases Nat.mul_eq_zero.1 e0 with k | k <;> omega
          simp only [Instr.buildSlice, Sem.run_bind, run_underlying (run_elemA he), Result.andThen_ok, run_sizeA w hs, n1, n2, if_false, hzr, Sem.run_pure, Sem.run_ite]
          have hfe : Instr.fill (fun i => some (i * sz, sz)) ((Array.range (len * sz)).map (zv.cells[· % zv.cells.size]!)) vs.toArray.toList = some vs'.toArray := by
            have := hf
            simp only [Array.toArray_toList] at this
            exact this
          simp [hfe, newRow]
        · cases h
      · cases h
    · cases h
  · cases h

theorem makeSlice_fine (hρ : ∀ j, (ρ j).oneCell' = true) (hr : HR P ρ base μ H w) {t : TypeId} {x y v : AV} {x' y' : Value} {H' : Heap} (h : makeSliceA P H t x y = some (v, H')) (hx : VR ρ μ x x') (hy : VR ρ μ y y') :
    Fine P ρ base μ w v H' ((Instr.makeSlice t x' y').run P w) := by
  unfold makeSliceA at h
  split at h
  · rename_i l c
    cases hx; cases hy
    split at h
    · rename_i e he
      split at h
      · rename_i sz by_ z hs hb hz
        split at h
        · rename_i hc
          obtain ⟨c1, c2, c3, rfl, c5, c6, c7⟩ := hc
          obtain ⟨⟨i, H1⟩, hn, hh⟩ := Option.map_eq_some_iff.1 h
          simp at hh
          obtain ⟨rfl, rfl⟩ := hh
          obtain ⟨zv, hzr, hzv, hzi⟩ := run_zeroA hz
          have hzc := (ofV_VR (ρ := ρ) (μ := μ) hzv).cells hρ c3
          have hzs := zeros_VRs hzc sz c2 c1 l.toNat
          cases hi : P.info? e with
          | none => simp [sizeA, hi] at hs
          | some ie =>
            have hsz : ie.size = sz := by simpa [sizeA, hi] using hs
            have hby : ie.bytes = by_ := by simpa [bytesA, hi] using hb
            have hzz : ie.zero = some zv := by simpa [hi] using hzi
            have hrun := run_make (P := P) w t e ie zv (run_elemA he) hi hzz .i64 .i64 l l (by omega) (Int.le_refl _) (by
              rw [hby]
              have h1 : (by_ : Int) * l ≤ 65536 * 1048576 := Int.mul_le_mul (by omega) c6 (by omega) (by omega)
              omega) (by omega)
            rw [hsz] at hrun
            have hlen : ((Array.range (l.toNat * sz)).map (zv.cells.toList.toArray[· % zv.cells.toList.toArray.size]!)).toList.length = l.toNat * sz := by simp
            obtain ⟨μ', hext, hloc, hr', hbel⟩ := fine_new hr (kn := .row) rfl hn hzs [] l.toNat (by rw [cellsOf_sizeA hs]; simp) true (by simp)
            refine ⟨_, _, μ', hrun, hext, .sl hloc (Nat.le_refl _) (by unfold maxLen; omega) (fun _ _ => Nat.le_refl _), ?_, ?_⟩
            · have e0 : madeCells zv.cells (l.toNat * sz) = (((Array.range (l.toNat * sz)).map (zv.cells.toList.toArray[· % zv.cells.toList.toArray.size]!)).toList ++ []).toArray := by simp only [madeCells, Array.toArray_toList, List.append_nil]
              rw [e0]; exact hr'
            · have e0 : madeCells zv.cells (l.toNat * sz) = (((Array.range (l.toNat * sz)).map (zv.cells.toList.toArray[· % zv.cells.toList.toArray.size]!)).toList ++ []).toArray := by simp only [madeCells, Array.toArray_toList, List.append_nil]
              rw [e0]; exact hbel
        · cases h
      · cases h
    · cases h
  · cases h

theorem fieldAddr_fine (hr : HR P ρ base μ H w) {t : TypeId} {k : Nat} {x v : AV} {x' : Value} (h : fieldAddrA P t x k = some v) (hx : VR ρ μ x x') : Fine P ρ base μ w v H ((Instr.fieldAt t x' k).run P w) := by
  unfold fieldAddrA at h
  split at h
  · rename_i i o fields hu
    cases hx with
    | p hl =>
      rename_i l
      split at h
      · rename_i f hf
        split at h
        · rename_i s hs
          simp at h; subst h
          have : (Instr.fieldAt t (.pointer (some ⟨l.b, o, none⟩)) k).run P w = .ok (.pointer (some ⟨l.b, o + f.offset, none⟩)) w := by
            simp [Instr.fieldAt, run_underlying hu, hf, Instr.sureAddr, fieldPlace, run_sizeA w hs, add_at]
          rw [this]
          exact fine_pure hr (.p hl)
        · cases h
      · cases h
  · cases h

theorem VRs.list_eq {cs : List AV} {vs : Array Value} (h : VRs ρ μ cs vs.toList) : cs.length = vs.size := by simpa using h.1

theorem field_fine (hr : HR P ρ base μ H w) {t : TypeId} {k : Nat} {x v : AV} {x' : Value} (h : fieldA P t x k = some v) (hx : VR ρ μ x x') : Fine P ρ base μ w v H ((Instr.field t x' k).run P w) := by
  unfold fieldA at h
  split at h
  · rename_i cs fields hu
    cases hx with
    | g hl hh =>
      rename_i vs
      split at h
      · rename_i f hf
        split at h
        · rename_i sz ha hs
          split at h
          · rename_i hle
            simp at h; subst h
            have hv : VRs ρ μ cs vs := ⟨hl, hh⟩
            have hv2 := (hv.drop f.offset).take sz
            have : (Instr.field t (.agg vs.toArray) k).run P w = .ok (.agg ((vs.drop f.offset).take sz).toArray) w := by
              have e1 : vs.toArray.extract f.offset (f.offset + sz) = ((vs.drop f.offset).take sz).toArray := by
                apply Array.ext'
                simp [List.extract_eq_take_drop]
              simp only [Instr.field, run_underlying hu, hf, asAgg, part, run_aggA w ha, run_sizeA w hs, Sem.run_bind, Sem.run_pure, Result.andThen_ok, e1, if_true]
            rw [this]
            exact fine_pure hr (.g hv2.1 hv2.2)
          · cases h
        · rename_i _ ha
          obtain ⟨u, hu', huv⟩ := (show VRs ρ μ cs vs from ⟨hl, hh⟩).at h
          have : (Instr.field t (.agg vs.toArray) k).run P w = .ok u w := by
            simp [Instr.field, run_underlying hu, hf, asAgg, part, run_aggA w ha, hu']
          rw [this]
          exact fine_pure hr huv
        · cases h
      · cases h
  · cases h

theorem indexAddr_fine (hr : HR P ρ base μ H w) {t : TypeId} {x y v : AV} {x' y' : Value} (h : indexAddrA P t x y = some v) (hx : VR ρ μ x x') (hy : VR ρ μ y y') : Fine P ρ base μ w v H ((Instr.indexAt t x' y').run P w) := by
  unfold indexAddrA at h
  split at h
  · rename_i i o n kd k e he
    cases hy
    cases hx with
    | sl hl h1 h2 h3 =>
      rename_i l c
      split at h
      · rename_i sz hs
        split at h
        · rename_i hk
          simp at h; subst h
          have : (Instr.indexAt t (.slice (some ⟨l.b, o, none⟩) n c) (.int kd k)).run P w = .ok (.pointer (some ⟨l.b, o + k.toNat * sz, none⟩)) w := by
            simp [Instr.indexAt, asIntOf, run_underlying (run_elemA he), hk, run_sizeA w hs, add_at]
          rw [this]
          exact fine_pure hr (.p hl)
        · cases h
      · cases h
  · cases h

theorem index_fine (hr : HR P ρ base μ H w) {t : TypeId} {x y v : AV} {x' y' : Value} (h : indexA P t x y = some v) (hx : VR ρ μ x x') (hy : VR ρ μ y y') : Fine P ρ base μ w v H ((Instr.index t x' y').run P w) := by
  unfold indexA at h
  split at h
  · rename_i bs kd k hu
    cases hx; cases hy
    split at h
    · rename_i h0
      obtain ⟨c, hc, rfl⟩ := Option.map_eq_some_iff.1 h
      have : (Instr.index t (.string bs) (.int kd k)).run P w = .ok (.int .u8 c.toNat) w := by
        simp [Instr.index, asIntOf, run_underlying hu, h0, hc]
      rw [this]
      exact fine_pure hr (.i _ _)
    · cases h
  · cases h

theorem sliceArr_fine (hr : HR P ρ base μ H w) {t : TypeId} {x v : AV} {x' : Value} (h : sliceArrA P H t x = some v) (hx : VR ρ μ x x') : Fine P ρ base μ w v H ((Instr.sliceAt t x' none none none).run P w) := by
  unfold sliceArrA at h
  split at h
  · rename_i n e i o hu
    cases hx with
    | p hl =>
      rename_i l
      split at h
      · rename_i ty cs sz hb hs
        split at h
        · rename_i hn
          simp at h; subst h
          have hL := hr.live i ty .vr cs l hb hl
          obtain ⟨_, _, _, _, _, hrow, _⟩ := hL
          have : (Instr.sliceAt t (.pointer (some ⟨l.b, o, none⟩)) none none none).run P w = .ok (.slice (some ⟨l.b, o, none⟩) n n) w := by
            simp [Instr.sliceAt, run_underlying hu, Instr.sureAddr, Instr.sliceBounds, run_sizeA w hs, add_at]
          rw [this]
          refine fine_pure hr (.sl hl (Nat.le_refl _) (by unfold maxLen; omega) (fun _ hr' => ?_))
          rw [hrow] at hr'; cases hr'
        · cases h
      · cases h
  · cases h

theorem slice_fine (hr : HR P ρ base μ H w) {t : TypeId} {x v : AV} {x' : Value} {lo hi : Option AV} {lo' hi' : Option Value} (h : sliceA P t x lo hi = some v) (hx : VR ρ μ x x')
    (hlo : ∀ l, lo = some l → ∃ l', lo' = some l' ∧ VR ρ μ l l') (hlo0 : lo = none → lo' = none) (hhi : ∀ l, hi = some l → ∃ l', hi' = some l' ∧ VR ρ μ l l') (hhi0 : hi = none → hi' = none) :
    Fine P ρ base μ w v H ((Instr.sliceAt t x' lo' hi' none).run P w) := by
  unfold sliceA at h
  split at h
  · rename_i e he
    split at h
    · rename_i sz hs
      have hu := run_elemA he
      split at h
      · rename_i kd l
        obtain ⟨l', rfl, hl'⟩ := hlo _ rfl
        obtain rfl := hhi0 rfl
        cases hl'
        split at h
        · rename_i i o n
          cases hx with
          | sl hl h1 h2 h3 =>
            rename_i lc c
            split at h
            · rename_i hb
              have hrun : (Instr.sliceAt t (.slice (some ⟨lc.b, o, none⟩) n c) (some (.int kd l)) none none).run P w =
                  .ok (.slice (if c = l.toNat then some ⟨lc.b, o, none⟩ else some ⟨lc.b, o + l.toNat * sz, none⟩) (n - l.toNat) (c - l.toNat)) w := by
                simp [Instr.sliceAt, Instr.slice, Instr.sliceBounds, Instr.sliceBound, asIntOf, run_underlying hu, hb, run_sizeA w hs, add_at]
              rw [hrun]
              split at h
              · rename_i e0; simp at h; subst h; subst e0
                simp only [Int.toNat_zero, Nat.zero_mul, Nat.add_zero, Nat.sub_zero, ite_self]
                exact fine_pure hr (.sl hl h1 h2 h3)
              · split at h
                · rename_i en; simp at h; subst h
                  have : n - l.toNat = 0 := by omega
                  rw [this]
                  split <;> exact fine_pure hr (.se _ _)
                · rename_i hne0 hnen; simp at h; subst h
                  have hne : ¬ c = l.toNat := by omega
                  simp only [hne, if_false]
                  refine fine_pure hr (.sl hl (by omega) (by unfold maxLen at *; omega) (fun e0 _ => ?_))
                  exfalso
                  have hsz : o = 0 ∧ l.toNat * sz = 0 := by omega
                  rcases Nat.mul_eq_zero.1 hsz.2 with k | k
                  · omega
                  · omega
            · cases h
        · cases hx
          split at h
          · rename_i e0; simp at h; subst h; subst e0
            have : (Instr.sliceAt t (.slice none 0 0) (some (.int kd 0)) none none).run P w = .ok (.slice none 0 0) w := by
              simp [Instr.sliceAt, Instr.slice, Instr.sliceBounds, Instr.sliceBound, asIntOf, run_underlying hu, run_sizeA w hs]
            rw [this]
            exact fine_pure hr .s0
          · cases h
        · cases hx
          split at h
          · rename_i aa cc e0; simp at h; subst h; subst e0
            have : (Instr.sliceAt t (.slice (some aa) 0 cc) (some (.int kd 0)) none none).run P w = .ok (.slice (some (if cc = 0 then aa else aa.add (0 * sz))) 0 cc) w := by
              simp [Instr.sliceAt, Instr.slice, Instr.sliceBounds, Instr.sliceBound, asIntOf, run_underlying hu, run_sizeA w hs]
              split <;> simp_all
            rw [this]
            exact fine_pure hr (.se _ _)
          · cases h
        · cases h
      · rename_i kd l
        obtain ⟨l', rfl, hl'⟩ := hhi _ rfl
        obtain rfl := hlo0 rfl
        cases hl'
        split at h
        · rename_i i o n
          cases hx with
          | sl hl h1 h2 h3 =>
            rename_i lc c
            split at h
            · rename_i hb
              simp at h; subst h
              have hb2 : 0 ≤ l ∧ l ≤ c := by omega
              have hrun : (Instr.sliceAt t (.slice (some ⟨lc.b, o, none⟩) n c) none (some (.int kd l)) none).run P w = .ok (.slice (some ⟨lc.b, o, none⟩) l.toNat c) w := by
                simp [Instr.sliceAt, Instr.slice, Instr.sliceBounds, Instr.sliceBound, asIntOf, run_underlying hu, hb2, run_sizeA w hs, add_at]
              rw [hrun]
              exact fine_pure hr (.sl hl (by omega) h2 h3)
            · cases h
        · cases hx
          split at h
          · rename_i e0; simp at h; subst h; subst e0
            have : (Instr.sliceAt t (.slice none 0 0) none (some (.int kd 0)) none).run P w = .ok (.slice none 0 0) w := by
              simp [Instr.sliceAt, Instr.slice, Instr.sliceBounds, Instr.sliceBound, asIntOf, run_underlying hu, run_sizeA w hs]
            rw [this]
            exact fine_pure hr .s0
          · cases h
        · cases hx
          split at h
          · rename_i aa cc e0; simp at h; subst h; subst e0
            have : (Instr.sliceAt t (.slice (some aa) 0 cc) none (some (.int kd 0)) none).run P w = .ok (.slice (some (if cc = 0 then aa else aa.add (0 * sz))) 0 cc) w := by
              simp [Instr.sliceAt, Instr.slice, Instr.sliceBounds, Instr.sliceBound, asIntOf, run_underlying hu, run_sizeA w hs]
              split <;> simp_all
            rw [this]
            exact fine_pure hr (.se _ _)
          · cases h
        · cases h
      · cases h
    · cases h
  · cases h

theorem sliceMax_fine (hr : HR P ρ base μ H w) {t : TypeId} {x h m v : AV} {x' h' m' : Value} (hh : sliceMaxA P t x h m = some v) (hx : VR ρ μ x x') (h1 : VR ρ μ h h') (h2 : VR ρ μ m m') :
    Fine P ρ base μ w v H ((Instr.sliceAt t x' none (some h') (some m')).run P w) := by
  unfold sliceMaxA at hh
  split at hh
  · rename_i e he
    split at hh
    · rename_i sz hs
      have hu := run_elemA he
      split at hh
      · rename_i kd l kd2 l2
        cases h1; cases h2
        split at hh
        · rename_i elm
          subst elm
          split at hh
          · rename_i i o n
            cases hx with
            | sl hl k1 k2 k3 =>
              rename_i lc c
              split at hh
              · rename_i hb
                have hb2 : 0 ≤ l ∧ l ≤ c := by omega
                have hrun : (Instr.sliceAt t (.slice (some ⟨lc.b, o, none⟩) n c) none (some (.int kd l)) (some (.int kd2 l))).run P w = .ok (.slice (some ⟨lc.b, o, none⟩) l.toNat l.toNat) w := by
                  simp [Instr.sliceAt, Instr.slice, Instr.sliceBounds, Instr.sliceBound, asIntOf, run_underlying hu, hb2, run_sizeA w hs, add_at]
                  intro hmx; omega
                rw [hrun]
                split at hh
                · rename_i e0; simp at hh; subst hh; subst e0
                  exact fine_pure hr (.se _ _)
                · simp at hh; subst hh
                  exact fine_pure hr (.sl hl (Nat.le_refl _) (by omega) (fun e1 e2 => by have := k3 e1 e2; omega))
              · cases hh
          · cases hx
            split at hh
            · rename_i e0; simp at hh; subst hh; subst e0
              have : (Instr.sliceAt t (.slice none 0 0) none (some (.int kd 0)) (some (.int kd2 0))).run P w = .ok (.slice none 0 0) w := by
                simp [Instr.sliceAt, Instr.slice, Instr.sliceBounds, Instr.sliceBound, asIntOf, run_underlying hu, run_sizeA w hs]
              rw [this]
              exact fine_pure hr .s0
            · cases hh
          · cases hx
            split at hh
            · rename_i aa cc e0; simp at hh; subst hh; subst e0
              have : (Instr.sliceAt t (.slice (some aa) 0 cc) none (some (.int kd 0)) (some (.int kd2 0))).run P w = .ok (.slice (some aa) 0 0) w := by
                simp [Instr.sliceAt, Instr.slice, Instr.sliceBounds, Instr.sliceBound, asIntOf, run_underlying hu, run_sizeA w hs]
              rw [this]
              exact fine_pure hr (.se _ _)
            · cases hh
          · cases hh
        · cases hh
      · cases hh
    · cases hh
  · cases hh
end
end Go.Proofs.Ythioggjaccpfgaa.Ax
