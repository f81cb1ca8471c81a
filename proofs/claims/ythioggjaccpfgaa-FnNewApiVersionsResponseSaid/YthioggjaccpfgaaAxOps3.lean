/-
  THE ABSTRACT MACHINE: append, copy, numbers; every operation that is no call of a Go function.
-/
import Derived.Test.YthioggjaccpfgaaAxOps2
namespace Go.Proofs.Ythioggjaccpfgaa.Ax
open Go Go.RowKit

section
variable {P : Program} {ρ : Nat → Value} {base : Nat} {μ : List Loc} {H : Heap} {w : World} {fr : List AV} {a : Act}

/-- What append asks of its second argument: so many elements; their cells, in this world and in one drawn from it. -/
def Source (P : Program) (sz : Nat) (w : World) (x : Value) (m : Nat) (cs : List Value) : Prop :=
  (∀ w' : World, (Builtin.lenOf x).run P w' = .ok m w') ∧ (Builtin.firstCells sz m x).run P w = .ok cs.toArray w ∧ (Builtin.firstCells sz m x).run P w.drew = .ok cs.toArray w.drew ∧ cs.length = m * sz ∧
    ∀ k, k ≤ m → (Builtin.firstCells sz k x).run P w = .ok (cs.take (k * sz)).toArray w

theorem first_fine (hr : HR P ρ base μ H w) {sz m : Nat} {x : AV} {x' : Value} {cs : List AV} (hsz : 0 < sz) (h : firstA H sz x = some (m, cs)) (hs1 : (∃ bs, x = .s bs) → sz = 1) (hx : VR ρ μ x x') :
    ∃ vs, Source P sz w x' m vs ∧ VRs ρ μ cs vs ∧ cs.all AV.one = true := by
  unfold firstA at h
  split at h
  · rename_i bs
    have h1 := hs1 ⟨bs, rfl⟩
    subst h1
    simp at h
    obtain ⟨rfl, rfl⟩ := h
    cases hx
    refine ⟨Lib.strCells bs, ⟨fun w' => rfl, Lib.run_firstCells_string w 1 bs, Lib.run_firstCells_string w.drew 1 bs, by simp [Lib.strCells_length], fun k hk => ?_⟩, ?_, ?_⟩
    · simp only [Builtin.firstCells, Sem.run_pure, Nat.mul_one]
      congr 1
      apply Array.ext'
      simp [Lib.strCells, ByteArray.data_extract, List.extract_eq_take_drop]
    · have e : bs.data.toList = bs.toList := (ByteArray.toList_eq bs).symm
      unfold Lib.strCells
      rw [e]
      refine ⟨by simp, fun j p q hp hq => ?_⟩
      simp only [List.getElem?_map] at hp hq
      cases hb : bs.toList[j]? with
      | none => simp [hb] at hp
      | some c => simp [hb] at hp hq; subst hp; subst hq; exact .i _ _
    · rw [List.all_eq_true]
      intro y hy
      obtain ⟨c, _, rfl⟩ := List.mem_map.1 hy
      rfl
  · simp at h
    obtain ⟨rfl, rfl⟩ := h
    cases hx
    exact ⟨[], ⟨fun w' => rfl, rfl, rfl, by simp, fun k hk => by simp [Builtin.firstCells]⟩, .nil, rfl⟩
  · simp at h
    obtain ⟨rfl, rfl⟩ := h
    cases hx
    refine ⟨[], ⟨fun w' => rfl, ?_, ?_, by simp, fun k hk => ?_⟩, .nil, rfl⟩
    · simp [Builtin.firstCells, loadCells, loadCellsFrom]
    · simp [Builtin.firstCells, loadCells, loadCellsFrom]
    · obtain rfl : k = 0 := by omega
      simp [Builtin.firstCells, loadCells, loadCellsFrom]
  · rename_i i o n
    cases hx with
    | sl hl h1 h2 h3 =>
      rename_i l c
      split at h
      · rename_i ty kn cs' hb
        split at h
        · rename_i hle
          simp at h
          obtain ⟨rfl, rfl⟩ := h
          obtain ⟨vs, hvl, hvs, hone, hc⟩ := (hr.live i ty kn cs' l hb hl).part hle
          exact ⟨vs, ⟨fun w' => rfl, run_firstCells_some w sz n _ n c vs hvl hc, run_firstCells_some w.drew sz n _ n c vs hvl (by simpa using hc), hvl, fun k hk => run_firstCells_some w sz k _ n c (vs.take (k * sz)) (by rw [List.length_take, hvl]; exact Nat.min_eq_left (Nat.mul_le_mul_right _ hk)) (fun j u hu => hc j u (by rw [List.getElem?_take] at hu; split at hu <;> first | exact hu | cases hu))⟩, hvs, hone⟩
        · cases h
      · cases h
  · cases h

theorem arr_app (l : List Value) (x : Array Value) : l.toArray ++ x = (l ++ x.toList).toArray := by apply Array.ext'; simp

/-- Append, whatever is appended. -/
theorem run_append_any {t1 t2 ty e : TypeId} {ie : TypeInfo} {z : Value} (ht : P.underlying t1 = some (.slice e)) (h2 : P.underlying t2 = some .string ∨ ∃ e', P.underlying t2 = some (.slice e')) (hi : P.info? e = some ie) (hz : ie.zero = some z)
    {b : Option Addr} {n c m : Nat} {x : Value} {news : List Value} (hsrc : Source P ie.size w x m news)
    (hroom : n + m ≤ c → ∀ g, b = some g → ∃ w', (storeCells (g.add (n * ie.size)) news).run P w = .ok () w')
    {olds : List Value} (hold : (Builtin.firstCells ie.size n (.slice b n c)).run P w.drew = .ok olds.toArray w.drew)
    (h63 : ((n + m : Nat) : Int) ≤ 9223372036854775807) (hfit : c < n + m → Builtin.nextslicecap (n + m) c * ie.bytes ≤ 281474976710656) :
    (Builtin.append_ #[t1, t2] ty #[.slice b n c, x]).run P w =
      if n + m ≤ c then (match b with
        | some g => ((storeCells (g.add (n * ie.size)) news).run P w).andThen fun _ w' => .ok (.slice b (n + m) c) w'
        | none => .ok (.slice b (n + m) c) w)
      else .ok (.slice (some ⟨w.heap.size, 0, none⟩) (n + m) (grownCap w (n + m) c e))
        (w.drew.alloc (.cells (olds.toArray ++ news.toArray ++ Builtin.zeroCells z.cells (grownCap w (n + m) c e - (n + m))) e)) := by
  obtain ⟨s1, s2, s3, s4, _⟩ := hsrc
  have h63' : ¬ (9223372036854775807 < ((n : Int) + (m : Int))) := by omega
  by_cases hle : n + m ≤ c
  · rw [if_pos hle]
    cases b with
    | none => rcases h2 with hd2 | ⟨e', hd2⟩ <;> simp [Builtin.append_, run_underlying ht, run_underlying hd2, sizeOf, typeInfo, hi, s1, hle, s2]
    | some g =>
      obtain ⟨w', hw'⟩ := hroom hle g rfl
      rcases h2 with hd2 | ⟨e', hd2⟩ <;> simp [Builtin.append_, run_underlying ht, run_underlying hd2, sizeOf, typeInfo, hi, s1, hle, s2, hw']
  · rw [if_neg hle]
    have h48 : ¬ (281474976710656 < Builtin.nextslicecap (n + m) c * ie.bytes) := by have := hfit (by omega); omega
    rcases h2 with hd2 | ⟨e', hd2⟩ <;> (simp [Builtin.append_, run_underlying ht, run_underlying hd2, sizeOf, typeInfo, zeroValue, hi, hz, s1, hle, h63', h48, Question.forced, hold, s3, newRow, grownCap]; congr 2; rw [← List.append_toArray, Array.append_assoc])

theorem append_fine (hρ : ∀ j, (ρ j).oneCell' = true) (hr : HR P ρ base μ H w) {t1 t2 ty : TypeId} {str : Bool} {s x v : AV} {s' x' : Value} {H' : Heap} (h : appendA P H t1 str s x = some (v, H'))
    (h2 : P.underlying t2 = some .string ∨ ∃ e', P.underlying t2 = some (.slice e')) (hstr : (∃ bs, x = .s bs) → str = true) (hs : VR ρ μ s s') (hx : VR ρ μ x x') :
    Fine P ρ base μ w v H' ((Builtin.append_ #[t1, t2] ty #[s', x']).run P w) := by
  unfold appendA at h
  split at h
  · rename_i e he
    split at h
    · rename_i sz by_ z hsz hby hz
      split at h
      · rename_i hc
        obtain ⟨c1, c2, c2b, c3⟩ := hc
        split at h
        · rename_i m new hnew
          obtain ⟨vs, hsrc, hvs, hone⟩ := first_fine hr c1 hnew (fun hb => (c3 (hstr hb)).1) hx
          obtain ⟨zv, hzr, hzv, hzi⟩ := run_zeroA hz
          have hzl : zv.cells.size = sz := by
            have := ((ofV_VR (ρ := ρ) (μ := μ) hzv).cells hρ c2b).1
            simp at this; omega
          cases hi : P.info? e with
          | none => simp [sizeA, hi] at hsz
          | some ie =>
            have hsz' : ie.size = sz := by simpa [sizeA, hi] using hsz
            have hby' : ie.bytes = by_ := by simpa [bytesA, hi] using hby
            have hzz : ie.zero = some zv := by simpa [hi] using hzi
            have hcell : P.cellsOf e = sz := cellsOf_sizeA hsz
            subst hsz'
            subst hby'
            have hvl : vs.length = m * ie.size := hsrc.2.2.2.1
            split at h
            · -- onto nil
              cases hs
              by_cases hm : m = 0
              · rw [if_pos hm] at h
                simp at h
                obtain ⟨rfl, rfl⟩ := h
                subst hm
                have hrun := run_append_any (w := w) (ty := ty) (run_elemA he) h2 hi hzz (b := none) (n := 0) (c := 0) hsrc (fun _ g hg => by cases hg) (olds := []) (by simp [Builtin.firstCells]) (by simp) (fun hh => by omega)
                rw [hrun]
                simp only [Nat.add_zero, Nat.le_refl, if_true]
                exact fine_pure hr .s0
              · rw [if_neg hm] at h
                split at h
                · rename_i hb
                  obtain ⟨⟨j, H1⟩, hn, hh⟩ := Option.map_eq_some_iff.1 h
                  simp at hh
                  obtain ⟨rfl, rfl⟩ := hh
                  have hrun := run_append_any (w := w) (ty := ty) (run_elemA he) h2 hi hzz (b := none) (n := 0) (c := 0) hsrc (fun _ g hg => by cases hg) (olds := []) (by simp [Builtin.firstCells]) (by simp; omega) (fun hh => growslice_fits (by omega) (by simpa using hb.1))
                  rw [hrun, if_neg (by omega)]
                  simp only [Nat.zero_add]
                  have hge := grownCap_ge w m 0 e
                  obtain ⟨μ', hext, hloc, hr', hbel⟩ := fine_new hr.drew (kn := .row) rfl hn hvs (Builtin.zeroCells zv.cells (grownCap w m 0 e - m)).toList (grownCap w m 0 e) (by
                    rw [hcell, hvl, Array.length_toList, size_zeroCells, hzl, ← Nat.add_mul]
                    exact Nat.mul_le_mul_right _ (by omega)) true (by simp)
                  refine ⟨_, _, μ', rfl, hext, .sl hloc hge (grownCap_le_maxLen w m 0 e (by unfold maxLen; omega)) (fun _ _ => Nat.le_refl _), ?_, ?_⟩
                  · rw [show (([] : List Value).toArray ++ vs.toArray) = vs.toArray by simp, arr_app]; exact hr'
                  · rw [show (([] : List Value).toArray ++ vs.toArray) = vs.toArray by simp, arr_app]
                    exact (Below.refl base w).drew.trans hbel
                · cases h
            · rename_i i n
              cases hs with
              | sl hl k1 k2 k3 =>
                rename_i l c
                split at h
                · rename_i ty' cs hb
                  split at h
                  · rename_i hcc
                    obtain ⟨rfl, q1, q2, q3⟩ := hcc
                    obtain ⟨⟨j, H1⟩, hn, hh⟩ := Option.map_eq_some_iff.1 h
                    simp at hh
                    obtain ⟨rfl, rfl⟩ := hh
                    obtain ⟨rfl, rfl, hall⟩ := newBlk_some hn
                    have hL := hr.live i ty' .row cs l hb hl
                    obtain ⟨cur, fz, hbl, hro, _, hrw, hle, hone1, hvs1⟩ := hL
                    have hcap := k3 rfl (hrw.2 rfl)
                    obtain ⟨hbase, rfl, hcp⟩ := hro rfl
                    rw [hcell] at hcp
                    have hcs : c * ie.size ≤ cur.size := Nat.le_trans (Nat.mul_le_mul_right _ hcap) hcp
                    have honeV : ∀ u ∈ vs, u.oneCell' = true := by
                      intro u hu
                      obtain ⟨j, hj, rfl⟩ := List.mem_iff_getElem.1 hu
                      have hj' : j < new.length := by have := hvs.1; omega
                      refine (hvs.2 j new[j] vs[j] (by simp [hj']) (by simp [hj])).oneCell hρ ?_
                      rw [List.all_eq_true] at hone
                      exact hone _ (List.getElem_mem _)
                    obtain ⟨olds, hol, hov, _, hoc⟩ := (hr.live i ty' .row cs l hb hl).part (o := 0) (n := n * ie.size) (by omega)
                    have hstore : n + m ≤ c → (storeCells ⟨l.b, n * ie.size, none⟩ vs).run P w = .ok () (w.setRow l.b (cur.toList.take (n * ie.size) ++ vs ++ cur.toList.drop (n * ie.size + vs.length)).toArray) := by
                      intro hle2
                      have hfit : n * ie.size + vs.length ≤ cur.size := by
                        rw [hvl, ← Nat.add_mul]
                        exact Nat.le_trans (Nat.mul_le_mul_right _ hle2) hcs
                      have := run_storeCells_at P l.b (n * ie.size) ty' vs 0 cur w hbl (by omega) honeV
                      simpa using this
                    have hrun := run_append_any (w := w) (ty := ty) (run_elemA he) h2 hi hzz (b := some ⟨l.b, 0, none⟩) (n := n) (c := c) hsrc
                      (fun hle2 g hg => by cases hg; rw [add_at, Nat.zero_add]; exact ⟨_, hstore hle2⟩) (olds := olds)
                      (run_firstCells_some w.drew ie.size n _ n c olds hol (by simpa using hoc)) (by omega) (fun hh => growslice_fits hh q2)
                    rw [hrun]
                    by_cases hle2 : n + m ≤ c
                    · rw [if_pos hle2]
                      simp only [add_at, Nat.zero_add, hstore hle2, Result.andThen_ok]
                      have hfit : n * ie.size + vs.length ≤ cur.size := by
                        rw [hvl, ← Nat.add_mul]
                        exact Nat.le_trans (Nat.mul_le_mul_right _ hle2) hcs
                      have hset := hr.setRow (kn := .row) rfl hb hl (cs.take (n * ie.size) ++ new) (cur.toList.take (n * ie.size) ++ vs ++ cur.toList.drop (n * ie.size + vs.length)) (fun cur' hc' => by
                        have : cur' = cur := by rw [hbl] at hc'; simp at hc'; exact hc'.symm
                        subst this
                        have hcl : (cs.take (n * ie.size) ++ new).length = n * ie.size + vs.length := by simp [hvs.1]; omega
                        refine ⟨by simp; omega, by rw [hcl]; simp; omega, ?_⟩
                        rw [hcl]
                        have e1 : (cur'.toList.take (n * ie.size) ++ vs ++ cur'.toList.drop (n * ie.size + vs.length)).take (n * ie.size + vs.length) = cur'.toList.take (n * ie.size) ++ vs := by
                          apply List.take_left'
                          simp; omega
                        rw [e1]
                        have := hvs1.take (n * ie.size)
                        rw [List.take_take, Nat.min_eq_left q1] at this
                        exact this.append hvs) hall
                      have hlt : i < H.length := (List.getElem?_eq_some_iff.1 hb).1
                      have hmv := hset.moved (i := i) (ty := ty') (kn := .row) rfl (cs := cs.take (n * ie.size) ++ new) (l := l) (by simp [hlt]) hl
                      rw [List.set_set] at hmv
                      have hj : (H.set i Blk.dead).length = H.length := by simp
                      refine ⟨_, _, _, rfl, Ext.append _ [l], .sl (l := l) (by rw [hj, ← hr.len]; simp) hle2 k2 (fun _ _ => hcap), hmv, ⟨rfl, rfl, rfl, by simp, fun k hk => setRow_other w l.b k _ (by omega)⟩⟩
                    · rw [if_neg hle2]
                      have hge := grownCap_ge w (n + m) c ty'
                      have hov' : VRs ρ μ (cs.take (n * ie.size) ++ new) (olds ++ vs) := by
                        refine VRs.append ?_ hvs
                        simpa using hov
                      have hk := (hr.kill i).drew
                      obtain ⟨μ', hext, hloc, hr', hbel⟩ := fine_new hk (kn := .row) rfl hn hov' (Builtin.zeroCells zv.cells (grownCap w (n + m) c ty' - (n + m))).toList (grownCap w (n + m) c ty') (by
                        rw [hcell, List.length_append, hol, hvl, Array.length_toList, size_zeroCells, hzl, ← Nat.add_mul, ← Nat.add_mul]
                        exact Nat.mul_le_mul_right _ (by omega)) true (by simp)
                      refine ⟨_, _, μ', rfl, hext, .sl hloc hge (grownCap_le_maxLen w (n + m) c ty' (by unfold maxLen; omega)) (fun _ _ => Nat.le_refl _), ?_, ?_⟩
                      · rw [List.append_toArray, arr_app]; exact hr'
                      · rw [List.append_toArray, arr_app]
                        exact (Below.refl base w).drew.trans hbel
                  · cases h
                · cases h
            · cases h
        · cases h
      · cases h
    · cases h
  · cases h

theorem wrap_i64 {l : Int} (h0 : 0 ≤ l) (h1 : l ≤ 140737488355328) : IntKind.i64.wrap l = l := by
  simp [IntKind.wrap, IntKind.signed, IntKind.bits]
  omega

/-- Append of so many zeros to nothing. -/
theorem run_append_make {t1 t2 ty e : TypeId} {k0 kd : IntKind} {ie : TypeInfo} {z : Value} (ht : P.underlying t1 = some (.slice e)) (h2 : P.underlying t2 = some (.int k0)) (hi : P.info? e = some ie) (hz : ie.zero = some z) {l : Int} (h0 : 0 < l) (h1 : l ≤ 140737488355328) (h3 : l.toNat * ie.bytes ≤ 140737488355328) (hs : 0 < ie.size) :
    (Builtin.append_ #[t1, t2] ty #[.slice none 0 0, .int kd l]).run P w =
      .ok (.slice (some ⟨w.heap.size, 0, none⟩) l.toNat (grownCap w l.toNat 0 e))
        (w.drew.alloc (.cells (Builtin.zeroCells z.cells l.toNat ++ Builtin.zeroCells z.cells (grownCap w l.toNat 0 e - l.toNat)) e)) := by
  have hb : (l : Int) * (ie.bytes : Int) ≤ 140737488355328 := by
    obtain ⟨n, rfl⟩ : ∃ n : Nat, l = n := ⟨l.toNat, by omega⟩
    rw [Int.toNat_natCast] at h3
    rw [← Int.natCast_mul]
    omega
  have c1 : ¬ (l < 0) := by omega
  have c2 : ¬ (281474976710656 < l * (ie.bytes : Int)) := by omega
  have c3 : ¬ (l ≤ 0) := by omega
  have hf := growslice_fits (need := l.toNat) (old := 0) (bytes := ie.bytes) (by omega) h3
  have c5 : ¬ (281474976710656 < Builtin.nextslicecap l.toNat 0 * ie.bytes) := by
    omega
  have c7 : ¬ (l.toNat * ie.size = 0) := by
    intro hh
    rcases Nat.mul_eq_zero.1 hh with k | k <;> omega
  simp [Builtin.append_, run_underlying ht, run_underlying h2, sizeOf, typeInfo, zeroValue, hi, hz, asInt, asIntOf, wrap_i64 (Int.le_of_lt h0) h1, c1, c2, c3, c5, c7, Question.forced, newRow, grownCap, Builtin.firstCells]
  intro hmx; omega

theorem appendZ_fine (hρ : ∀ j, (ρ j).oneCell' = true) (hr : HR P ρ base μ H w) {t1 t2 ty : TypeId} {k0 : IntKind} {s x v : AV} {s' x' : Value} {H' : Heap} (h : appendZ P H t1 s x = some (v, H'))
    (h2 : P.underlying t2 = some (.int k0)) (hs : VR ρ μ s s') (hx : VR ρ μ x x') :
    Fine P ρ base μ w v H' ((Builtin.append_ #[t1, t2] ty #[s', x']).run P w) := by
  unfold appendZ at h
  split at h
  · rename_i e he
    split at h
    · rename_i sz by_ z hsz hby hz
      split at h
      · rename_i kd l
        cases hs; cases hx
        split at h
        · rename_i hc
          obtain ⟨c1, c2, c2b, c3, c4, c5⟩ := hc
          obtain ⟨⟨j, H1⟩, hn, hh⟩ := Option.map_eq_some_iff.1 h
          simp at hh
          obtain ⟨rfl, rfl⟩ := hh
          obtain ⟨zv, hzr, hzv, hzi⟩ := run_zeroA hz
          have hzc := (ofV_VR (ρ := ρ) (μ := μ) hzv).cells hρ c2b
          have hzl : zv.cells.size = sz := by
            have := hzc.1
            simp at this; omega
          cases hi : P.info? e with
          | none => simp [sizeA, hi] at hsz
          | some ie =>
            have hsz' : ie.size = sz := by simpa [sizeA, hi] using hsz
            have hby' : ie.bytes = by_ := by simpa [bytesA, hi] using hby
            have hzz : ie.zero = some zv := by simpa [hi] using hzi
            have hcell : P.cellsOf e = sz := cellsOf_sizeA hsz
            subst hsz'
            subst hby'
            have hzs := zeros_VRs hzc ie.size c2 c1 l.toNat
            rw [run_append_make (run_elemA he) h2 hi hzz c3 c5 c4 c1]
            have hge := grownCap_ge w l.toNat 0 e
            have hzlen : (Builtin.zeroCells zv.cells l.toNat).toList.length = l.toNat * ie.size := by
              rw [Array.length_toList, size_zeroCells, hzl]
            have hzs' : VRs ρ μ (zerosA z.cells l.toNat) (Builtin.zeroCells zv.cells l.toNat).toList := by
              have e0 : (Builtin.zeroCells zv.cells l.toNat).toList = ((Array.range (l.toNat * ie.size)).map (zv.cells.toList.toArray[· % zv.cells.toList.toArray.size]!)).toList := by
                simp only [Builtin.zeroCells, Array.toArray_toList, hzl]
              rw [e0]; exact hzs
            obtain ⟨μ', hext, hloc, hr', hbel⟩ := fine_new hr.drew (kn := .row) rfl hn hzs' (Builtin.zeroCells zv.cells (grownCap w l.toNat 0 e - l.toNat)).toList (grownCap w l.toNat 0 e) (by
              rw [hcell, hzlen, Array.length_toList, size_zeroCells, hzl, ← Nat.add_mul]
              exact Nat.mul_le_mul_right _ (by omega)) true (by simp)
            have e2 : ((Builtin.zeroCells zv.cells l.toNat).toList ++ (Builtin.zeroCells zv.cells (grownCap w l.toNat 0 e - l.toNat)).toList).toArray = Builtin.zeroCells zv.cells l.toNat ++ Builtin.zeroCells zv.cells (grownCap w l.toNat 0 e - l.toNat) := by
              apply Array.ext'; simp
            rw [e2] at hr' hbel
            exact ⟨_, _, μ', rfl, hext, .sl hloc hge (grownCap_le_maxLen w l.toNat 0 e (by unfold maxLen; omega)) (fun _ _ => Nat.le_refl _), hr', (Below.refl base w).drew.trans hbel⟩
        · cases h
      · cases h
    · cases h
  · cases h
end
end Go.Proofs.Ythioggjaccpfgaa.Ax
