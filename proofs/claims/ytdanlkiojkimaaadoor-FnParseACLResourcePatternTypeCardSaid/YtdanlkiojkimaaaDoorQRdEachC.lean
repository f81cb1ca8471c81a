/-
  APPENDEACH: what its contract gives, its call in the world comes to.
-/
import Derived.Test.YtdanlkiojkimaaaDoorQRdEachA
import Derived.Test.YtdanlkiojkimaaaDoorQRdNs
import Derived.Test.YtdanlkiojkimaaaDoorProg
import Derived.Shelf.Lays
import Derived.Test.YtdanlkiojkimaaaDoorQa
import Derived.Shelf.Strings.OnBuilder
import Derived.Shelf.Strings.TrimSpace
import Derived.Test.YtdanlkiojkimaaaDoorQLwWorld
import Derived.Lib.LaidU8
import Derived.Lay
import Derived.Deep.DeepHandedRow
set_option linter.constructorNameAsVariable false
set_option linter.unusedVariables false
set_option linter.unusedSimpArgs false
namespace Go.Proofs.YtdanlkiojkimaaaDoor.Rd
open Go Go.RowKit Go.ChangeMaps Go.Proofs.YtdanlkiojkimaaaDoor.Ax
set_option maxRecDepth 100000
theorem nocE : noCount P = true := by kernel_rfl
section
variable {ρ : Nat → Value} {base : Nat} {μ μ' : List Ax.Loc} {H Hi H' : Heap} {w : World}
theorem CA.calls (hρ : ∀ j, (ρ j).oneCell' = true) {f : FuncId} {args : List AV} {v : AV} (h : CA P noS f args H (v, H')) {vs : List Value} (hr : HR P ρ base μ H w) (hv : VRs ρ μ args vs) : Calls P f vs.toArray w (Meets P ρ base μ w v H') := by
  obtain ⟨n, hn⟩ := h
  exact (run_sound hρ (noCount_iff nocE) noS_sound (drawA_sound hρ (noCount_iff nocE)) n).at_ (callWith_bodied rfl (hn n (Nat.le_refl _))) (hn n (Nat.le_refl _)) hr hv
theorem cell_at (hr : HR P ρ base μ H w) {b o : Nat} {ty : TypeId} {kn : Kn} {cs : List AV} {x : AV} {l : Ax.Loc} (hb : H[b]? = some (.cells ty kn cs)) (hx : cs[o]? = some x) (hl : μ[b]? = some l) : ∃ v, w.cell? ⟨l.b, o, none⟩ = some v ∧ VR ρ μ x v := by
  obtain ⟨cur, fz, h1, _, _, _, h5, _, h7⟩ := hr.live b ty kn cs l hb hl
  obtain ⟨v, hv, hvr⟩ := VRs.at h7 hx
  refine ⟨v, ?_, hvr⟩
  rw [cell_of_row _ _ _ _ _ _ h1]
  rw [List.getElem?_take] at hv
  split at hv
  · simpa using hv
  · cases hv
theorem map_keys {l : Ax.Loc} {es : List (Int × AV)} {xs : Array MapEntry} (h3 : xs.size = es.length) (h7 : ∀ (j : Nat) (x : MapEntry) (k : Int) (v : AV), xs.toList[j]? = some x → es[j]? = some (k, v) → x.key = .int .u32 k ∧ v.one = true ∧ VR ρ μ v x.val) :
    xs.toList.map (·.key) = (es.map (·.1)).map (Value.int .u32) := by
  apply List.ext_getElem?
  intro j
  simp only [List.getElem?_map]
  by_cases hj : j < es.length
  · have h1 : xs.toList[j]? = some (xs.toList[j]'(by simp; omega)) := by simp
    have h2 : es[j]? = some (es[j]) := by simp
    rw [h1, h2]
    simp only [Option.map_some]
    exact congrArg some (h7 j _ _ _ h1 (by rw [h2])).1
  · rw [List.getElem?_eq_none (by simp; omega), List.getElem?_eq_none (by omega)]; rfl
theorem map_val {es : List (Int × AV)} {xs : Array MapEntry} (h3 : xs.size = es.length) (hnd : (es.map (·.1)).Nodup) (h7 : ∀ (j : Nat) (x : MapEntry) (k : Int) (v : AV), xs.toList[j]? = some x → es[j]? = some (k, v) → x.key = .int .u32 k ∧ v.one = true ∧ VR ρ μ v x.val)
    {k : Int} {v : AV} (hm : (k, v) ∈ es) : ∃ u, (∀ x ∈ xs.toList, x.key = .int .u32 k → x.val = u) ∧ VR ρ μ v u := by
  obtain ⟨j, hj, hje⟩ := List.mem_iff_getElem.1 hm
  have h2 : es[j]? = some (k, v) := by rw [List.getElem?_eq_getElem hj, hje]
  have h1 : xs.toList[j]? = some (xs.toList[j]'(by simp; omega)) := by simp
  refine ⟨(xs.toList[j]'(by simp; omega)).val, fun x hx hk => ?_, (h7 j _ _ _ h1 h2).2.2⟩
  obtain ⟨i, hi, rfl⟩ := List.mem_iff_getElem.1 hx
  have hi' : i < es.length := by simp at hi; omega
  have := (h7 i _ (es[i]).1 (es[i]).2 (List.getElem?_eq_getElem hi) (List.getElem?_eq_getElem hi')).1
  rw [hk] at this
  simp at this
  have e1 : i = j := by
    have a1 : (es.map (·.1))[i]? = some k := by simp [hi', this]
    have a2 : (es.map (·.1))[j]? = some k := by rw [List.getElem?_map, h2]; rfl
    exact (List.getElem?_inj (by simpa using hi') hnd).1 (a1.trans a2.symm)
  subst e1
  rfl
theorem each_none {tb to_ : Nat} {xv fn : Value} {W : World} (hc : W.cell? ⟨tb, to_, none⟩ = some xv) (hl : (Builtin.len_ #[162] 3 #[xv]).run Tryd.prog W = .ok (.int .i64 0) W) :
    Calls Tryd.prog 144 #[.pointer (some ⟨tb, to_, none⟩), fn] W fun e w' => e = .returned (.tuple #[]) ∧ w' = W := by
  go_enter Tryd.func144, Tryd.ntmps144
  go_wp2
  (try simp only [Exit.inBlock, Exit.then]); refine bodyPost_ret (results_none rfl _ _ _) rfl ?_
  exact ⟨rfl, rfl⟩
theorem append_each {p d v : Value} {w : World} {R : World → Prop} (hE : Calls Tryd.prog 144 #[p, .func (.func 145) #[] #[.pointer (some ⟨w.heap.size, 0, none⟩)]] (w.alloc (.cells #[d] 22)) fun e w' => e = .returned (.tuple #[]) ∧ R w')
    {Q : Value → World → Prop} (hR : ∀ w', R w' → ∃ v, w'.cell? ⟨w.heap.size, 0, none⟩ = some v ∧ Q v w') (hd : d.oneCell' = true) : Calls Tryd.prog 97 #[p, d] w fun e w' => ∃ v, e = .returned v ∧ Q v w' := by
  have hdc : d.cells = #[d] := Ax.cells_one hd
  go_enter Tryd.func97, Tryd.ntmps97
  go_wp2_with (go_at_call 144; refine hE.mono ?_; rintro e w' ⟨rfl, hw⟩; obtain ⟨v, hcv, hq⟩ := hR w' hw)
  go_ret
  exact ⟨v, rfl, hq⟩
theorem loadA_cell {i o : Nat} {v : AV} (h : loadA P H tB (.p i o) = some v) : ∃ ty kn cs, H[i]? = some (.cells ty kn cs) ∧ cs[o]? = some v := by
  have h : loadAt P H tB i o = some v := h
  unfold loadAt at h
  rw [aggB] at h
  cases hH : H[i]? with
  | none => rw [hH] at h; simp at h
  | some blk =>
    rw [hH] at h
    cases blk with
    | cells ty kn cs => exact ⟨ty, kn, cs, rfl, h⟩
    | map _ _ => simp at h
    | dead => simp at h
theorem keys_start {W1 w1 : World} {n : Nat} {H1 : Heap} {μ1 : List Ax.Loc} {es' : List (Int × AV)} (hr1 : HR P ρ base μ1 H1 W1) (hn : es'.length = n) (hbig : n ≤ 1099511627776) (hK : Keys W1 n (es'.map (·.1)) w1) :
    HR P ρ base (μ1 ++ [⟨W1.heap.size, n, true⟩] ++ [⟨W1.heap.size + 1, 0, false⟩]) (H1 ++ [.cells 110 .row (es'.map fun e => .i .u32 e.1)] ++ [.cells 249 .vr [.sl H1.length 0 n]]) w1 := by
  have ha : HR P ρ base μ1 H1 w1 := hr1.aside hK.below.size fun i b l hi hb hl => by
    cases b with
    | cells ty kn cs => exact hK.below.block _ (hr1.live i ty kn cs l hi hl).lt
    | map kd es => exact hK.below.block _ (hr1.maps i kd es l hi hl).lt
    | dead => exact absurd rfl hb
  have hold : ∀ (i : Nat) (ty : TypeId) (kn : Kn) (cs : List AV) (l : Ax.Loc), H1[i]? = some (.cells ty kn cs) → μ1[i]? = some l → l.b < W1.heap.size := fun i ty kn cs l hi hl => (hr1.live i ty kn cs l hi hl).lt
  have hc1 : P.cellsOf 110 = 1 := by kernel_rfl
  have hb1 : base ≤ W1.heap.size := hr1.base_le
  have h2 := ha.adopt (kn := .row) rfl (cs := es'.map fun e => .i .u32 e.1) (by simp [AV.one]) hK.row hb1 (by simp) ⟨by simp, fun j x v hx hv => by
    rw [List.getElem?_map] at hx
    obtain ⟨e, he, rfl⟩ := Option.map_eq_some_iff.1 hx
    rw [List.getElem?_take] at hv
    split at hv
    · simp only [List.toList_toArray, List.getElem?_map, he, Option.map_some, Option.some.injEq] at hv
      subst hv; exact .i _ _
    · cases hv⟩ n (by rw [hc1]; simp [hn]) true (by simp) (fun i ty kn cs l hi _ hl => by have := hold i ty kn cs l hi hl; omega)
  have hloc : (μ1 ++ [⟨W1.heap.size, n, true⟩])[H1.length]? = some ⟨W1.heap.size, n, true⟩ := by rw [← hr1.len]; simp
  refine h2.adopt (kn := .vr) rfl (cs := [.sl H1.length 0 n]) (by simp [AV.one]) hK.box (by omega) (by simp) ?_ 0 (by simp) false (by simp) (fun i ty kn cs l hi _ hl => ?_)
  · simp only [List.length_cons, List.length_nil, Nat.zero_add]
    exact .cons (.sl hloc (Nat.le_refl _) (by unfold maxLen; omega) (fun _ _ => Nat.le_refl _)) .nil
  · rcases at_last hi with ⟨hlt, hi'⟩ | ⟨rfl, e⟩
    · have := hold i ty kn cs l hi' (loc_old hr1.len hlt hl); omega
    · obtain rfl := loc_last hr1.len hl
      simp
theorem eachHeap_eq (H : Heap) (dst : AV) (es : List (Int × AV)) : eachHeap H dst es = (H ++ [.cells tB .vr [dst]]) ++ [.cells 110 .row (es.map fun e => .i .u32 e.1)] ++ [.cells 249 .vr [.sl (H ++ [Blk.cells tB .vr [dst]]).length 0 es.length]] := by
  simp [eachHeap]
def Inv (ρ : Nat → Value) (base : Nat) (μ2 : List Ax.Loc) (w : World) (box : Nat) (K : List Nat) (Hs : Heap) (es : List (Int × AV)) (H' : Heap) (i : Nat) (w' : World) : Prop :=
  ∃ μ' Hi, HR P ρ base μ' Hi w' ∧ Ext μ2 μ' ∧ Below base w w' ∧ EachRun box K Hi (es.drop i) H' ∧ ∀ j ∈ K, Hi[j]? = Hs[j]?
theorem append_some (hρ : ∀ j, (ρ j).oneCell' = true) {b o i : Nat} {dst v : AV} {ty : TypeId} {kn : Kn} {cs : List AV} {es es' : List (Int × AV)} (hb : H[b]? = some (.cells ty kn cs)) (hx : cs[o]? = some (.mp i)) (hd : dst.one = true) (hi : H[i]? = some (.map .u32 es)) (hp : List.Perm es' es)
    (hso : (es'.map (·.1)).Pairwise (· < ·)) (h0 : 0 < es.length) (hbig : es.length ≤ 1099511627776) (hrun : EachRun H.length [b, i, H.length + 1, H.length + 2] (eachHeap H dst es') es' H') (hv : loadA P H' tB (.p H.length 0) = some v) {vs : List Value}
    (hr : HR P ρ base μ H w) (hvs : VRs ρ μ [.p b o, dst] vs) : Calls P 97 vs.toArray w (Meets P ρ base μ w v H') := by
  obtain ⟨hl2, hvs2⟩ := hvs
  match vs, hl2 with
  | [p', d'], hl3 =>
    have hp' : VR ρ μ (.p b o) p' := hvs2 0 _ _ rfl rfl
    have hd' : VR ρ μ dst d' := hvs2 1 _ _ rfl rfl
    clear hvs2 hl3
    cases hp' with
    | p hlb =>
      rename_i lb
      obtain ⟨xv, hxc, hxr⟩ := cell_at hr hb hx hlb
      cases hxr with
      | mp hlm =>
        rename_i lm
        obtain ⟨xs, clk, m1, m2, m3, m4, m5, m6, m7⟩ := hr.maps i _ es lm hi hlm
        have hd1 : d'.oneCell' = true := hd'.oneCell hρ hd
        have hel : es'.length = es.length := hp.length_eq
        have hr1 := hr.alloc tB (kn := .vr) rfl (cs := [dst]) (by simp [hd]) (vs := [d']) (more := []) (.cons hd' .nil) 0 (by simp) false (by simp)
        simp only [List.append_nil] at hr1
        have e1 : ([d'] : List Value).toArray = #[d'] := rfl
        rw [e1] at hr1
        have hW1 : (w.alloc (.cells #[d'] tB)).heap.size = w.heap.size + 1 := by simp
        have hbel1 : Below base w (w.alloc (.cells #[d'] tB)) := (Below.refl _ _).alloc hr.base_le _
        have hE : Calls P 144 #[.pointer (some ⟨lb.b, o, none⟩), .func (.func 145) #[] #[.pointer (some ⟨w.heap.size, 0, none⟩)]] (w.alloc (.cells #[d'] tB)) fun e w' => e = .returned (.tuple #[]) ∧
            Inv ρ base (μ ++ [⟨w.heap.size, 0, false⟩]) w H.length [b, i, H.length + 1, H.length + 2] (eachHeap H dst es') es' H' es.length w' := by
          have hlblt : lb.b < w.heap.size := (hr.live b ty kn cs lb hb hlb).lt
          have hlmlt : lm.b < w.heap.size := (hr.maps i _ es lm hi hlm).lt
          have hbl : b < H.length := (List.getElem?_eq_some_iff.1 hb).1
          have hil : i < H.length := (List.getElem?_eq_some_iff.1 hi).1
          have hlen1 : (μ ++ [(⟨w.heap.size, 0, false⟩ : Ax.Loc)]).length = H.length + 1 := by simp [hr.len]
          have hb' : (eachHeap H dst es')[b]? = some (.cells ty kn cs) := by unfold eachHeap; rw [List.getElem?_append_left hbl]; exact hb
          have hi' : (eachHeap H dst es')[i]? = some (.map .u32 es) := by unfold eachHeap; rw [List.getElem?_append_left hil]; exact hi
          have hrow' : (eachHeap H dst es')[H.length + 1]? = some (.cells 110 .row (es'.map fun e => .i .u32 e.1)) := by unfold eachHeap; rw [List.getElem?_append_right (by omega)]; simp
          refine (each_walk lb.b o lm.b es.length xs clk _ (w.alloc (.cells #[d'] tB)) m3 h0 hbig ?_ ?_ m4 m5 (es'.map (·.1)) ?_ hso (fun j w' => Inv ρ base ((μ ++ [⟨w.heap.size, 0, false⟩]) ++ [⟨w.heap.size + 1, es.length, true⟩]) w H.length [b, i, H.length + 1, H.length + 2] (eachHeap H dst es') es' H' j w') ?_ ?_ 145 #[.pointer (some ⟨w.heap.size, 0, none⟩)] rfl ?_ (enters_of Tryd.func145 (by kernel_rfl) rfl)).mono fun e w' ⟨q1, μ', Hi, q2, q3, q4⟩ => ⟨q1, μ', Hi, q2, fun j l h => q3 j l (Ext.append _ _ j l h), q4⟩
          · rw [(((Below.refl w.heap.size w).alloc (Nat.le_refl _) _).cell (p := ⟨lb.b, o, none⟩) hlblt)]; exact hxc
          · exact (heap_alloc_old _ _ hlmlt).trans m1
          · rw [map_keys (l := lm) m3 m7]; exact (hp.map _).map _
          · intro w1 hK
            have h3 := keys_start hr1 hel hbig hK
            rw [hW1] at h3
            have h4 := eachHeap_eq H dst es'
            rw [hel] at h4
            rw [← h4] at h3
            refine ⟨_, _, h3, Ext.append _ _, hbel1.trans (hK.below.mono (by have := hr.base_le; omega)), by simpa using hrun, fun _ _ => rfl⟩
          · rintro j w1 ⟨μ', Hi, i1, i2, i3, i4, i5⟩
            have ext0 : Ext μ μ' := fun q l h => i2 q l (Ext.append _ _ q l (Ext.append _ _ q l h))
            constructor
            · obtain ⟨xv2, c1, c2⟩ := cell_at i1 ((i5 b (by simp)).trans hb') hx (ext0 _ _ hlb)
              cases c2 with
              | mp hl2 =>
                rename_i lm2
                obtain rfl : lm = lm2 := Option.some.inj ((ext0 _ _ hlm).symm.trans hl2)
                exact c1
            · intro q hq
              have hloc : μ'[H.length + 1]? = some ⟨w.heap.size + 1, es.length, true⟩ := i2 _ _ (by rw [← hlen1]; simp)
              have hq' : q < es'.length := by omega
              obtain ⟨u, c1, c2⟩ := cell_at (o := q) (x := .i .u32 (es'[q]).1) i1 ((i5 (H.length + 1) (by simp)).trans hrow') (by simp [hq']) hloc
              cases c2
              rw [hW1, c1]
              simp [hq']
          · rintro j k w1 ⟨μ', Hi, i1, i2, i3, i4, i5⟩ hk
            have ext0 : Ext μ μ' := fun q l h => i2 q l (Ext.append _ _ q l (Ext.append _ _ q l h))
            rw [List.getElem?_map] at hk
            obtain ⟨⟨k', av⟩, hje, rfl⟩ := Option.map_eq_some_iff.1 hk
            have hjl := (List.getElem?_eq_some_iff.1 hje).1
            have hdrop : es'.drop j = (k', av) :: es'.drop (j + 1) := by rw [List.drop_eq_getElem_cons hjl, (List.getElem?_eq_some_iff.1 hje).2]
            rw [hdrop] at i4
            cases i4 with
            | cons hca hkk ht =>
              rename_i H1
              have hmem : (k', av) ∈ es := hp.mem_iff.1 (List.mem_of_getElem? hje)
              obtain ⟨xs2, clk2, n1, n2, n3, n4, n5, n6, n7⟩ := i1.maps i _ es lm ((i5 i (by simp)).trans hi') (ext0 _ _ hlm)
              obtain ⟨u, u1, u2⟩ := map_val n3 n6 n7 hmem
              refine ⟨u, lookup_run (ks := es.map (·.1)) (by kernel_rfl) n1 (by rw [map_keys (l := lm) n3 n7]) (List.mem_map.2 ⟨_, hmem, rfl⟩) u1, ?_⟩
              have hbx : μ'[H.length]? = some ⟨w.heap.size, 0, false⟩ := i2 _ _ (by rw [List.getElem?_append_left (by rw [hlen1]; omega), ← hr.len]; simp)
              refine (CA.calls hρ hca i1 (vs := [.int .u32 k', u, .pointer (some ⟨w.heap.size, 0, none⟩)]) (.cons (.i _ _) (.cons u2 (.cons (.p hbx) .nil)))).mono fun e w2 hm => ?_
              obtain ⟨v', μ'', he, e1', hv', h5, h6⟩ := hm
              cases hv' with
              | t hl hh =>
                rename_i us
                obtain rfl : us = [] := List.eq_nil_of_length_eq_zero (by simpa using hl.symm)
                exact ⟨he, μ'', H1, h5, i2.trans e1', i3.trans h6, ht, fun q hq => (hkk q hq).trans (i5 q hq)⟩
        refine (append_each (w := w) (v := undef) (Q := fun u w' => ∃ μ', Ext μ μ' ∧ VR ρ μ' v u ∧ HR P ρ base μ' H' w' ∧ Below base w w') hE (fun w' hI => ?_) hd1).mono fun e w' ⟨u, he, μ', q1, q2, q3, q4⟩ => ⟨u, μ', he, q1, q2, q3, q4⟩
        obtain ⟨μ', Hi, i1, i2, i3, i4, i5⟩ := hI
        rw [List.drop_of_length_le (by omega)] at i4
        cases i4
        have hloc : μ'[H.length]? = some ⟨w.heap.size, 0, false⟩ := i2 _ _ (by rw [← hr.len]; simp)
        obtain ⟨ty2, kn2, cs2, hh, hv⟩ := loadA_cell hv
        obtain ⟨u, hu, hur⟩ := cell_at i1 hh hv hloc
        exact ⟨u, hu, μ', fun j l h => i2 j l (Ext.append _ _ j l h), hur, i1, i3⟩
theorem append_none (hρ : ∀ j, (ρ j).oneCell' = true) {b o : Nat} {dst x : AV} {ty : TypeId} {kn : Kn} {cs : List AV} (hb : H[b]? = some (.cells ty kn cs)) (hx : cs[o]? = some x) (hd : dst.one = true) (hn : x = .m0 ∨ ∃ i, x = .mp i ∧ H[i]? = some (.map .u32 []))
    {vs : List Value} (hr : HR P ρ base μ H w) (hvs : VRs ρ μ [.p b o, dst] vs) : Calls P 97 vs.toArray w (Meets P ρ base μ w dst H) := by
  obtain ⟨hl2, hvs2⟩ := hvs
  match vs, hl2 with
  | [p', d'], hl3 =>
    have hp' : VR ρ μ (.p b o) p' := hvs2 0 _ _ rfl rfl
    have hd' : VR ρ μ dst d' := hvs2 1 _ _ rfl rfl
    clear hvs2 hl3
    cases hp' with
    | p hlb =>
      rename_i lb
      obtain ⟨xv, hxc, hxr⟩ := cell_at hr hb hx hlb
      have hd1 : d'.oneCell' = true := hd'.oneCell hρ hd
      have hlblt : lb.b < w.heap.size := (hr.live b ty kn cs lb hb hlb).lt
      have hc : (w.alloc (.cells #[d'] tB)).cell? ⟨lb.b, o, none⟩ = some xv := by rw [(((Below.refl w.heap.size w).alloc (Nat.le_refl _) _).cell (p := ⟨lb.b, o, none⟩) hlblt)]; exact hxc
      have hum : Tryd.prog.underlying 162 = some (.map 110 22) := by kernel_rfl
      have hlen : (Builtin.len_ #[162] 3 #[xv]).run Tryd.prog (w.alloc (.cells #[d'] tB)) = .ok (.int .i64 0) (w.alloc (.cells #[d'] tB)) := by
        rcases hn with rfl | ⟨i, rfl, hi⟩
        · cases hxr
          simp [Builtin.len_, run_underlying hum, goInt]
        · cases hxr with
          | mp hlm =>
            rename_i lm
            obtain ⟨xs, clk, m1, _, m3, _⟩ := hr.maps i _ [] lm hi hlm
            have hlt := (hr.maps i _ [] lm hi hlm).lt
            have hg : (getObj lm.b).run Tryd.prog (w.alloc (.cells #[d'] tB)) = .ok (.map xs clk) (w.alloc (.cells #[d'] tB)) := by
              have := (heap_alloc_old w (.cells #[d'] tB) hlt).trans m1
              simp [getObj, Sem.run, this]
            simp [Builtin.len_, run_underlying hum, hg, goInt, m3]
      have hE := each_none (fn := .func (.func 145) #[] #[.pointer (some ⟨w.heap.size, 0, none⟩)]) hc hlen
      refine (append_each (w := w) (v := undef) (R := fun w' => w' = w.alloc (.cells #[d'] tB)) (Q := fun u w' => ∃ μ', Ext μ μ' ∧ VR ρ μ' dst u ∧ HR P ρ base μ' H w' ∧ Below base w w') hE (fun w' hw => ?_) hd1).mono fun e w' ⟨u, he, μ', q1, q2, q3, q4⟩ => ⟨u, μ', he, q1, q2, q3, q4⟩
      subst hw
      refine ⟨d', ?_, μ, Ext.refl _, hd', hr.aside (by simp) (fun i b l hi hb' hl => ?_), (Below.refl _ _).alloc hr.base_le _⟩
      · rw [cell_of_row _ _ _ _ _ _ (heap_alloc_new w _)]; rfl
      · refine heap_alloc_old _ _ ?_
        cases b with
        | cells ty kn cs => exact (hr.live i ty kn cs l hi hl).lt
        | map kd es => exact (hr.maps i kd es l hi hl).lt
        | dead => exact absurd rfl hb'
theorem each_sound (hρ : ∀ j, (ρ j).oneCell' = true) : CallSound P ρ base nsEach := by
  intro f args H v H' h
  unfold nsEach at h
  cases hf : Nat.beq f 97 with
  | false => rw [hf] at h; cases h
  | true =>
    rw [hf] at h
    have hfe : f = 97 := Nat.eq_of_beq_eq_true hf
    subst hfe
    have h : eachS 97 args H = some (v, H') := h
    unfold eachS at h
    split at h
    · rename_i hex
      simp only [Option.some.injEq] at h
      have hr := hex.choose_spec
      rw [h] at hr
      refine .inl ⟨⟨_, Tryd.func97, rfl⟩, fun μ w vs hR hvs => ?_⟩
      obtain ⟨b, o, dst, x, ty, kn, cs, rfl, hb, hx, hd, hc | ⟨i, es, es', rfl, hi, hp, hso, h0, hbig, hrun, hv⟩⟩ := hr
      · obtain ⟨hn, he⟩ := hc
        simp only [Prod.mk.injEq] at he
        obtain ⟨rfl, rfl⟩ := he
        exact append_none hρ hb hx hd hn hR hvs
      · exact append_some hρ hb hx hd hi hp hso h0 hbig hrun hv hR hvs
    · cases h
end
end Go.Proofs.YtdanlkiojkimaaaDoor.Rd

namespace Go.Proofs.YtdanlkiojkimaaaDoor.Rd
open Go Go.Shelf
def la159_ren : Go.Shelf.Ren := ⟨fun | 159 => 136 | 165 => 165 | 166 => 166 | 167 => 167 | 169 => 168 | 230 => 169 | 204 => 170 | 240 => 191 | 241 => 192 | 197 => 190 | 118 => 193 | 168 => 194 | 270 => 195 | 262 => 196 | 276 => 210 | 277 => 211 | 260 => 209 | 242 => 212 | 313 => 213 | 278 => 234 | 274 => 235 | 275 => 236 | n => n, fun | 9 => 9 | 4 => 4 | 3 => 3 | 5 => 5 | 72 => 242 | 0 => 0 | 76 => 243 | 75 => 73 | 107 => 247 | 70 => 240 | 20 => 20 | 37 => 22 | 127 => 259 | 21 => 21 | 105 => 257 | 164 => 265 | 162 => 292 | 203 => 290 | 119 => 239 | 46 => 128 | 139 => 310 | 138 => 309 | 51 => 110 | 160 => 311 | 208 => 322 | 206 => 320 | 80 => 103 | n => n, fun | 13 => 4 | 3 => 5 | 4 => 6 | n => n⟩
theorem la159 : Go.Proofs.Lays.n159 Tryd.prog la159_ren := {
  mixed := by kernel_rfl,
  f118 := Tryd.func193.trans (congrArg some (by kernel_rfl)),
  f159 := Tryd.func136.trans (congrArg some (by kernel_rfl)),
  f165 := Tryd.func165.trans (congrArg some (by kernel_rfl)),
  f166 := Tryd.func166.trans (congrArg some (by kernel_rfl)),
  f167 := Tryd.func167.trans (congrArg some (by kernel_rfl)),
  f168 := Tryd.func194.trans (congrArg some (by kernel_rfl)),
  f169 := Tryd.func168.trans (congrArg some (by kernel_rfl)),
  f197 := Tryd.func190.trans (congrArg some (by kernel_rfl)),
  f204 := Tryd.func170.trans (congrArg some (by kernel_rfl)),
  f230 := Tryd.func169.trans (congrArg some (by kernel_rfl)),
  f240 := Tryd.func191.trans (congrArg some (by kernel_rfl)),
  f241 := Tryd.func192.trans (congrArg some (by kernel_rfl)),
  f242 := Tryd.func212.trans (congrArg some (by kernel_rfl)),
  f260 := Tryd.func209.trans (congrArg some (by kernel_rfl)),
  f262 := Tryd.func196.trans (congrArg some (by kernel_rfl)),
  f270 := Tryd.func195.trans (congrArg some (by kernel_rfl)),
  f274 := Tryd.func235.trans (congrArg some (by kernel_rfl)),
  f275 := Tryd.func236.trans (congrArg some (by kernel_rfl)),
  f276 := Tryd.func210.trans (congrArg some (by kernel_rfl)),
  f277 := Tryd.func211.trans (congrArg some (by kernel_rfl)),
  f278 := Tryd.func234.trans (congrArg some (by kernel_rfl)),
  f313 := Tryd.func213.trans (congrArg some (by kernel_rfl)),
  t0 := Tryd.underlying0,
  a0 := Tryd.isAgg0,
  z0 := Tryd.sizeOf0,
  v0 := Tryd.zeroValue0,
  t3 := Tryd.underlying3,
  a3 := Tryd.isAgg3,
  z3 := Tryd.sizeOf3,
  v3 := Tryd.zeroValue3,
  t4 := Tryd.underlying4,
  a4 := Tryd.isAgg4,
  z4 := Tryd.sizeOf4,
  v4 := Tryd.zeroValue4,
  t5 := Tryd.underlying5,
  a5 := Tryd.isAgg5,
  z5 := Tryd.sizeOf5,
  v5 := Tryd.zeroValue5,
  t9 := Tryd.underlying9,
  a9 := Tryd.isAgg9,
  z9 := Tryd.sizeOf9,
  v9 := Tryd.zeroValue9,
  t20 := Tryd.underlying20,
  a20 := Tryd.isAgg20,
  z20 := Tryd.sizeOf20,
  v20 := Tryd.zeroValue20,
  t21 := Tryd.underlying21,
  a21 := Tryd.isAgg21,
  z21 := Tryd.sizeOf21,
  v21 := Tryd.zeroValue21,
  t37 := Tryd.underlying22,
  a37 := Tryd.isAgg22,
  z37 := Tryd.sizeOf22,
  v37 := Tryd.zeroValue22,
  t46 := Tryd.underlying128,
  a46 := Tryd.isAgg128,
  z46 := Tryd.sizeOf128,
  v46 := Tryd.zeroValue128,
  t51 := Tryd.underlying110,
  a51 := Tryd.isAgg110,
  z51 := Tryd.sizeOf110,
  v51 := Tryd.zeroValue110,
  t70 := Tryd.underlying240,
  a70 := Tryd.isAgg240,
  z70 := Tryd.sizeOf240,
  v70 := Tryd.zeroValue240,
  t72 := Tryd.underlying242,
  a72 := Tryd.isAgg242,
  z72 := Tryd.sizeOf242,
  v72 := Tryd.zeroValue242,
  t75 := Tryd.underlying73,
  a75 := Tryd.isAgg73,
  z75 := Tryd.sizeOf73,
  v75 := Tryd.zeroValue73,
  t76 := Tryd.underlying243,
  a76 := Tryd.isAgg243,
  z76 := Tryd.sizeOf243,
  v76 := Tryd.zeroValue243,
  t105 := Tryd.underlying257,
  a105 := Tryd.isAgg257,
  z105 := Tryd.sizeOf257,
  v105 := Tryd.zeroValue257,
  t107 := Tryd.underlying247,
  a107 := Tryd.isAgg247,
  z107 := Tryd.sizeOf247,
  v107 := Tryd.zeroValue247,
  t119 := Tryd.underlying239,
  a119 := Tryd.isAgg239,
  z119 := Tryd.sizeOf239,
  t127 := Tryd.underlying259,
  a127 := Tryd.isAgg259,
  z127 := Tryd.sizeOf259,
  v127 := Tryd.zeroValue259,
  t138 := Tryd.underlying309,
  a138 := Tryd.isAgg309,
  z138 := Tryd.sizeOf309,
  v138 := Tryd.zeroValue309,
  t139 := Tryd.underlying310,
  a139 := Tryd.isAgg310,
  z139 := Tryd.sizeOf310,
  v139 := Tryd.zeroValue310,
  t160 := Tryd.underlying311,
  a160 := Tryd.isAgg311,
  z160 := Tryd.sizeOf311,
  v160 := Tryd.zeroValue311,
  t162 := Tryd.underlying292,
  a162 := Tryd.isAgg292,
  z162 := Tryd.sizeOf292,
  v162 := Tryd.zeroValue292,
  t164 := Tryd.underlying265,
  a164 := Tryd.isAgg265,
  z164 := Tryd.sizeOf265,
  v164 := Tryd.zeroValue265,
  t203 := Tryd.underlying290,
  a203 := Tryd.isAgg290,
  z203 := Tryd.sizeOf290,
  v203 := Tryd.zeroValue290,
  t206 := Tryd.underlying320,
  a206 := Tryd.isAgg320,
  z206 := Tryd.sizeOf320,
  v206 := Tryd.zeroValue320,
  t208 := Tryd.underlying322,
  a208 := Tryd.isAgg322,
  z208 := Tryd.sizeOf322,
  v208 := Tryd.zeroValue322,
  g3 := by kernel_rfl,
  g4 := by kernel_rfl,
  g13 := by kernel_rfl }
end Go.Proofs.YtdanlkiojkimaaaDoor.Rd

namespace Go.Proofs.YtdanlkiojkimaaaDoor.Rd
open Go Go.Shelf
def la163_ren : Go.Shelf.Ren := ⟨fun | 163 => 135 | 237 => 162 | 199 => 163 | 238 => 164 | 272 => 187 | 261 => 188 | 273 => 189 | 197 => 190 | 315 => 205 | 311 => 206 | 312 => 207 | 271 => 208 | 260 => 209 | 120 => 233 | n => n, fun | 9 => 9 | 37 => 22 | 3 => 3 | 0 => 0 | 5 => 5 | 4 => 4 | 40 => 238 | 119 => 239 | 21 => 21 | 51 => 110 | 141 => 255 | 105 => 257 | 196 => 282 | 193 => 279 | 198 => 284 | 49 => 27 | 194 => 280 | 201 => 287 | 226 => 306 | 46 => 128 | 227 => 307 | 139 => 310 | 138 => 309 | n => n, fun | 0 => 2 | 6 => 3 | 3 => 5 | 4 => 6 | n => n⟩
theorem la163 : Go.Proofs.Lays.n163 Tryd.prog la163_ren := {
  mixed := by kernel_rfl,
  f120 := Tryd.func233.trans (congrArg some (by kernel_rfl)),
  f163 := Tryd.func135.trans (congrArg some (by kernel_rfl)),
  f197 := Tryd.func190.trans (congrArg some (by kernel_rfl)),
  f199 := Tryd.func163.trans (congrArg some (by kernel_rfl)),
  f237 := Tryd.func162.trans (congrArg some (by kernel_rfl)),
  f238 := Tryd.func164.trans (congrArg some (by kernel_rfl)),
  f260 := Tryd.func209.trans (congrArg some (by kernel_rfl)),
  f261 := Tryd.func188.trans (congrArg some (by kernel_rfl)),
  f271 := Tryd.func208.trans (congrArg some (by kernel_rfl)),
  f272 := Tryd.func187.trans (congrArg some (by kernel_rfl)),
  f273 := Tryd.func189.trans (congrArg some (by kernel_rfl)),
  f311 := Tryd.func206.trans (congrArg some (by kernel_rfl)),
  f312 := Tryd.func207.trans (congrArg some (by kernel_rfl)),
  f315 := Tryd.func205.trans (congrArg some (by kernel_rfl)),
  t0 := Tryd.underlying0,
  a0 := Tryd.isAgg0,
  z0 := Tryd.sizeOf0,
  v0 := Tryd.zeroValue0,
  t3 := Tryd.underlying3,
  a3 := Tryd.isAgg3,
  z3 := Tryd.sizeOf3,
  v3 := Tryd.zeroValue3,
  t4 := Tryd.underlying4,
  a4 := Tryd.isAgg4,
  z4 := Tryd.sizeOf4,
  v4 := Tryd.zeroValue4,
  t5 := Tryd.underlying5,
  a5 := Tryd.isAgg5,
  z5 := Tryd.sizeOf5,
  v5 := Tryd.zeroValue5,
  t9 := Tryd.underlying9,
  a9 := Tryd.isAgg9,
  z9 := Tryd.sizeOf9,
  v9 := Tryd.zeroValue9,
  t21 := Tryd.underlying21,
  a21 := Tryd.isAgg21,
  z21 := Tryd.sizeOf21,
  v21 := Tryd.zeroValue21,
  t37 := Tryd.underlying22,
  a37 := Tryd.isAgg22,
  z37 := Tryd.sizeOf22,
  v37 := Tryd.zeroValue22,
  t40 := Tryd.underlying238,
  a40 := Tryd.isAgg238,
  z40 := Tryd.sizeOf238,
  v40 := Tryd.zeroValue238,
  t46 := Tryd.underlying128,
  a46 := Tryd.isAgg128,
  z46 := Tryd.sizeOf128,
  v46 := Tryd.zeroValue128,
  t49 := Tryd.underlying27,
  a49 := Tryd.isAgg27,
  z49 := Tryd.sizeOf27,
  v49 := Tryd.zeroValue27,
  t51 := Tryd.underlying110,
  a51 := Tryd.isAgg110,
  z51 := Tryd.sizeOf110,
  v51 := Tryd.zeroValue110,
  t105 := Tryd.underlying257,
  a105 := Tryd.isAgg257,
  z105 := Tryd.sizeOf257,
  v105 := Tryd.zeroValue257,
  t119 := Tryd.underlying239,
  a119 := Tryd.isAgg239,
  z119 := Tryd.sizeOf239,
  t138 := Tryd.underlying309,
  a138 := Tryd.isAgg309,
  z138 := Tryd.sizeOf309,
  v138 := Tryd.zeroValue309,
  t139 := Tryd.underlying310,
  a139 := Tryd.isAgg310,
  z139 := Tryd.sizeOf310,
  v139 := Tryd.zeroValue310,
  t141 := Tryd.underlying255,
  a141 := Tryd.isAgg255,
  z141 := Tryd.sizeOf255,
  v141 := Tryd.zeroValue255,
  t193 := Tryd.underlying279,
  a193 := Tryd.isAgg279,
  z193 := Tryd.sizeOf279,
  v193 := Tryd.zeroValue279,
  t194 := Tryd.underlying280,
  a194 := Tryd.isAgg280,
  z194 := Tryd.sizeOf280,
  v194 := Tryd.zeroValue280,
  t196 := Tryd.underlying282,
  a196 := Tryd.isAgg282,
  z196 := Tryd.sizeOf282,
  v196 := Tryd.zeroValue282,
  t198 := Tryd.underlying284,
  a198 := Tryd.isAgg284,
  z198 := Tryd.sizeOf284,
  v198 := Tryd.zeroValue284,
  t201 := Tryd.underlying287,
  a201 := Tryd.isAgg287,
  z201 := Tryd.sizeOf287,
  v201 := Tryd.zeroValue287,
  t226 := Tryd.underlying306,
  a226 := Tryd.isAgg306,
  z226 := Tryd.sizeOf306,
  v226 := Tryd.zeroValue306,
  t227 := Tryd.underlying307,
  a227 := Tryd.isAgg307,
  z227 := Tryd.sizeOf307,
  v227 := Tryd.zeroValue307,
  g0 := by kernel_rfl,
  g3 := by kernel_rfl,
  g4 := by kernel_rfl,
  g6 := by kernel_rfl }
end Go.Proofs.YtdanlkiojkimaaaDoor.Rd

namespace Go.Proofs.YtdanlkiojkimaaaDoor.Rd
open Go Go.RowKit Go.Proofs.YtdanlkiojkimaaaDoor.Ax
set_option maxRecDepth 100000
theorem hr_below {P : Program} {ρ : Nat → Value} {base : Nat} {μ : List Ax.Loc} {H : Heap} {w w' : World} (h : HR P ρ base μ H w) (hb : Below w.heap.size w w') : HR P ρ base μ H w' :=
  h.aside hb.size fun i b l hi hd hl => hb.block _ (by
    cases b with
    | cells ty kn cs => exact (h.live i ty kn cs l hi hl).lt
    | map kd es => exact (h.maps i kd es l hi hl).lt
    | dead => exact absurd rfl hd)
theorem meets_below {P : Program} {ρ : Nat → Value} {base : Nat} {μ : List Ax.Loc} {H : Heap} {w w' : World} (h : HR P ρ base μ H w) (hb : Below w.heap.size w w') (x : ByteArray) : Meets P ρ base μ w (.s x) H (.returned (.string x)) w' :=
  ⟨_, μ, rfl, Ext.refl _, .s x, hr_below h hb, hb.mono h.base_le⟩
theorem ascii_at {x : ByteArray} (h : asciiB x = true) : x.size ≤ 1048576 ∧ ∀ (j : Nat) (b : UInt8), x.data.toList[j]? = some b → b.toNat < 128 := by
  unfold asciiB at h
  simp only [Bool.and_eq_true, decide_eq_true_eq, List.all_eq_true] at h
  exact ⟨h.1, fun j b hb => h.2 b (List.mem_of_getElem? hb)⟩
theorem low_extra : Go.Proofs.Builder.Extra P la159_ren where
  sizeBuilder := by kernel_rfl
  liesBuilder := by kernel_rfl
  t5 := la159.t5
  a5 := la159.a5
  z5 := la159.z5
  v5 := la159.v5
  infoByte := by kernel_rfl
  cellsByte := by kernel_rfl
  sizeByte := by kernel_rfl
  neB5 := by decide
theorem low_sound {ρ : Nat → Value} {base : Nat} : CallSound P ρ base nsLow := by
  intro f args H v H' h
  unfold nsLow at h
  cases hf : Nat.beq f 136 with
  | false => rw [hf] at h; cases h
  | true =>
    rw [hf] at h
    obtain rfl : f = 136 := Nat.eq_of_beq_eq_true hf
    simp only [cond_true] at h
    unfold lowS at h
    split at h
    · rename_i x
      split at h
      · rename_i ha
        cases h
        refine .inl ⟨⟨_, Tryd.func136, rfl⟩, fun μ w vs hR hv => ?_⟩
        obtain ⟨hl, hv⟩ := hv
        match vs, hl with
        | [a], _ =>
          have h0 := hv 0 _ _ rfl rfl
          cases h0
          obtain ⟨h1, h2⟩ := ascii_at ha
          have hc := Go.Proofs.Any.strings_ToLower_ascii la159 low_extra x w (by omega) h2
          have hc : Calls P 136 #[.string x] w fun e w' => e = .returned (.string ⟨(Lib.toLowerA x.data.toList).toArray⟩) ∧ Below w.heap.size w w' := hc
          exact hc.mono fun e w' ⟨he, hb⟩ => by subst he; exact meets_below hR hb _
      · cases h
    · cases h
theorem trim_sound {ρ : Nat → Value} {base : Nat} : CallSound P ρ base nsTrim := by
  intro f args H v H' h
  unfold nsTrim at h
  cases hf : Nat.beq f 135 with
  | false => rw [hf] at h; cases h
  | true =>
    rw [hf] at h
    obtain rfl : f = 135 := Nat.eq_of_beq_eq_true hf
    simp only [cond_true] at h
    unfold trimS at h
    split at h
    · rename_i x
      split at h
      · rename_i ha
        obtain ⟨ha, hsp⟩ := ha
        cases h
        refine .inl ⟨⟨_, Tryd.func135, rfl⟩, fun μ w vs hR hv => ?_⟩
        obtain ⟨hl, hv⟩ := hv
        match vs, hl with
        | [a], _ =>
          have h0 := hv 0 _ _ rfl rfl
          cases h0
          obtain ⟨h1, h2⟩ := ascii_at ha
          have htab : Lib.TabIs P w "strings.asciiSpace" .u8 Lib.asciiSpaceTab := by
            unfold spaceAt at hsp
            split at hsp
            · rename_i ty cs hcs
              simp only [Bool.and_eq_true, beq_iff_eq, List.all_eq_true] at hsp
              obtain ⟨hlen, hall⟩ := hsp
              have hml : (2 : Nat) < μ.length := by rw [hR.len]; exact (List.getElem?_eq_some_iff.1 hcs).1
              obtain ⟨l, hl⟩ : ∃ l, μ[(2 : Nat)]? = some l := ⟨μ[(2 : Nat)], by simp [hml]⟩
              have hlb := hR.same _ _ _ _ _ hcs rfl hl
              obtain ⟨cur, fz, hb, _, hro, _, hle, _, hvs⟩ := hR.live _ _ _ _ _ hcs hl
              rw [hlb] at hb
              have hsz := (hro rfl).2
              have hg : P.globalNamed "strings.asciiSpace" = some 2 := by kernel_rfl
              unfold Lib.TabIs World.var?
              rw [hg]
              simp only [Option.bind_some, hb, Option.some.injEq]
              apply Array.ext'
              apply List.ext_getElem?
              intro i
              by_cases hi : i < 256
              · have hc := hall i (List.mem_range.2 hi)
                split at hc
                · rename_i n hn
                  have hn2 : n = (if Lib.isSp (UInt8.ofNat i) then 1 else 0) := by simpa using hc
                  obtain ⟨u, hu, hur⟩ := hvs.at hn
                  cases hur
                  rw [hlen, ← hlen, hsz, List.take_of_length_le (by simp)] at hu
                  rw [hu, hn2]
                  simp [Lib.asciiSpaceTab, hi]
                · cases hc
              · rw [List.getElem?_eq_none (by simp; omega), List.getElem?_eq_none (by simp [Lib.asciiSpaceTab_length]; omega)]
            · cases hsp
          have hc := Go.Proofs.Any.strings_TrimSpace la163 ⟨by kernel_rfl⟩ x w (by omega) h2 htab
          have hc : Calls P 135 #[.string x] w fun e w' => e = .returned (.string ⟨(Lib.trimSpace x.data.toList).toArray⟩) ∧ w' = Lib.bytesWorld w (la163_ren.t 5) x := hc
          exact hc.mono fun e w' ⟨he, hb⟩ => by
            subst he hb
            have hbw : Below w.heap.size w (Lib.bytesWorld w (la163_ren.t 5) x) := ⟨rfl, rfl, rfl, by rw [Lib.bytesWorld_size]; omega, fun k hk => Lib.bytesWorld_at_old w _ x k hk⟩
            exact meets_below hR hbw _
      · cases h
    · cases h
end Go.Proofs.YtdanlkiojkimaaaDoor.Rd

namespace Go.Proofs.YtdanlkiojkimaaaDoor.Rd
open Go Go.Proofs.YtdanlkiojkimaaaDoor.Ax Go.Proofs.YtdanlkiojkimaaaDoor.Wire
theorem orS_sound {P : Program} {ρ : Nat → Value} {base : Nat} {a b : CallA} (ha : CallSound P ρ base a) (hb : CallSound P ρ base b) : CallSound P ρ base (orS a b) := by
  intro f args H v H' h
  unfold orS at h
  split at h
  · rename_i r hr
    cases h
    exact ha f args H v H' hr
  · exact hb f args H v H' h
theorem nil_sound {P : Program} {ρ : Nat → Value} {base : Nat} : CallSound P ρ base (fun _ _ _ => none) := by
  intro f args H v H' h
  cases h
theorem ns_sound {ρ : Nat → Value} {base : Nat} (hρ : ∀ j, (ρ j).oneCell' = true) : CallSound P ρ base NS :=
  orS_sound (each_sound hρ) (orS_sound
    (orS_sound low_sound trim_sound)
    (orS_sound nil_sound nil_sound))
end Go.Proofs.YtdanlkiojkimaaaDoor.Rd

namespace Go.Proofs.YtdanlkiojkimaaaDoor.Rd
open Go Go.RowKit Go.Proofs.YtdanlkiojkimaaaDoor.Ax Go.Proofs.YtdanlkiojkimaaaDoor.Wire
set_option maxRecDepth 100000
def tabA : List AV := Lib.asciiSpaceTab.map fun n => .i .u8 n
theorem tabA_len : tabA.length = 256 := by rw [tabA, List.length_map, Lib.asciiSpaceTab_length]
def heapT (ty : TypeId) : Heap := List.replicate 2 .dead ++ [.cells ty .ro tabA]
theorem heapT_at (ty : TypeId) : (heapT ty)[(2 : Nat)]? = some (.cells ty .ro tabA) := rfl
theorem heapT_of {ty : TypeId} {i : Nat} {b : Blk} (h : (heapT ty)[i]? = some b) : (b = .dead) ∨ (i = 2 ∧ b = .cells ty .ro tabA) := by
  unfold heapT at h
  by_cases hi : i < 2
  · rw [List.getElem?_append_left (by simpa using hi)] at h
    have e : (List.replicate (2 : Nat) Blk.dead)[i]? = some Blk.dead := by rw [List.getElem?_replicate, if_pos hi]
    rw [e] at h
    cases h; exact .inl rfl
  · have hl := (List.getElem?_eq_some_iff.1 h).1
    simp at hl
    obtain rfl : i = 2 := by omega
    rw [List.getElem?_append_right (by simp)] at h
    simp at h
    exact .inr ⟨rfl, h.symm⟩
theorem spT {ty : TypeId} : spaceAt (heapT ty) = true := by
  unfold spaceAt
  rw [heapT_at]
  simp only [Bool.and_eq_true, List.all_eq_true]
  refine ⟨by rw [tabA_len]; rfl, fun i hi => ?_⟩
  have hi := List.mem_range.1 hi
  have : tabA[i]? = some (.i .u8 (if Lib.isSp (UInt8.ofNat i) then 1 else 0)) := by
    unfold tabA
    rw [List.getElem?_map]
    have h1 := Lib.asciiSpaceTab_at i hi
    have h2 : Lib.asciiSpaceTab[i]? = some (Lib.asciiSpaceTab.getD i 0) := by
      rw [List.getD_eq_getElem?_getD]
      have : i < Lib.asciiSpaceTab.length := by rw [Lib.asciiSpaceTab_length]; exact hi
      rw [List.getElem?_eq_getElem this]; rfl
    rw [h2, h1]; rfl
  rw [this]
  simp
def TabW (W : World) : Prop := ∃ ty fz, W.heap[(2 : Nat)]? = some (.cells (Lib.asciiSpaceTab.map fun n => Value.int .u8 n).toArray ty fz)
theorem tab_of {l : List (String × DataW Unit)} {W : World} (h : laidMet P l W) (hm : ("strings.asciiSpace", (Lib.tabData .u8 Lib.asciiSpaceTab : DataW Unit)) ∈ l) : TabW W := by
  obtain ⟨g, t, cs, fuel, p, hg, ht, hv, hd⟩ := Lib.laidMet.reads h hm
  have hg0 : P.globalNamed "strings.asciiSpace" = some 2 := by kernel_rfl
  have x1 : (P.globals[(2 : Nat)]?).map (·.type) = some 239 := by kernel_rfl
  have x2 : P.underlying 239 = some (.array 256 5) := by kernel_rfl
  have x3 : P.cellsOf 239 = 256 := by kernel_rfl
  obtain rfl := Option.some.inj (hg0.symm.trans hg)
  obtain rfl := Option.some.inj (x1.symm.trans ht)
  have hc := Lib.cells_of_tab x2 Tryd.underlying5 (show P.cellsOf 5 = 1 by kernel_rfl) x3 hd
  obtain ⟨ty, fz, hb⟩ := blk_of_var hg0 hv
  refine ⟨ty, fz, ?_⟩
  rw [hb, ← hc]
theorem hrT (ρ : Nat → Value) {W : World} {ty : TypeId} {fz : Nat × Nat} (hb : W.heap[(2 : Nat)]? = some (.cells (Lib.asciiSpaceTab.map fun n => Value.int .u8 n).toArray ty fz)) :
    HR P ρ W.heap.size (loc0 2) (heapT ty) W where
  len := by simp [loc0, heapT]
  base_le := Nat.le_refl _
  live := fun i ty' kn cs l hi hl => by
    obtain rfl := loc0_at hl
    rcases heapT_of hi with h | ⟨rfl, h⟩
    · cases h
    cases h
    refine ⟨_, fz, hb, (fun h => by cases h), (fun _ => ⟨lt_heap hb, by simp [tabA_len, Lib.asciiSpaceTab_length]⟩), ⟨(fun h => by cases h), (fun h => by cases h)⟩, by simp [tabA_len, Lib.asciiSpaceTab_length], (fun h => by cases h), ⟨by simp [tabA_len, Lib.asciiSpaceTab_length], fun j x v hx hv => ?_⟩⟩
    unfold tabA at hx
    rw [List.getElem?_map] at hx
    obtain ⟨n, hn, rfl⟩ := Option.map_eq_some_iff.1 hx
    rw [List.getElem?_take] at hv
    split at hv
    · simp only [List.toList_toArray, List.drop_zero, List.getElem?_map, hn, Option.map_some, Option.some.injEq] at hv
      subst hv
      exact .i _ _
    · cases hv
  same := fun i ty' kn cs l hi _ hl => by rw [loc0_at hl]
  inj := fun i j ty1 kn cs ty' kn' cs' l l' hi ho => by
    rcases heapT_of hi with h | ⟨rfl, h⟩
    · cases h
    cases h
    cases ho
  maps := fun i kd es l hi => by
    rcases heapT_of hi with h | ⟨_, h⟩ <;> cases h
  injm := fun i j kd es kd' es' l l' hi => by
    rcases heapT_of hi with h | ⟨_, h⟩ <;> cases h
theorem law_words {law : FuncId} {aA : List AV} {aV : List Value} {W : World} (hav : ∀ μ, VRs (fun _ => .bool true) μ aA aV)
    (hrun : ∀ ty, ∃ n H', run P NS n law aA (heapT ty) = some (.b true, H')) (hT : TabW W) (hlb : ((P.funcs[law]?).bind (·.body)).isSome = true := by kernel_rfl) :
    Calls P law aV.toArray W fun e w' => e = .returned (.bool true) ∧ Below W.heap.size W w' := by
  obtain ⟨ty, fz, hb⟩ := hT
  obtain ⟨n, H', hr⟩ := hrun ty
  have hbd : Bodied P law := by
    cases hf : P.funcs[law]? with
    | none => rw [hf] at hlb; cases hlb
    | some fn => rw [hf] at hlb; exact ⟨fn, hf, hlb⟩
  have hc := run_sound (fun _ => rfl) (noCount_iff noc) (ns_sound (ρ := fun _ => .bool true) (base := W.heap.size) (fun _ => rfl)) (drawA_sound (fun _ => rfl) (noCount_iff noc)) n
  refine (hc.at_ hbd hr (hrT _ hb) (hav _)).mono fun e w' hm => ?_
  obtain ⟨v', μ', rfl, _, hv', _, hbel⟩ := hm
  cases hv'
  exact ⟨rfl, hbel⟩
theorem witness_laid {H : Type} {enc : TypeId × Value → H} {C : Checked} {os : Os} {f : FuncId} {fn : Func} {s : OpenSpec} {conds : List PathCond} {apart : Bool} {laid : List (String × DataW Unit)} (w0 : World) (args : Array Value) (hos : w0.os = os)
    (hv : (w0.forCall (fun _ _ => 0) ⟨#[], args, []⟩).variablesZipB C.prog = true)
    (hr : ((w0.forCall (fun _ _ => 0) ⟨#[], args, []⟩).heap.toList.drop C.prog.globals.size).take ((begin C.prog (fun _ _ => 0) default).world.heap.size - C.prog.globals.size) =
      (begin C.prog (fun _ _ => 0) default).world.heap.toList.drop C.prog.globals.size)
    (hok : Input.okWideB C.prog (w0.forCall (fun _ _ => 0) ⟨#[], args, []⟩) f ⟨#[], args, []⟩ = true)
    (hrow : s.preRow enc C.prog fn conds apart laid (w0.forCall (fun _ _ => 0) ⟨#[], args, []⟩).memory args) :
    ∃ (w : World) (tape : Tape) (i : Input), w.os = os ∧ (w.forCall tape i).Shaped C.prog ∧ i.vars = [] ∧ Input.okWide C.prog (w.forCall tape i) .any w.heap.size f i ∧
      s.preRow enc C.prog fn conds apart laid (w.forCall tape i).memory i.args ∧ ({ modest := false } : Assume).holds C.prog (lone (Frame.enter C.prog f i.args .normal) [] (w.forCall tape i)) :=
  ⟨w0, fun _ _ => 0, ⟨#[], args, []⟩, hos, World.shaped_of_ZipB hv hr, (Input.okWide_of_okWideB (base := 0) hok).1, (Input.okWide_of_okWideB hok).2, hrow, by
    simp only [Assume.holds]
    exact ⟨by simp, by simp, fun h => by simp at h, by simp, by simp⟩⟩
end Go.Proofs.YtdanlkiojkimaaaDoor.Rd

