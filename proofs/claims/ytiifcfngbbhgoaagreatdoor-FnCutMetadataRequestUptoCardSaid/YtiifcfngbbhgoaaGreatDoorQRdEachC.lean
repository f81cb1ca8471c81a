/-
  APPENDEACH: what its contract gives, its call in the world comes to.
-/
import Derived.Test.YtiifcfngbbhgoaaGreatDoorQRdEachA
import Derived.Test.YtiifcfngbbhgoaaGreatDoorQRdNs
import Derived.Test.YtiifcfngbbhgoaaGreatDoorProg
import Derived.LaidLaws
set_option linter.constructorNameAsVariable false
set_option linter.unusedVariables false
set_option linter.unusedSimpArgs false
namespace Go.Proofs.YtiifcfngbbhgoaaGreatDoor.Rd
open Go Go.RowKit Go.ChangeMaps Go.Proofs.YtiifcfngbbhgoaaGreatDoor.Ax
set_option maxRecDepth 100000
theorem nocE : noCount P = true := by kernel_rfl
section
variable {ρ : Nat → Value} {base : Nat} {μ μ' : List Ax.Loc} {H Hi H' : Heap} {w : World}
theorem CA.calls (hρ : ∀ j, (ρ j).oneCell' = true) {f : FuncId} {args : List AV} {v : AV} (h : CA P noS f args H (v, H')) {vs : List Value} (hr : HR P ρ base μ H w) (hv : VRs ρ μ args vs) : Calls P f vs.toArray w (Meets P ρ base μ w v H') := by
  obtain ⟨n, hn⟩ := h
  exact (run_sound hρ (noCount_iff nocE) noS_sound (drawA_sound hρ (noCount_iff nocE)) n).at_ (callWith_bodied rfl (hn n (Nat.le_refl _))) (hn n (Nat.le_refl _)) hr hv
theorem cell_at (hr : HR P ρ base μ H w) {b o : Nat} {ty : TypeId} {kn : Kn} {cs : List AV} {x : AV} {l : Ax.Loc} (hb : H[b]? = some (.cells ty kn cs)) (hx : cs[o]? = some x) (hl : μ[b]? = some l) : ∃ v, w.cell? ⟨l.b, o, none⟩ = some v ∧ VR ρ μ x v := by
  obtain ⟨cur, fz, h1, _, _, _, h5, _, h7⟩ := hr.live b ty kn cs l hb hl
  obtain ⟨v, hv, hvr⟩ := VRs.at h7 hx
  refine ⟨v, ?_, hvr⟩
  rw [cell_of_row _ _ _ _ _ _ h1]
  rw [List.getElem?_take] at hv
  split at hv
  · simpa using hv
  · cases hv
theorem map_keys {l : Ax.Loc} {es : List (Int × AV)} {xs : Array MapEntry} (h3 : xs.size = es.length) (h7 : ∀ (j : Nat) (x : MapEntry) (k : Int) (v : AV), xs.toList[j]? = some x → es[j]? = some (k, v) → x.key = .int .u32 k ∧ v.one = true ∧ VR ρ μ v x.val) :
    xs.toList.map (·.key) = (es.map (·.1)).map (Value.int .u32) := by
  apply List.ext_getElem?
  intro j
  simp only [List.getElem?_map]
  by_cases hj : j < es.length
  · have h1 : xs.toList[j]? = some (xs.toList[j]'(by simp; omega)) := by simp
    have h2 : es[j]? = some (es[j]) := by simp
    rw [h1, h2]
    simp only [Option.map_some]
    exact congrArg some (h7 j _ _ _ h1 (by rw [h2])).1
  · rw [List.getElem?_eq_none (by simp; omega), List.getElem?_eq_none (by omega)]; rfl
theorem map_val {es : List (Int × AV)} {xs : Array MapEntry} (h3 : xs.size = es.length) (hnd : (es.map (·.1)).Nodup) (h7 : ∀ (j : Nat) (x : MapEntry) (k : Int) (v : AV), xs.toList[j]? = some x → es[j]? = some (k, v) → x.key = .int .u32 k ∧ v.one = true ∧ VR ρ μ v x.val)
    {k : Int} {v : AV} (hm : (k, v) ∈ es) : ∃ u, (∀ x ∈ xs.toList, x.key = .int .u32 k → x.val = u) ∧ VR ρ μ v u := by
  obtain ⟨j, hj, hje⟩ := List.mem_iff_getElem.1 hm
  have h2 : es[j]? = some (k, v) := by rw [List.getElem?_eq_getElem hj, hje]
  have h1 : xs.toList[j]? = some (xs.toList[j]'(by simp; omega)) := by simp
  refine ⟨(xs.toList[j]'(by simp; omega)).val, fun x hx hk => ?_, (h7 j _ _ _ h1 h2).2.2⟩
  obtain ⟨i, hi, rfl⟩ := List.mem_iff_getElem.1 hx
  have hi' : i < es.length := by simp at hi; omega
  have := (h7 i _ (es[i]).1 (es[i]).2 (List.getElem?_eq_getElem hi) (List.getElem?_eq_getElem hi')).1
  rw [hk] at this
  simp at this
  have e1 : i = j := by
    have a1 : (es.map (·.1))[i]? = some k := by simp [hi', this]
    have a2 : (es.map (·.1))[j]? = some k := by rw [List.getElem?_map, h2]; rfl
    exact (List.getElem?_inj (by simpa using hi') hnd).1 (a1.trans a2.symm)
  subst e1
  rfl
theorem each_none {tb to_ : Nat} {xv fn : Value} {W : World} (hc : W.cell? ⟨tb, to_, none⟩ = some xv) (hl : (Builtin.len_ #[58] 3 #[xv]).run Tryz.prog W = .ok (.int .i64 0) W) :
    Calls Tryz.prog 68 #[.pointer (some ⟨tb, to_, none⟩), fn] W fun e w' => e = .returned (.tuple #[]) ∧ w' = W := by
  go_enter Tryz.func68, Tryz.ntmps68
  go_wp2
  (try simp only [Exit.inBlock, Exit.then]); refine bodyPost_ret (results_none rfl _ _ _) rfl ?_
  exact ⟨rfl, rfl⟩
theorem append_each {p d v : Value} {w : World} {R : World → Prop} (hE : Calls Tryz.prog 68 #[p, .func (.func 69) #[] #[.pointer (some ⟨w.heap.size, 0, none⟩)]] (w.alloc (.cells #[d] 22)) fun e w' => e = .returned (.tuple #[]) ∧ R w')
    {Q : Value → World → Prop} (hR : ∀ w', R w' → ∃ v, w'.cell? ⟨w.heap.size, 0, none⟩ = some v ∧ Q v w') (hd : d.oneCell' = true) : Calls Tryz.prog 40 #[p, d] w fun e w' => ∃ v, e = .returned v ∧ Q v w' := by
  have hdc : d.cells = #[d] := Ax.cells_one hd
  go_enter Tryz.func40, Tryz.ntmps40
  go_wp2_with (go_at_call 68; refine hE.mono ?_; rintro e w' ⟨rfl, hw⟩; obtain ⟨v, hcv, hq⟩ := hR w' hw)
  go_ret
  exact ⟨v, rfl, hq⟩
theorem loadA_cell {i o : Nat} {v : AV} (h : loadA P H tB (.p i o) = some v) : ∃ ty kn cs, H[i]? = some (.cells ty kn cs) ∧ cs[o]? = some v := by
  have h : loadAt P H tB i o = some v := h
  unfold loadAt at h
  rw [aggB] at h
  cases hH : H[i]? with
  | none => rw [hH] at h; simp at h
  | some blk =>
    rw [hH] at h
    cases blk with
    | cells ty kn cs => exact ⟨ty, kn, cs, rfl, h⟩
    | map _ _ => simp at h
    | dead => simp at h
theorem keys_start {W1 w1 : World} {n : Nat} {H1 : Heap} {μ1 : List Ax.Loc} {es' : List (Int × AV)} (hr1 : HR P ρ base μ1 H1 W1) (hn : es'.length = n) (hbig : n ≤ 1099511627776) (hK : Keys W1 n (es'.map (·.1)) w1) :
    HR P ρ base (μ1 ++ [⟨W1.heap.size, n, true⟩] ++ [⟨W1.heap.size + 1, 0, false⟩]) (H1 ++ [.cells 53 .row (es'.map fun e => .i .u32 e.1)] ++ [.cells 112 .vr [.sl H1.length 0 n]]) w1 := by
  have ha : HR P ρ base μ1 H1 w1 := hr1.aside hK.below.size fun i b l hi hb hl => by
    cases b with
    | cells ty kn cs => exact hK.below.block _ (hr1.live i ty kn cs l hi hl).lt
    | map kd es => exact hK.below.block _ (hr1.maps i kd es l hi hl).lt
    | dead => exact absurd rfl hb
  have hold : ∀ (i : Nat) (ty : TypeId) (kn : Kn) (cs : List AV) (l : Ax.Loc), H1[i]? = some (.cells ty kn cs) → μ1[i]? = some l → l.b < W1.heap.size := fun i ty kn cs l hi hl => (hr1.live i ty kn cs l hi hl).lt
  have hc1 : P.cellsOf 53 = 1 := by kernel_rfl
  have hb1 : base ≤ W1.heap.size := hr1.base_le
  have h2 := ha.adopt (kn := .row) rfl (cs := es'.map fun e => .i .u32 e.1) (by simp [AV.one]) hK.row hb1 (by simp) ⟨by simp, fun j x v hx hv => by
    rw [List.getElem?_map] at hx
    obtain ⟨e, he, rfl⟩ := Option.map_eq_some_iff.1 hx
    rw [List.getElem?_take] at hv
    split at hv
    · simp only [List.toList_toArray, List.getElem?_map, he, Option.map_some, Option.some.injEq] at hv
      subst hv; exact .i _ _
    · cases hv⟩ n (by rw [hc1]; simp [hn]) true (by simp) (fun i ty kn cs l hi _ hl => by have := hold i ty kn cs l hi hl; omega)
  have hloc : (μ1 ++ [⟨W1.heap.size, n, true⟩])[H1.length]? = some ⟨W1.heap.size, n, true⟩ := by rw [← hr1.len]; simp
  refine h2.adopt (kn := .vr) rfl (cs := [.sl H1.length 0 n]) (by simp [AV.one]) hK.box (by omega) (by simp) ?_ 0 (by simp) false (by simp) (fun i ty kn cs l hi _ hl => ?_)
  · simp only [List.length_cons, List.length_nil, Nat.zero_add]
    exact .cons (.sl hloc (Nat.le_refl _) (by unfold maxLen; omega) (fun _ _ => Nat.le_refl _)) .nil
  · rcases at_last hi with ⟨hlt, hi'⟩ | ⟨rfl, e⟩
    · have := hold i ty kn cs l hi' (loc_old hr1.len hlt hl); omega
    · obtain rfl := loc_last hr1.len hl
      simp
theorem eachHeap_eq (H : Heap) (dst : AV) (es : List (Int × AV)) : eachHeap H dst es = (H ++ [.cells tB .vr [dst]]) ++ [.cells 53 .row (es.map fun e => .i .u32 e.1)] ++ [.cells 112 .vr [.sl (H ++ [Blk.cells tB .vr [dst]]).length 0 es.length]] := by
  simp [eachHeap]
def Inv (ρ : Nat → Value) (base : Nat) (μ2 : List Ax.Loc) (w : World) (box : Nat) (K : List Nat) (Hs : Heap) (es : List (Int × AV)) (H' : Heap) (i : Nat) (w' : World) : Prop :=
  ∃ μ' Hi, HR P ρ base μ' Hi w' ∧ Ext μ2 μ' ∧ Below base w w' ∧ EachRun box K Hi (es.drop i) H' ∧ ∀ j ∈ K, Hi[j]? = Hs[j]?
theorem append_some (hρ : ∀ j, (ρ j).oneCell' = true) {b o i : Nat} {dst v : AV} {ty : TypeId} {kn : Kn} {cs : List AV} {es es' : List (Int × AV)} (hb : H[b]? = some (.cells ty kn cs)) (hx : cs[o]? = some (.mp i)) (hd : dst.one = true) (hi : H[i]? = some (.map .u32 es)) (hp : List.Perm es' es)
    (hso : (es'.map (·.1)).Pairwise (· < ·)) (h0 : 0 < es.length) (hbig : es.length ≤ 1099511627776) (hrun : EachRun H.length [b, i, H.length + 1, H.length + 2] (eachHeap H dst es') es' H') (hv : loadA P H' tB (.p H.length 0) = some v) {vs : List Value}
    (hr : HR P ρ base μ H w) (hvs : VRs ρ μ [.p b o, dst] vs) : Calls P 40 vs.toArray w (Meets P ρ base μ w v H') := by
  obtain ⟨hl2, hvs2⟩ := hvs
  match vs, hl2 with
  | [p', d'], hl3 =>
    have hp' : VR ρ μ (.p b o) p' := hvs2 0 _ _ rfl rfl
    have hd' : VR ρ μ dst d' := hvs2 1 _ _ rfl rfl
    clear hvs2 hl3
    cases hp' with
    | p hlb =>
      rename_i lb
      obtain ⟨xv, hxc, hxr⟩ := cell_at hr hb hx hlb
      cases hxr with
      | mp hlm =>
        rename_i lm
        obtain ⟨xs, clk, m1, m2, m3, m4, m5, m6, m7⟩ := hr.maps i _ es lm hi hlm
        have hd1 : d'.oneCell' = true := hd'.oneCell hρ hd
        have hel : es'.length = es.length := hp.length_eq
        have hr1 := hr.alloc tB (kn := .vr) rfl (cs := [dst]) (by simp [hd]) (vs := [d']) (more := []) (.cons hd' .nil) 0 (by simp) false (by simp)
        simp only [List.append_nil] at hr1
        have e1 : ([d'] : List Value).toArray = #[d'] := rfl
        rw [e1] at hr1
        have hW1 : (w.alloc (.cells #[d'] tB)).heap.size = w.heap.size + 1 := by simp
        have hbel1 : Below base w (w.alloc (.cells #[d'] tB)) := (Below.refl _ _).alloc hr.base_le _
        have hE : Calls P 68 #[.pointer (some ⟨lb.b, o, none⟩), .func (.func 69) #[] #[.pointer (some ⟨w.heap.size, 0, none⟩)]] (w.alloc (.cells #[d'] tB)) fun e w' => e = .returned (.tuple #[]) ∧
            Inv ρ base (μ ++ [⟨w.heap.size, 0, false⟩]) w H.length [b, i, H.length + 1, H.length + 2] (eachHeap H dst es') es' H' es.length w' := by
          have hlblt : lb.b < w.heap.size := (hr.live b ty kn cs lb hb hlb).lt
          have hlmlt : lm.b < w.heap.size := (hr.maps i _ es lm hi hlm).lt
          have hbl : b < H.length := (List.getElem?_eq_some_iff.1 hb).1
          have hil : i < H.length := (List.getElem?_eq_some_iff.1 hi).1
          have hlen1 : (μ ++ [(⟨w.heap.size, 0, false⟩ : Ax.Loc)]).length = H.length + 1 := by simp [hr.len]
          have hb' : (eachHeap H dst es')[b]? = some (.cells ty kn cs) := by unfold eachHeap; rw [List.getElem?_append_left hbl]; exact hb
          have hi' : (eachHeap H dst es')[i]? = some (.map .u32 es) := by unfold eachHeap; rw [List.getElem?_append_left hil]; exact hi
          have hrow' : (eachHeap H dst es')[H.length + 1]? = some (.cells 53 .row (es'.map fun e => .i .u32 e.1)) := by unfold eachHeap; rw [List.getElem?_append_right (by omega)]; simp
          refine (each_walk lb.b o lm.b es.length xs clk _ (w.alloc (.cells #[d'] tB)) m3 h0 hbig ?_ ?_ m4 m5 (es'.map (·.1)) ?_ hso (fun j w' => Inv ρ base ((μ ++ [⟨w.heap.size, 0, false⟩]) ++ [⟨w.heap.size + 1, es.length, true⟩]) w H.length [b, i, H.length + 1, H.length + 2] (eachHeap H dst es') es' H' j w') ?_ ?_ 69 #[.pointer (some ⟨w.heap.size, 0, none⟩)] rfl ?_ (enters_of Tryz.func69 (by kernel_rfl) rfl)).mono fun e w' ⟨q1, μ', Hi, q2, q3, q4⟩ => ⟨q1, μ', Hi, q2, fun j l h => q3 j l (Ext.append _ _ j l h), q4⟩
          · rw [(((Below.refl w.heap.size w).alloc (Nat.le_refl _) _).cell (p := ⟨lb.b, o, none⟩) hlblt)]; exact hxc
          · exact (heap_alloc_old _ _ hlmlt).trans m1
          · rw [map_keys (l := lm) m3 m7]; exact (hp.map _).map _
          · intro w1 hK
            have h3 := keys_start hr1 hel hbig hK
            rw [hW1] at h3
            have h4 := eachHeap_eq H dst es'
            rw [hel] at h4
            rw [← h4] at h3
            refine ⟨_, _, h3, Ext.append _ _, hbel1.trans (hK.below.mono (by have := hr.base_le; omega)), by simpa using hrun, fun _ _ => rfl⟩
          · rintro j w1 ⟨μ', Hi, i1, i2, i3, i4, i5⟩
            have ext0 : Ext μ μ' := fun q l h => i2 q l (Ext.append _ _ q l (Ext.append _ _ q l h))
            constructor
            · obtain ⟨xv2, c1, c2⟩ := cell_at i1 ((i5 b (by simp)).trans hb') hx (ext0 _ _ hlb)
              cases c2 with
              | mp hl2 =>
                rename_i lm2
                obtain rfl : lm = lm2 := Option.some.inj ((ext0 _ _ hlm).symm.trans hl2)
                exact c1
            · intro q hq
              have hloc : μ'[H.length + 1]? = some ⟨w.heap.size + 1, es.length, true⟩ := i2 _ _ (by rw [← hlen1]; simp)
              have hq' : q < es'.length := by omega
              obtain ⟨u, c1, c2⟩ := cell_at (o := q) (x := .i .u32 (es'[q]).1) i1 ((i5 (H.length + 1) (by simp)).trans hrow') (by simp [hq']) hloc
              cases c2
              rw [hW1, c1]
              simp [hq']
          · rintro j k w1 ⟨μ', Hi, i1, i2, i3, i4, i5⟩ hk
            have ext0 : Ext μ μ' := fun q l h => i2 q l (Ext.append _ _ q l (Ext.append _ _ q l h))
            rw [List.getElem?_map] at hk
            obtain ⟨⟨k', av⟩, hje, rfl⟩ := Option.map_eq_some_iff.1 hk
            have hjl := (List.getElem?_eq_some_iff.1 hje).1
            have hdrop : es'.drop j = (k', av) :: es'.drop (j + 1) := by rw [List.drop_eq_getElem_cons hjl, (List.getElem?_eq_some_iff.1 hje).2]
            rw [hdrop] at i4
            cases i4 with
            | cons hca hkk ht =>
              rename_i H1
              have hmem : (k', av) ∈ es := hp.mem_iff.1 (List.mem_of_getElem? hje)
              obtain ⟨xs2, clk2, n1, n2, n3, n4, n5, n6, n7⟩ := i1.maps i _ es lm ((i5 i (by simp)).trans hi') (ext0 _ _ hlm)
              obtain ⟨u, u1, u2⟩ := map_val n3 n6 n7 hmem
              refine ⟨u, lookup_run (ks := es.map (·.1)) (by kernel_rfl) n1 (by rw [map_keys (l := lm) n3 n7]) (List.mem_map.2 ⟨_, hmem, rfl⟩) u1, ?_⟩
              have hbx : μ'[H.length]? = some ⟨w.heap.size, 0, false⟩ := i2 _ _ (by rw [List.getElem?_append_left (by rw [hlen1]; omega), ← hr.len]; simp)
              refine (CA.calls hρ hca i1 (vs := [.int .u32 k', u, .pointer (some ⟨w.heap.size, 0, none⟩)]) (.cons (.i _ _) (.cons u2 (.cons (.p hbx) .nil)))).mono fun e w2 hm => ?_
              obtain ⟨v', μ'', he, e1', hv', h5, h6⟩ := hm
              cases hv' with
              | t hl hh =>
                rename_i us
                obtain rfl : us = [] := List.eq_nil_of_length_eq_zero (by simpa using hl.symm)
                exact ⟨he, μ'', H1, h5, i2.trans e1', i3.trans h6, ht, fun q hq => (hkk q hq).trans (i5 q hq)⟩
        refine (append_each (w := w) (v := undef) (Q := fun u w' => ∃ μ', Ext μ μ' ∧ VR ρ μ' v u ∧ HR P ρ base μ' H' w' ∧ Below base w w') hE (fun w' hI => ?_) hd1).mono fun e w' ⟨u, he, μ', q1, q2, q3, q4⟩ => ⟨u, μ', he, q1, q2, q3, q4⟩
        obtain ⟨μ', Hi, i1, i2, i3, i4, i5⟩ := hI
        rw [List.drop_of_length_le (by omega)] at i4
        cases i4
        have hloc : μ'[H.length]? = some ⟨w.heap.size, 0, false⟩ := i2 _ _ (by rw [← hr.len]; simp)
        obtain ⟨ty2, kn2, cs2, hh, hv⟩ := loadA_cell hv
        obtain ⟨u, hu, hur⟩ := cell_at i1 hh hv hloc
        exact ⟨u, hu, μ', fun j l h => i2 j l (Ext.append _ _ j l h), hur, i1, i3⟩
theorem append_none (hρ : ∀ j, (ρ j).oneCell' = true) {b o : Nat} {dst x : AV} {ty : TypeId} {kn : Kn} {cs : List AV} (hb : H[b]? = some (.cells ty kn cs)) (hx : cs[o]? = some x) (hd : dst.one = true) (hn : x = .m0 ∨ ∃ i, x = .mp i ∧ H[i]? = some (.map .u32 []))
    {vs : List Value} (hr : HR P ρ base μ H w) (hvs : VRs ρ μ [.p b o, dst] vs) : Calls P 40 vs.toArray w (Meets P ρ base μ w dst H) := by
  obtain ⟨hl2, hvs2⟩ := hvs
  match vs, hl2 with
  | [p', d'], hl3 =>
    have hp' : VR ρ μ (.p b o) p' := hvs2 0 _ _ rfl rfl
    have hd' : VR ρ μ dst d' := hvs2 1 _ _ rfl rfl
    clear hvs2 hl3
    cases hp' with
    | p hlb =>
      rename_i lb
      obtain ⟨xv, hxc, hxr⟩ := cell_at hr hb hx hlb
      have hd1 : d'.oneCell' = true := hd'.oneCell hρ hd
      have hlblt : lb.b < w.heap.size := (hr.live b ty kn cs lb hb hlb).lt
      have hc : (w.alloc (.cells #[d'] tB)).cell? ⟨lb.b, o, none⟩ = some xv := by rw [(((Below.refl w.heap.size w).alloc (Nat.le_refl _) _).cell (p := ⟨lb.b, o, none⟩) hlblt)]; exact hxc
      have hum : Tryz.prog.underlying 58 = some (.map 53 22) := by kernel_rfl
      have hlen : (Builtin.len_ #[58] 3 #[xv]).run Tryz.prog (w.alloc (.cells #[d'] tB)) = .ok (.int .i64 0) (w.alloc (.cells #[d'] tB)) := by
        rcases hn with rfl | ⟨i, rfl, hi⟩
        · cases hxr
          simp [Builtin.len_, run_underlying hum, goInt]
        · cases hxr with
          | mp hlm =>
            rename_i lm
            obtain ⟨xs, clk, m1, _, m3, _⟩ := hr.maps i _ [] lm hi hlm
            have hlt := (hr.maps i _ [] lm hi hlm).lt
            have hg : (getObj lm.b).run Tryz.prog (w.alloc (.cells #[d'] tB)) = .ok (.map xs clk) (w.alloc (.cells #[d'] tB)) := by
              have := (heap_alloc_old w (.cells #[d'] tB) hlt).trans m1
              simp [getObj, Sem.run, this]
            simp [Builtin.len_, run_underlying hum, hg, goInt, m3]
      have hE := each_none (fn := .func (.func 69) #[] #[.pointer (some ⟨w.heap.size, 0, none⟩)]) hc hlen
      refine (append_each (w := w) (v := undef) (R := fun w' => w' = w.alloc (.cells #[d'] tB)) (Q := fun u w' => ∃ μ', Ext μ μ' ∧ VR ρ μ' dst u ∧ HR P ρ base μ' H w' ∧ Below base w w') hE (fun w' hw => ?_) hd1).mono fun e w' ⟨u, he, μ', q1, q2, q3, q4⟩ => ⟨u, μ', he, q1, q2, q3, q4⟩
      subst hw
      refine ⟨d', ?_, μ, Ext.refl _, hd', hr.aside (by simp) (fun i b l hi hb' hl => ?_), (Below.refl _ _).alloc hr.base_le _⟩
      · rw [cell_of_row _ _ _ _ _ _ (heap_alloc_new w _)]; rfl
      · refine heap_alloc_old _ _ ?_
        cases b with
        | cells ty kn cs => exact (hr.live i ty kn cs l hi hl).lt
        | map kd es => exact (hr.maps i kd es l hi hl).lt
        | dead => exact absurd rfl hb'
theorem each_sound (hρ : ∀ j, (ρ j).oneCell' = true) : CallSound P ρ base nsEach := by
  intro f args H v H' h
  unfold nsEach at h
  cases hf : Nat.beq f 40 with
  | false => rw [hf] at h; cases h
  | true =>
    rw [hf] at h
    have hfe : f = 40 := Nat.eq_of_beq_eq_true hf
    subst hfe
    have h : eachS 40 args H = some (v, H') := h
    unfold eachS at h
    split at h
    · rename_i hex
      simp only [Option.some.injEq] at h
      have hr := hex.choose_spec
      rw [h] at hr
      refine .inl ⟨⟨_, Tryz.func40, rfl⟩, fun μ w vs hR hvs => ?_⟩
      obtain ⟨b, o, dst, x, ty, kn, cs, rfl, hb, hx, hd, hc | ⟨i, es, es', rfl, hi, hp, hso, h0, hbig, hrun, hv⟩⟩ := hr
      · obtain ⟨hn, he⟩ := hc
        simp only [Prod.mk.injEq] at he
        obtain ⟨rfl, rfl⟩ := he
        exact append_none hρ hb hx hd hn hR hvs
      · exact append_some hρ hb hx hd hi hp hso h0 hbig hrun hv hR hvs
    · cases h
end
end Go.Proofs.YtiifcfngbbhgoaaGreatDoor.Rd

namespace Go.Proofs.YtiifcfngbbhgoaaGreatDoor.Rd
open Go Go.Proofs.YtiifcfngbbhgoaaGreatDoor.Ax Go.Proofs.YtiifcfngbbhgoaaGreatDoor.Wire
theorem orS_sound {P : Program} {ρ : Nat → Value} {base : Nat} {a b : CallA} (ha : CallSound P ρ base a) (hb : CallSound P ρ base b) : CallSound P ρ base (orS a b) := by
  intro f args H v H' h
  unfold orS at h
  split at h
  · rename_i r hr
    cases h
    exact ha f args H v H' hr
  · exact hb f args H v H' h
theorem nil_sound {P : Program} {ρ : Nat → Value} {base : Nat} : CallSound P ρ base (fun _ _ _ => none) := by
  intro f args H v H' h
  cases h
theorem ns_sound {ρ : Nat → Value} {base : Nat} (hρ : ∀ j, (ρ j).oneCell' = true) : CallSound P ρ base NS :=
  orS_sound (each_sound hρ) (orS_sound
    (orS_sound nil_sound nil_sound)
    (orS_sound nil_sound nil_sound))
end Go.Proofs.YtiifcfngbbhgoaaGreatDoor.Rd

namespace Go.Proofs.YtiifcfngbbhgoaaGreatDoor.Rd
open Go
theorem seat_laid : laidOutB Tryz.prog = true := by kernel_rfl
theorem seat_maps : mapsRowed Tryz.prog = true := by kernel_rfl
theorem seat_enter : Tryz.prog.mayEnter = true := by kernel_rfl
theorem seat_heard : Tryz.prog.stopsHeard = true := by kernel_rfl
theorem seat_lifts : Tryz.prog.liftsFinal = false := by kernel_rfl
end Go.Proofs.YtiifcfngbbhgoaaGreatDoor.Rd

