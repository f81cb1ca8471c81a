/-
  APPENDEACH: what its contract gives, its call in the world comes to.
-/
import Derived.Test.YtiifcfngbbhgoagDoorQRdEachA
import Derived.Test.YtiifcfngbbhgoagDoorQRdNs
import Derived.Test.YtiifcfngbbhgoagDoorQHbRound
import Derived.Test.YtiifcfngbbhgoagDoorQHbUv
import Derived.Test.YtiifcfngbbhgoagDoorQApLeaf
set_option linter.constructorNameAsVariable false
set_option linter.unusedVariables false
set_option linter.unusedSimpArgs false
namespace Go.Proofs.YtiifcfngbbhgoagDoor.Rd
open Go Go.RowKit Go.ChangeMaps Go.Proofs.YtiifcfngbbhgoagDoor.Ax
set_option maxRecDepth 100000
section
variable {ρ : Nat → Value} {base : Nat} {μ μ' : List Ax.Loc} {H Hi H' : Heap} {w : World}
theorem append_each {p d v : Value} {w : World} {R : World → Prop} (hE : Calls Tryd.prog 40 #[p, .func (.func 41) #[] #[.pointer (some ⟨w.heap.size, 0, none⟩)]] (w.alloc (.cells #[d] 22)) fun e w' => e = .returned (.tuple #[]) ∧ R w')
    {Q : Value → World → Prop} (hR : ∀ w', R w' → ∃ v, w'.cell? ⟨w.heap.size, 0, none⟩ = some v ∧ Q v w') (hd : d.oneCell' = true) : Calls Tryd.prog 25 #[p, d] w fun e w' => ∃ v, e = .returned v ∧ Q v w' := by
  have hdc : d.cells = #[d] := Ax.cells_one hd
  go_enter Tryd.func25, Tryd.ntmps25
  go_wp2_with (go_at_call 40; refine hE.mono ?_; rintro e w' ⟨rfl, hw⟩; obtain ⟨v, hcv, hq⟩ := hR w' hw)
  go_ret
  exact ⟨v, rfl, hq⟩
theorem loadA_cell {i o : Nat} {v : AV} (h : loadA P H tB (.p i o) = some v) : ∃ ty kn cs, H[i]? = some (.cells ty kn cs) ∧ cs[o]? = some v := by
  have h : loadAt P H tB i o = some v := h
  unfold loadAt at h
  rw [aggB] at h
  cases hH : H[i]? with
  | none => rw [hH] at h; simp at h
  | some blk =>
    rw [hH] at h
    cases blk with
    | cells ty kn cs => exact ⟨ty, kn, cs, rfl, h⟩
    | map _ _ => simp at h
    | dead => simp at h
theorem eachHeap_eq (H : Heap) (dst : AV) (es : List (Int × AV)) : eachHeap H dst es = (H ++ [.cells tB .vr [dst]]) ++ [.cells 49 .row (es.map fun e => .i .u32 e.1)] ++ [.cells 48 .vr [.sl (H ++ [Blk.cells tB .vr [dst]]).length 0 es.length]] := by
  simp [eachHeap]
def Inv (ρ : Nat → Value) (base : Nat) (μ2 : List Ax.Loc) (w : World) (box : Nat) (K : List Nat) (Hs : Heap) (es : List (Int × AV)) (H' : Heap) (i : Nat) (w' : World) : Prop :=
  ∃ μ' Hi, HR P ρ base μ' Hi w' ∧ Ext μ2 μ' ∧ Below base w w' ∧ EachRun box K Hi (es.drop i) H' ∧ ∀ j ∈ K, Hi[j]? = Hs[j]?
theorem append_some (hρ : ∀ j, (ρ j).oneCell' = true) {b o i : Nat} {dst v : AV} {ty : TypeId} {kn : Kn} {cs : List AV} {es es' : List (Int × AV)} (hb : H[b]? = some (.cells ty kn cs)) (hx : cs[o]? = some (.mp i)) (hd : dst.one = true) (hi : H[i]? = some (.map .u32 es)) (hp : List.Perm es' es)
    (hso : (es'.map (·.1)).Pairwise (· < ·)) (h0 : 0 < es.length) (hbig : es.length ≤ 1099511627776) (hrun : EachRun H.length [b, i, H.length + 1, H.length + 2] (eachHeap H dst es') es' H') (hv : loadA P H' tB (.p H.length 0) = some v) {vs : List Value}
    (hr : HR P ρ base μ H w) (hvs : VRs ρ μ [.p b o, dst] vs) : Calls P 25 vs.toArray w (Meets P ρ base μ w v H') := by
  obtain ⟨hl2, hvs2⟩ := hvs
  match vs, hl2 with
  | [p', d'], hl3 =>
    have hp' : VR ρ μ (.p b o) p' := hvs2 0 _ _ rfl rfl
    have hd' : VR ρ μ dst d' := hvs2 1 _ _ rfl rfl
    clear hvs2 hl3
    cases hp' with
    | p hlb =>
      rename_i lb
      obtain ⟨xv, hxc, hxr⟩ := cell_at hr hb hx hlb
      cases hxr with
      | mp hlm =>
        rename_i lm
        obtain ⟨xs, clk, m1, m2, m3, m4, m5, m6, m7⟩ := hr.maps i _ es lm hi hlm
        have hd1 : d'.oneCell' = true := hd'.oneCell hρ hd
        have hel : es'.length = es.length := hp.length_eq
        have hr1 := hr.alloc tB (kn := .vr) rfl (cs := [dst]) (by simp [hd]) (vs := [d']) (more := []) (.cons hd' .nil) 0 (by simp) false (by simp)
        simp only [List.append_nil] at hr1
        have e1 : ([d'] : List Value).toArray = #[d'] := rfl
        rw [e1] at hr1
        have hW1 : (w.alloc (.cells #[d'] tB)).heap.size = w.heap.size + 1 := by simp
        have hbel1 : Below base w (w.alloc (.cells #[d'] tB)) := (Below.refl _ _).alloc hr.base_le _
        have hE : Calls P 40 #[.pointer (some ⟨lb.b, o, none⟩), .func (.func 41) #[] #[.pointer (some ⟨w.heap.size, 0, none⟩)]] (w.alloc (.cells #[d'] tB)) fun e w' => e = .returned (.tuple #[]) ∧
            Inv ρ base (μ ++ [⟨w.heap.size, 0, false⟩]) w H.length [b, i, H.length + 1, H.length + 2] (eachHeap H dst es') es' H' es.length w' := by
          have hlblt : lb.b < w.heap.size := (hr.live b ty kn cs lb hb hlb).lt
          have hlmlt : lm.b < w.heap.size := (hr.maps i _ es lm hi hlm).lt
          have hbl : b < H.length := (List.getElem?_eq_some_iff.1 hb).1
          have hil : i < H.length := (List.getElem?_eq_some_iff.1 hi).1
          have hlen1 : (μ ++ [(⟨w.heap.size, 0, false⟩ : Ax.Loc)]).length = H.length + 1 := by simp [hr.len]
          have hb' : (eachHeap H dst es')[b]? = some (.cells ty kn cs) := by unfold eachHeap; rw [List.getElem?_append_left hbl]; exact hb
          have hi' : (eachHeap H dst es')[i]? = some (.map .u32 es) := by unfold eachHeap; rw [List.getElem?_append_left hil]; exact hi
          have hrow' : (eachHeap H dst es')[H.length + 1]? = some (.cells 49 .row (es'.map fun e => .i .u32 e.1)) := by unfold eachHeap; rw [List.getElem?_append_right (by omega)]; simp
          refine (each_walk lb.b o lm.b es.length xs clk _ (w.alloc (.cells #[d'] tB)) m3 h0 hbig ?_ ?_ m4 m5 (es'.map (·.1)) ?_ hso (fun j w' => Inv ρ base ((μ ++ [⟨w.heap.size, 0, false⟩]) ++ [⟨w.heap.size + 1, es.length, true⟩]) w H.length [b, i, H.length + 1, H.length + 2] (eachHeap H dst es') es' H' j w') ?_ ?_ 41 #[.pointer (some ⟨w.heap.size, 0, none⟩)] rfl ?_ (enters_of Tryd.func41 (by kernel_rfl) rfl)).mono fun e w' ⟨q1, μ', Hi, q2, q3, q4⟩ => ⟨q1, μ', Hi, q2, fun j l h => q3 j l (Ext.append _ _ j l h), q4⟩
          · rw [(((Below.refl w.heap.size w).alloc (Nat.le_refl _) _).cell (p := ⟨lb.b, o, none⟩) hlblt)]; exact hxc
          · exact (heap_alloc_old _ _ hlmlt).trans m1
          · rw [map_keys (l := lm) m3 m7]; exact (hp.map _).map _
          · intro w1 hK
            have h3 := keys_start hr1 hel hbig hK
            rw [hW1] at h3
            have h4 := eachHeap_eq H dst es'
            rw [hel] at h4
            rw [← h4] at h3
            refine ⟨_, _, h3, Ext.append _ _, hbel1.trans (hK.below.mono (by have := hr.base_le; omega)), by simpa using hrun, fun _ _ => rfl⟩
          · rintro j w1 ⟨μ', Hi, i1, i2, i3, i4, i5⟩
            have ext0 : Ext μ μ' := fun q l h => i2 q l (Ext.append _ _ q l (Ext.append _ _ q l h))
            constructor
            · obtain ⟨xv2, c1, c2⟩ := cell_at i1 ((i5 b (by simp)).trans hb') hx (ext0 _ _ hlb)
              cases c2 with
              | mp hl2 =>
                rename_i lm2
                obtain rfl : lm = lm2 := Option.some.inj ((ext0 _ _ hlm).symm.trans hl2)
                exact c1
            · intro q hq
              have hloc : μ'[H.length + 1]? = some ⟨w.heap.size + 1, es.length, true⟩ := i2 _ _ (by rw [← hlen1]; simp)
              have hq' : q < es'.length := by omega
              obtain ⟨u, c1, c2⟩ := cell_at (o := q) (x := .i .u32 (es'[q]).1) i1 ((i5 (H.length + 1) (by simp)).trans hrow') (by simp [hq']) hloc
              cases c2
              rw [hW1, c1]
              simp [hq']
          · rintro j k w1 ⟨μ', Hi, i1, i2, i3, i4, i5⟩ hk
            have ext0 : Ext μ μ' := fun q l h => i2 q l (Ext.append _ _ q l (Ext.append _ _ q l h))
            rw [List.getElem?_map] at hk
            obtain ⟨⟨k', av⟩, hje, rfl⟩ := Option.map_eq_some_iff.1 hk
            have hjl := (List.getElem?_eq_some_iff.1 hje).1
            have hdrop : es'.drop j = (k', av) :: es'.drop (j + 1) := by rw [List.drop_eq_getElem_cons hjl, (List.getElem?_eq_some_iff.1 hje).2]
            rw [hdrop] at i4
            cases i4 with
            | cons hca hkk ht =>
              rename_i H1
              have hmem : (k', av) ∈ es := hp.mem_iff.1 (List.mem_of_getElem? hje)
              obtain ⟨xs2, clk2, n1, n2, n3, n4, n5, n6, n7⟩ := i1.maps i _ es lm ((i5 i (by simp)).trans hi') (ext0 _ _ hlm)
              obtain ⟨u, u1, u2⟩ := map_val n3 n6 n7 hmem
              refine ⟨u, lookup_run (ks := es.map (·.1)) (by kernel_rfl) n1 (by rw [map_keys (l := lm) n3 n7]) (List.mem_map.2 ⟨_, hmem, rfl⟩) u1, ?_⟩
              have hbx : μ'[H.length]? = some ⟨w.heap.size, 0, false⟩ := i2 _ _ (by rw [List.getElem?_append_left (by rw [hlen1]; omega), ← hr.len]; simp)
              refine (CA.calls hρ hca i1 (vs := [.int .u32 k', u, .pointer (some ⟨w.heap.size, 0, none⟩)]) (.cons (.i _ _) (.cons u2 (.cons (.p hbx) .nil)))).mono fun e w2 hm => ?_
              obtain ⟨v', μ'', he, e1', hv', h5, h6⟩ := hm
              cases hv' with
              | t hl hh =>
                rename_i us
                obtain rfl : us = [] := List.eq_nil_of_length_eq_zero (by simpa using hl.symm)
                exact ⟨he, μ'', H1, h5, i2.trans e1', i3.trans h6, ht, fun q hq => (hkk q hq).trans (i5 q hq)⟩
        refine (append_each (w := w) (v := undef) (Q := fun u w' => ∃ μ', Ext μ μ' ∧ VR ρ μ' v u ∧ HR P ρ base μ' H' w' ∧ Below base w w') hE (fun w' hI => ?_) hd1).mono fun e w' ⟨u, he, μ', q1, q2, q3, q4⟩ => ⟨u, μ', he, q1, q2, q3, q4⟩
        obtain ⟨μ', Hi, i1, i2, i3, i4, i5⟩ := hI
        rw [List.drop_of_length_le (by omega)] at i4
        cases i4
        have hloc : μ'[H.length]? = some ⟨w.heap.size, 0, false⟩ := i2 _ _ (by rw [← hr.len]; simp)
        obtain ⟨ty2, kn2, cs2, hh, hv⟩ := loadA_cell hv
        obtain ⟨u, hu, hur⟩ := cell_at i1 hh hv hloc
        exact ⟨u, hu, μ', fun j l h => i2 j l (Ext.append _ _ j l h), hur, i1, i3⟩
theorem append_none (hρ : ∀ j, (ρ j).oneCell' = true) {b o : Nat} {dst x : AV} {ty : TypeId} {kn : Kn} {cs : List AV} (hb : H[b]? = some (.cells ty kn cs)) (hx : cs[o]? = some x) (hd : dst.one = true) (hn : x = .m0 ∨ ∃ i, x = .mp i ∧ H[i]? = some (.map .u32 []))
    {vs : List Value} (hr : HR P ρ base μ H w) (hvs : VRs ρ μ [.p b o, dst] vs) : Calls P 25 vs.toArray w (Meets P ρ base μ w dst H) := by
  obtain ⟨hl2, hvs2⟩ := hvs
  match vs, hl2 with
  | [p', d'], hl3 =>
    have hp' : VR ρ μ (.p b o) p' := hvs2 0 _ _ rfl rfl
    have hd' : VR ρ μ dst d' := hvs2 1 _ _ rfl rfl
    clear hvs2 hl3
    cases hp' with
    | p hlb =>
      rename_i lb
      obtain ⟨xv, hxc, hxr⟩ := cell_at hr hb hx hlb
      have hd1 : d'.oneCell' = true := hd'.oneCell hρ hd
      have hlblt : lb.b < w.heap.size := (hr.live b ty kn cs lb hb hlb).lt
      have hc : (w.alloc (.cells #[d'] tB)).cell? ⟨lb.b, o, none⟩ = some xv := by rw [(((Below.refl w.heap.size w).alloc (Nat.le_refl _) _).cell (p := ⟨lb.b, o, none⟩) hlblt)]; exact hxc
      have hum : Tryd.prog.underlying 39 = some (.map 49 22) := by kernel_rfl
      have hlen : (Builtin.len_ #[39] 3 #[xv]).run Tryd.prog (w.alloc (.cells #[d'] tB)) = .ok (.int .i64 0) (w.alloc (.cells #[d'] tB)) := by
        rcases hn with rfl | ⟨i, rfl, hi⟩
        · cases hxr
          simp [Builtin.len_, run_underlying hum, goInt]
        · cases hxr with
          | mp hlm =>
            rename_i lm
            obtain ⟨xs, clk, m1, _, m3, _⟩ := hr.maps i _ [] lm hi hlm
            have hlt := (hr.maps i _ [] lm hi hlm).lt
            have hg : (getObj lm.b).run Tryd.prog (w.alloc (.cells #[d'] tB)) = .ok (.map xs clk) (w.alloc (.cells #[d'] tB)) := by
              have := (heap_alloc_old w (.cells #[d'] tB) hlt).trans m1
              simp [getObj, Sem.run, this]
            simp [Builtin.len_, run_underlying hum, hg, goInt, m3]
      have hE := each_none (fn := .func (.func 41) #[] #[.pointer (some ⟨w.heap.size, 0, none⟩)]) hc hlen
      refine (append_each (w := w) (v := undef) (R := fun w' => w' = w.alloc (.cells #[d'] tB)) (Q := fun u w' => ∃ μ', Ext μ μ' ∧ VR ρ μ' dst u ∧ HR P ρ base μ' H w' ∧ Below base w w') hE (fun w' hw => ?_) hd1).mono fun e w' ⟨u, he, μ', q1, q2, q3, q4⟩ => ⟨u, μ', he, q1, q2, q3, q4⟩
      subst hw
      refine ⟨d', ?_, μ, Ext.refl _, hd', hr.aside (by simp) (fun i b l hi hb' hl => ?_), (Below.refl _ _).alloc hr.base_le _⟩
      · rw [cell_of_row _ _ _ _ _ _ (heap_alloc_new w _)]; rfl
      · refine heap_alloc_old _ _ ?_
        cases b with
        | cells ty kn cs => exact (hr.live i ty kn cs l hi hl).lt
        | map kd es => exact (hr.maps i kd es l hi hl).lt
        | dead => exact absurd rfl hb'
theorem each_sound (hρ : ∀ j, (ρ j).oneCell' = true) : CallSound P ρ base nsEach := by
  intro f args H v H' h
  unfold nsEach at h
  cases hf : Nat.beq f 25 with
  | false => rw [hf] at h; cases h
  | true =>
    rw [hf] at h
    have hfe : f = 25 := Nat.eq_of_beq_eq_true hf
    subst hfe
    have h : eachS 25 args H = some (v, H') := h
    unfold eachS at h
    split at h
    · rename_i hex
      simp only [Option.some.injEq] at h
      have hr := hex.choose_spec
      rw [h] at hr
      refine .inl ⟨⟨_, Tryd.func25, rfl⟩, fun μ w vs hR hvs => ?_⟩
      obtain ⟨b, o, dst, x, ty, kn, cs, rfl, hb, hx, hd, hc | ⟨i, es, es', rfl, hi, hp, hso, h0, hbig, hrun, hv⟩⟩ := hr
      · obtain ⟨hn, he⟩ := hc
        simp only [Prod.mk.injEq] at he
        obtain ⟨rfl, rfl⟩ := he
        exact append_none hρ hb hx hd hn hR hvs
      · exact append_some hρ hb hx hd hi hp hso h0 hbig hrun hv hR hvs
    · cases h
end
end Go.Proofs.YtiifcfngbbhgoagDoor.Rd

namespace Go.Proofs.YtiifcfngbbhgoagDoor.Rd
open Go Go.Proofs.YtiifcfngbbhgoagDoor.Ax Go.Proofs.YtiifcfngbbhgoagDoor.Wire
theorem orS_sound {P : Program} {ρ : Nat → Value} {base : Nat} {a b : CallA} (ha : CallSound P ρ base a) (hb : CallSound P ρ base b) : CallSound P ρ base (orS a b) := by
  intro f args H v H' h
  unfold orS at h
  split at h
  · rename_i r hr
    cases h
    exact ha f args H v H' hr
  · exact hb f args H v H' h
theorem nil_sound {P : Program} {ρ : Nat → Value} {base : Nat} : CallSound P ρ base (fun _ _ _ => none) := by
  intro f args H v H' h
  cases h
theorem ns_sound {ρ : Nat → Value} {base : Nat} (hρ : ∀ j, (ρ j).oneCell' = true) : CallSound P ρ base NS :=
  orS_sound (each_sound hρ) (orS_sound
    (orS_sound nil_sound nil_sound)
    (orS_sound nil_sound (orS_sound nil_sound
    nil_sound)))
end Go.Proofs.YtiifcfngbbhgoagDoor.Rd

namespace Go.Proofs.YtiifcfngbbhgoagDoor.Rd
open Go Go.Proofs.YtiifcfngbbhgoagDoor.Ax Go.Proofs.YtiifcfngbbhgoagDoor.Wire
set_option maxRecDepth 100000
set_option maxHeartbeats 4000000
theorem ex216 (fr : List AV) (h : fr.length = 216) : ∃ g : Nat → AV, fr = [g 0, g 1, g 2, g 3, g 4, g 5, g 6, g 7, g 8, g 9, g 10, g 11, g 12, g 13, g 14, g 15, g 16, g 17, g 18, g 19, g 20, g 21, g 22, g 23, g 24, g 25, g 26, g 27, g 28, g 29, g 30, g 31, g 32, g 33, g 34, g 35, g 36, g 37, g 38, g 39, g 40, g 41, g 42, g 43, g 44, g 45, g 46, g 47, g 48, g 49, g 50, g 51, g 52, g 53, g 54, g 55, g 56, g 57, g 58, g 59, g 60, g 61, g 62, g 63, g 64, g 65, g 66, g 67, g 68, g 69, g 70, g 71, g 72, g 73, g 74, g 75, g 76, g 77, g 78, g 79, g 80, g 81, g 82, g 83, g 84, g 85, g 86, g 87, g 88, g 89, g 90, g 91, g 92, g 93, g 94, g 95, g 96, g 97, g 98, g 99, g 100, g 101, g 102, g 103, g 104, g 105, g 106, g 107, g 108, g 109, g 110, g 111, g 112, g 113, g 114, g 115, g 116, g 117, g 118, g 119, g 120, g 121, g 122, g 123, g 124, g 125, g 126, g 127, g 128, g 129, g 130, g 131, g 132, g 133, g 134, g 135, g 136, g 137, g 138, g 139, g 140, g 141, g 142, g 143, g 144, g 145, g 146, g 147, g 148, g 149, g 150, g 151, g 152, g 153, g 154, g 155, g 156, g 157, g 158, g 159, g 160, g 161, g 162, g 163, g 164, g 165, g 166, g 167, g 168, g 169, g 170, g 171, g 172, g 173, g 174, g 175, g 176, g 177, g 178, g 179, g 180, g 181, g 182, g 183, g 184, g 185, g 186, g 187, g 188, g 189, g 190, g 191, g 192, g 193, g 194, g 195, g 196, g 197, g 198, g 199, g 200, g 201, g 202, g 203, g 204, g 205, g 206, g 207, g 208, g 209, g 210, g 211, g 212, g 213, g 214, g 215] := by
  obtain ⟨g, rfl⟩ := exN 216 fr h
  exact ⟨g, rfl⟩
noncomputable def hbW : List Code := loopsOf (Tryd.f12.body.getD .skip)
def scopesOf : Code → List Code
  | .seq a b => scopesOf a ++ scopesOf b
  | .cond _ a b => scopesOf a ++ scopesOf b
  | .block _ b => scopesOf b
  | .loop b => scopesOf b
  | .scope b => [b]
  | _ => []
noncomputable def hbSc : List Code := scopesOf (Tryd.f12.body.getD .skip)
section
variable {S : CallA} {fr : List AV} {H : Heap} {Q : Ends}
theorem WP.label {id : Nat} (h : Q .normal fr H) : WP S (.label id) fr H Q := ⟨_, _, _, RU.label, h⟩
theorem WP.goto {id : Nat} (h : Q (.goto id) fr H) : WP S (.goto id) fr H Q := ⟨_, _, _, RU.goto, h⟩
theorem Sq.goto {b : Code} {i : Nat} (h : Q (.goto i) fr H) : Sq S b Q (.goto i) fr H := h
theorem WP.scope {b : Code} (h : WP S b fr H fun x fr' H' => (∀ l, x ≠ .goto l) ∧ Q x fr' H') : WP S (.scope b) fr H Q := by
  obtain ⟨x, fr', H', h1, h2, h3⟩ := h
  exact ⟨x, fr', H', RU.scope h1 h2, h3⟩
theorem WP.scope1 {b rest : Code} {l : Nat} (hl : findLabel b l = some rest) (h : WP S b fr H fun x fr1 H1 => x = .goto l ∧ WP S rest fr1 H1 fun x fr' H' => (∀ l, x ≠ .goto l) ∧ Q x fr' H') : WP S (.scope b) fr H Q := by
  obtain ⟨x, fr1, H1, h1, rfl, y, fr', H', h2, h3, h4⟩ := h
  exact ⟨y, fr', H', RU.scope1 h1 hl h2 h3, h4⟩
end
theorem flat_at : ∀ (us : List B) (j : Nat) (h : j < us.length), All16 us → (us.flatten.drop (j * 16)).take 16 = us[j]
  | u :: us, 0, _, ha => by
    have := ha u List.mem_cons_self
    rw [Nat.zero_mul, List.drop_zero, List.flatten_cons, ← this, List.take_left']
    · rfl
    · rfl
  | u :: us, j + 1, h, ha => by
    have hu := ha u List.mem_cons_self
    have ih := flat_at us j (by simpa using h) (fun x hx => ha x (List.mem_cons_of_mem _ hx))
    rw [List.flatten_cons, List.drop_append, List.drop_eq_nil_of_le (by omega), List.nil_append, hu, show (j + 1) * 16 - 16 = j * 16 by omega, ih]
    rfl
theorem RowU.get {H : Heap} {i j : Nat} {us : List B} (h : RowU H i us) (hj : j < us.length) (ha : All16 us) : loadA P H 52 (.p i (j * 16)) = some (.g (u8s us[j])) := by
  obtain ⟨cs, h1, h2, h3⟩ := h
  have hle : (j + 1) * 16 ≤ us.length * 16 := Nat.mul_le_mul_right _ hj
  simp only [loadA, loadAt, h1, aU, zU16]
  rw [if_pos (by omega)]
  have e : (cs.drop (j * 16)).take 16 = ((cs.take (us.length * 16)).drop (j * 16)).take 16 := by
    rw [List.drop_take, List.take_take, Nat.min_eq_left (by omega)]
  rw [e, h3]
  have : ((u8s us.flatten).drop (j * 16)).take 16 = u8s ((us.flatten.drop (j * 16)).take 16) := by simp [u8s, List.map_take, List.map_drop]
  rw [this, flat_at us j hj ha]
def WU (L : Nat) (H : Heap) (av : AV) (us : List B) : Prop := ((av = .s0 ∨ av = .sn) ∧ us = []) ∨ ∃ i, i < L ∧ av = .sl i 0 us.length ∧ RowU H i us
theorem WU.keep {L : Nat} {H H' : Heap} {av : AV} {us : List B} (h : WU L H av us) (k : WKeep L H H') : WU L H' av us := by
  rcases h with h | ⟨i, h1, h2, h3⟩
  · exact .inl h
  · exact .inr ⟨i, h1, h2, h3.mono fun b x => by rw [k.at_ i h1]; exact x⟩
theorem WU.len {L : Nat} {H : Heap} {av : AV} {us : List B} (h : WU L H av us) : lenA P 38 av = some (.i .i64 (us.length : Nat)) := by
  have hu : P.underlying 38 = some (.slice 52) := by kernel_rfl
  unfold lenA
  rcases h with ⟨rfl | rfl, rfl⟩ | ⟨i, _, rfl, _⟩ <;> simp [hu]
theorem lssI64 (t : TypeId) (c : Bool) (a b : Int) : binA P .lss t c (.i .i64 a) (.i .i64 b) = some (.b (decide (a < b))) := by
  simp [binA, binOp, Op.intCmp, ofSem, ofV1]
  rfl
theorem gtrI64 (t : TypeId) (c : Bool) (a b : Int) : binA P .gtr t c (.i .i64 a) (.i .i64 b) = some (.b (decide (a > b))) := by
  simp [binA, binOp, Op.intCmp, ofSem, ofV1]
  rfl
theorem addI64 (t : TypeId) (c : Bool) (a b : Int) (h : -9223372036854775808 ≤ a + b ∧ a + b ≤ 9223372036854775807) : binA P .add t c (.i .i64 a) (.i .i64 b) = some (.i .i64 (a + b)) := by
  have e : binA P .add t c (.i .i64 a) (.i .i64 b) = some (.i .i64 (IntKind.i64.wrap (a + b))) := by
    simp [binA, binOp, Op.intArith, ofSem, ofV1]
    rfl
  rw [e]; congr 2; simp [IntKind.wrap, IntKind.signed, IntKind.bits]; omega
theorem WKeep.kp' {L : Nat} {H H' : Heap} (k : Kp H H') (hL : L ≤ H.length) : WKeep L H H' := ⟨fun i hi => k.2 i (by omega), k.1⟩
theorem wuuids0 {L : Nat} {us : List B} (ha : All16 us) (hn : us.length ≤ 100000) {w0 w6 w12 w112 w113 w114 w16 w17 av : AV} {fr : List AV} {H : Heap} {out : AV} {bs : B} (hL : L ≤ H.length) (hbs : bs.length ≤ 10000000) (hw : WU L H av us) (ho : OutAt L H out bs)
    (hfr : (fr.length = 216 ∧ fr[0]? = some (w0) ∧ fr[1]? = some (out) ∧ fr[6]? = some (w6) ∧ fr[12]? = some (w12) ∧ fr[15]? = some (av) ∧ fr[16]? = some (w16) ∧ fr[17]? = some (w17) ∧ fr[112]? = some (w112) ∧ fr[113]? = some (w113) ∧ fr[114]? = some (w114) ∧ fr[139]? = some (.i .i64 (us.length : Nat)) ∧ fr[140]? = some (.i .i64 (0 : Nat)))) :
    WP NS (.loop (cd1 hbW)) fr H (fun x fr' H' => x = .exit 3 ∧ ∃ out', (fr'.length = 216 ∧ fr'[0]? = some (w0) ∧ fr'[1]? = some (out') ∧ fr'[6]? = some (w6) ∧ fr'[12]? = some (w12) ∧ fr'[15]? = some (av) ∧ fr'[16]? = some (w16) ∧ fr'[17]? = some (w17) ∧ fr'[112]? = some (w112) ∧ fr'[113]? = some (w113) ∧ fr'[114]? = some (w114)) ∧ OutAt L H' out' (bs ++ us.flatten) ∧ WKeep L H H') := by
  dsimp only [hbW, Tryd.f12, Option.getD_some, loopsOf, List.cons_append, List.nil_append, cd1]
  generalize hni : ((us.length : Nat) : Int) = n at hfr
  refine WP.loop (Inv := fun i fr' H' => ∃ out', (fr'.length = 216 ∧ fr'[0]? = some (w0) ∧ fr'[1]? = some (out') ∧ fr'[6]? = some (w6) ∧ fr'[12]? = some (w12) ∧ fr'[15]? = some (av) ∧ fr'[16]? = some (w16) ∧ fr'[17]? = some (w17) ∧ fr'[112]? = some (w112) ∧ fr'[113]? = some (w113) ∧ fr'[114]? = some (w114) ∧ fr'[139]? = some (.i .i64 n) ∧ fr'[140]? = some (.i .i64 (i : Nat))) ∧ OutAt L H' out' (bs ++ (us.take i).flatten) ∧ WKeep L H H') us.length ?_ us.length 0 fr H (by omega) ⟨out, hfr, by simpa using ho, .refl _ _⟩
  clear hfr ho
  intro i fr H1 hi ⟨out1, ⟨hfl, hf0, hf1, hf6, hf12, hf15, hf16, hf17, hf112, hf113, hf114, hf139, hf140⟩, ho, hk⟩
  obtain ⟨g, rfl⟩ := ex216 _ hfl; replace hf0 : g 0 = _ := Option.some.inj hf0; replace hf1 : g 1 = _ := Option.some.inj hf1; replace hf6 : g 6 = _ := Option.some.inj hf6; replace hf12 : g 12 = _ := Option.some.inj hf12; replace hf15 : g 15 = _ := Option.some.inj hf15; replace hf16 : g 16 = _ := Option.some.inj hf16; replace hf17 : g 17 = _ := Option.some.inj hf17; replace hf112 : g 112 = _ := Option.some.inj hf112; replace hf113 : g 113 = _ := Option.some.inj hf113; replace hf114 : g 114 = _ := Option.some.inj hf114; replace hf139 : g 139 = _ := Option.some.inj hf139; replace hf140 : g 140 = _ := Option.some.inj hf140; rw [hf0, hf1, hf6, hf12, hf15, hf16, hf17, hf112, hf113, hf114, hf139, hf140]; clear hfl hf0 hf1 hf6 hf12 hf15 hf16 hf17 hf112 hf113 hf114 hf139 hf140
  have hlt := lssI64 3 false (i : Nat) (us.length : Nat)
  rw [hni] at hlt
  by_cases hin : i < us.length
  rotate_left
  · replace hlt : binA P .lss 3 false (.i .i64 (i : Nat)) (.i .i64 n) = some (.b false) := by rw [hlt]; simp; omega
    rw [List.take_of_length_le (by omega)] at ho
    generalize ((i : Nat) : Int) = ii at hlt
    ((repeat with_reducible refine WP.seqs ?_); refine WP.rg ?_)
    ((repeat with_reducible refine WP.seqs ?_); first | refine WP.seq (WP.condF rfl ?_) | refine WP.condF rfl ?_)
    refine WP.exit ?_; repeat (first | with_reducible refine Sq.n ?_ | with_reducible refine Sq.ret ?_ | with_reducible refine Sq.exit ?_ | with_reducible refine Bk.n ?_ | with_reducible refine Bk.ret ?_ | with_reducible refine Bk.exit ?_ | with_reducible refine Bk.ex' (by decide) ?_ | with_reducible refine Lp.ret ?_ | with_reducible refine Lp.exit ?_ | with_reducible refine Lx.exit ?_)
    exact ⟨rfl, out1, ⟨rfl, rfl, rfl, rfl, rfl, rfl, rfl, rfl, rfl, rfl, rfl⟩, ho, hk⟩
  replace hlt : binA P .lss 3 false (.i .i64 (i : Nat)) (.i .i64 n) = some (.b true) := by rw [hlt]; simp; omega
  obtain ⟨q, hq, rfl, hrow⟩ : ∃ q, q < L ∧ av = .sl q 0 us.length ∧ RowU H1 q us := by
    rcases hw.keep hk with ⟨_, rfl⟩ | ⟨q, h1, h2, h3⟩
    · simp at hin
    · exact ⟨q, h1, h2, h3⟩
  have hix : indexAddrA P 38 (.sl q 0 us.length) (.i .i64 (i : Nat)) = some (.p q (i * 16)) := idxU' hin
  have hld := hrow.get hin ha
  have hul : us[i].length = 16 := ha _ (List.getElem_mem _)
  obtain ⟨b3, H3, H4, hal, hs4, k4, v4, hb3, _, _, _⟩ := alloc_new (H := H1) (e := 52) (cs := u8s us[i]) zeroU16 (u8s_one _) zU16 (by rw [u8s_length]; simp) (by rw [u8s_length, hul]) (u8s_one _)
  have hld4 : loadA P H4 52 (.p b3 0) = some (.g (u8s us[i])) := ldw v4 aU zU16 (by rw [u8s_length, hul])
  have hfl : ((us.take i).flatten).length ≤ 1600000 := by
    rw [flat16 _ (fun x hx => ha x (List.mem_of_mem_take hx)), List.length_take]; omega
  have hL4 : L ≤ H4.length := by have := hk.len; have := k4.1; omega
  obtain ⟨out2, H5, c5, ho5, w5⟩ := (apk_uuid true false).run L H4 out1 _ (.g (u8s us[i])) (.s us[i]) hL4 (ho.wk k4) rfl hul (by rw [List.length_append, show encK true .uuid (.s us[i]) = us[i] from rfl, hul]; omega)
  have hadd := addI64 3 true (i : Nat) 1 (by omega)
  rw [show ((i : Nat) : Int) + 1 = ((i + 1 : Nat) : Int) by omega] at hadd
  have htk : bs ++ (us.take i).flatten ++ us[i] = bs ++ (us.take (i + 1)).flatten := by
    rw [List.take_add_one, List.getElem?_eq_getElem hin, Option.toList_some, List.flatten_append, List.append_assoc]; simp
  rw [show encK true .uuid (.s us[i]) = us[i] from rfl, htk] at ho5
  generalize u8s us[i] = cv at *
  generalize hj1 : ((i + 1 : Nat) : Int) = i1 at hadd
  generalize ((i : Nat) : Int) = ii at hlt hix hadd
  ((repeat with_reducible refine WP.seqs ?_); refine WP.rg ?_)
  ((repeat with_reducible refine WP.seqs ?_); first | refine WP.seq (WP.condT rfl ?_) | refine WP.condT rfl ?_)
  refine WP.skip ?_; repeat (first | with_reducible refine Sq.n ?_ | with_reducible refine Sq.ret ?_ | with_reducible refine Sq.exit ?_ | with_reducible refine Bk.n ?_ | with_reducible refine Bk.ret ?_ | with_reducible refine Bk.exit ?_ | with_reducible refine Bk.ex' (by decide) ?_ | with_reducible refine Lp.ret ?_ | with_reducible refine Lp.exit ?_ | with_reducible refine Lx.exit ?_)
  ((repeat with_reducible refine WP.seqs ?_); first | refine WP.seq (WP.block ?_) | refine WP.block ?_)
  ((repeat with_reducible refine WP.seqs ?_); refine WP.rg ?_)
  ((repeat with_reducible refine WP.seqs ?_); refine WP.rg ?_)
  refine WP.re ?_; repeat (first | with_reducible refine Sq.n ?_ | with_reducible refine Sq.ret ?_ | with_reducible refine Sq.exit ?_ | with_reducible refine Bk.n ?_ | with_reducible refine Bk.ret ?_ | with_reducible refine Bk.exit ?_ | with_reducible refine Bk.ex' (by decide) ?_ | with_reducible refine Lp.ret ?_ | with_reducible refine Lp.exit ?_ | with_reducible refine Lx.exit ?_)
  refine WP.re ?_; repeat (first | with_reducible refine Sq.n ?_ | with_reducible refine Sq.ret ?_ | with_reducible refine Sq.exit ?_ | with_reducible refine Bk.n ?_ | with_reducible refine Bk.ret ?_ | with_reducible refine Bk.exit ?_ | with_reducible refine Bk.ex' (by decide) ?_ | with_reducible refine Lp.ret ?_ | with_reducible refine Lp.exit ?_ | with_reducible refine Lx.exit ?_)
  exact Lp.n ⟨hin, out2, ⟨rfl, rfl, rfl, rfl, rfl, rfl, rfl, rfl, rfl, rfl, rfl, rfl, rfl⟩, ho5, hk.trans ((WKeep.kp' k4 (by have := hk.len; omega)).trans w5)⟩
theorem wuuids1 {L : Nat} {us : List B} (ha : All16 us) (hn : us.length ≤ 100000) {w0 w6 w12 w112 w113 w114 w21 w22 av : AV} {fr : List AV} {H : Heap} {out : AV} {bs : B} (hL : L ≤ H.length) (hbs : bs.length ≤ 10000000) (hw : WU L H av us) (ho : OutAt L H out bs)
    (hfr : (fr.length = 216 ∧ fr[0]? = some (w0) ∧ fr[1]? = some (out) ∧ fr[6]? = some (w6) ∧ fr[12]? = some (w12) ∧ fr[20]? = some (av) ∧ fr[21]? = some (w21) ∧ fr[22]? = some (w22) ∧ fr[112]? = some (w112) ∧ fr[113]? = some (w113) ∧ fr[114]? = some (w114) ∧ fr[186]? = some (.i .i64 (us.length : Nat)) ∧ fr[187]? = some (.i .i64 (0 : Nat)))) :
    WP NS (.loop (cd2 hbW)) fr H (fun x fr' H' => x = .exit 5 ∧ ∃ out', (fr'.length = 216 ∧ fr'[0]? = some (w0) ∧ fr'[1]? = some (out') ∧ fr'[6]? = some (w6) ∧ fr'[12]? = some (w12) ∧ fr'[20]? = some (av) ∧ fr'[21]? = some (w21) ∧ fr'[22]? = some (w22) ∧ fr'[112]? = some (w112) ∧ fr'[113]? = some (w113) ∧ fr'[114]? = some (w114)) ∧ OutAt L H' out' (bs ++ us.flatten) ∧ WKeep L H H') := by
  dsimp only [hbW, Tryd.f12, Option.getD_some, loopsOf, List.cons_append, List.nil_append, cd2]
  generalize hni : ((us.length : Nat) : Int) = n at hfr
  refine WP.loop (Inv := fun i fr' H' => ∃ out', (fr'.length = 216 ∧ fr'[0]? = some (w0) ∧ fr'[1]? = some (out') ∧ fr'[6]? = some (w6) ∧ fr'[12]? = some (w12) ∧ fr'[20]? = some (av) ∧ fr'[21]? = some (w21) ∧ fr'[22]? = some (w22) ∧ fr'[112]? = some (w112) ∧ fr'[113]? = some (w113) ∧ fr'[114]? = some (w114) ∧ fr'[186]? = some (.i .i64 n) ∧ fr'[187]? = some (.i .i64 (i : Nat))) ∧ OutAt L H' out' (bs ++ (us.take i).flatten) ∧ WKeep L H H') us.length ?_ us.length 0 fr H (by omega) ⟨out, hfr, by simpa using ho, .refl _ _⟩
  clear hfr ho
  intro i fr H1 hi ⟨out1, ⟨hfl, hf0, hf1, hf6, hf12, hf20, hf21, hf22, hf112, hf113, hf114, hf186, hf187⟩, ho, hk⟩
  obtain ⟨g, rfl⟩ := ex216 _ hfl; replace hf0 : g 0 = _ := Option.some.inj hf0; replace hf1 : g 1 = _ := Option.some.inj hf1; replace hf6 : g 6 = _ := Option.some.inj hf6; replace hf12 : g 12 = _ := Option.some.inj hf12; replace hf20 : g 20 = _ := Option.some.inj hf20; replace hf21 : g 21 = _ := Option.some.inj hf21; replace hf22 : g 22 = _ := Option.some.inj hf22; replace hf112 : g 112 = _ := Option.some.inj hf112; replace hf113 : g 113 = _ := Option.some.inj hf113; replace hf114 : g 114 = _ := Option.some.inj hf114; replace hf186 : g 186 = _ := Option.some.inj hf186; replace hf187 : g 187 = _ := Option.some.inj hf187; rw [hf0, hf1, hf6, hf12, hf20, hf21, hf22, hf112, hf113, hf114, hf186, hf187]; clear hfl hf0 hf1 hf6 hf12 hf20 hf21 hf22 hf112 hf113 hf114 hf186 hf187
  have hlt := lssI64 3 false (i : Nat) (us.length : Nat)
  rw [hni] at hlt
  by_cases hin : i < us.length
  rotate_left
  · replace hlt : binA P .lss 3 false (.i .i64 (i : Nat)) (.i .i64 n) = some (.b false) := by rw [hlt]; simp; omega
    rw [List.take_of_length_le (by omega)] at ho
    generalize ((i : Nat) : Int) = ii at hlt
    ((repeat with_reducible refine WP.seqs ?_); refine WP.rg ?_)
    ((repeat with_reducible refine WP.seqs ?_); first | refine WP.seq (WP.condF rfl ?_) | refine WP.condF rfl ?_)
    refine WP.exit ?_; repeat (first | with_reducible refine Sq.n ?_ | with_reducible refine Sq.ret ?_ | with_reducible refine Sq.exit ?_ | with_reducible refine Bk.n ?_ | with_reducible refine Bk.ret ?_ | with_reducible refine Bk.exit ?_ | with_reducible refine Bk.ex' (by decide) ?_ | with_reducible refine Lp.ret ?_ | with_reducible refine Lp.exit ?_ | with_reducible refine Lx.exit ?_)
    exact ⟨rfl, out1, ⟨rfl, rfl, rfl, rfl, rfl, rfl, rfl, rfl, rfl, rfl, rfl⟩, ho, hk⟩
  replace hlt : binA P .lss 3 false (.i .i64 (i : Nat)) (.i .i64 n) = some (.b true) := by rw [hlt]; simp; omega
  obtain ⟨q, hq, rfl, hrow⟩ : ∃ q, q < L ∧ av = .sl q 0 us.length ∧ RowU H1 q us := by
    rcases hw.keep hk with ⟨_, rfl⟩ | ⟨q, h1, h2, h3⟩
    · simp at hin
    · exact ⟨q, h1, h2, h3⟩
  have hix : indexAddrA P 38 (.sl q 0 us.length) (.i .i64 (i : Nat)) = some (.p q (i * 16)) := idxU' hin
  have hld := hrow.get hin ha
  have hul : us[i].length = 16 := ha _ (List.getElem_mem _)
  obtain ⟨b3, H3, H4, hal, hs4, k4, v4, hb3, _, _, _⟩ := alloc_new (H := H1) (e := 52) (cs := u8s us[i]) zeroU16 (u8s_one _) zU16 (by rw [u8s_length]; simp) (by rw [u8s_length, hul]) (u8s_one _)
  have hld4 : loadA P H4 52 (.p b3 0) = some (.g (u8s us[i])) := ldw v4 aU zU16 (by rw [u8s_length, hul])
  have hfl : ((us.take i).flatten).length ≤ 1600000 := by
    rw [flat16 _ (fun x hx => ha x (List.mem_of_mem_take hx)), List.length_take]; omega
  have hL4 : L ≤ H4.length := by have := hk.len; have := k4.1; omega
  obtain ⟨out2, H5, c5, ho5, w5⟩ := (apk_uuid true false).run L H4 out1 _ (.g (u8s us[i])) (.s us[i]) hL4 (ho.wk k4) rfl hul (by rw [List.length_append, show encK true .uuid (.s us[i]) = us[i] from rfl, hul]; omega)
  have hadd := addI64 3 true (i : Nat) 1 (by omega)
  rw [show ((i : Nat) : Int) + 1 = ((i + 1 : Nat) : Int) by omega] at hadd
  have htk : bs ++ (us.take i).flatten ++ us[i] = bs ++ (us.take (i + 1)).flatten := by
    rw [List.take_add_one, List.getElem?_eq_getElem hin, Option.toList_some, List.flatten_append, List.append_assoc]; simp
  rw [show encK true .uuid (.s us[i]) = us[i] from rfl, htk] at ho5
  generalize u8s us[i] = cv at *
  generalize hj1 : ((i + 1 : Nat) : Int) = i1 at hadd
  generalize ((i : Nat) : Int) = ii at hlt hix hadd
  ((repeat with_reducible refine WP.seqs ?_); refine WP.rg ?_)
  ((repeat with_reducible refine WP.seqs ?_); first | refine WP.seq (WP.condT rfl ?_) | refine WP.condT rfl ?_)
  refine WP.skip ?_; repeat (first | with_reducible refine Sq.n ?_ | with_reducible refine Sq.ret ?_ | with_reducible refine Sq.exit ?_ | with_reducible refine Bk.n ?_ | with_reducible refine Bk.ret ?_ | with_reducible refine Bk.exit ?_ | with_reducible refine Bk.ex' (by decide) ?_ | with_reducible refine Lp.ret ?_ | with_reducible refine Lp.exit ?_ | with_reducible refine Lx.exit ?_)
  ((repeat with_reducible refine WP.seqs ?_); first | refine WP.seq (WP.block ?_) | refine WP.block ?_)
  ((repeat with_reducible refine WP.seqs ?_); refine WP.rg ?_)
  ((repeat with_reducible refine WP.seqs ?_); refine WP.rg ?_)
  refine WP.re ?_; repeat (first | with_reducible refine Sq.n ?_ | with_reducible refine Sq.ret ?_ | with_reducible refine Sq.exit ?_ | with_reducible refine Bk.n ?_ | with_reducible refine Bk.ret ?_ | with_reducible refine Bk.exit ?_ | with_reducible refine Bk.ex' (by decide) ?_ | with_reducible refine Lp.ret ?_ | with_reducible refine Lp.exit ?_ | with_reducible refine Lx.exit ?_)
  refine WP.re ?_; repeat (first | with_reducible refine Sq.n ?_ | with_reducible refine Sq.ret ?_ | with_reducible refine Sq.exit ?_ | with_reducible refine Bk.n ?_ | with_reducible refine Bk.ret ?_ | with_reducible refine Bk.exit ?_ | with_reducible refine Bk.ex' (by decide) ?_ | with_reducible refine Lp.ret ?_ | with_reducible refine Lp.exit ?_ | with_reducible refine Lx.exit ?_)
  exact Lp.n ⟨hin, out2, ⟨rfl, rfl, rfl, rfl, rfl, rfl, rfl, rfl, rfl, rfl, rfl, rfl, rfl⟩, ho5, hk.trans ((WKeep.kp' k4 (by have := hk.len; omega)).trans w5)⟩
end Go.Proofs.YtiifcfngbbhgoagDoor.Rd

