/-
  TAGGED: what its contract gives, its call in the world comes to.
-/
import Derived.Test.YtdoaobkfbjegpaaQRdEachA
import Derived.Test.YtdoaobkfbjegpaaQRdNs
import Derived.Test.YtdoaobkfbjegpaaProg
import Derived.LaidLaws
set_option linter.constructorNameAsVariable false
set_option linter.unusedVariables false
set_option linter.unusedSimpArgs false
namespace Go.Proofs.Ytdoaobkfbjegpaa.Rd
open Go Go.RowKit Go.ChangeMaps Go.Proofs.Ytdoaobkfbjegpaa.Ax
set_option maxRecDepth 100000
section
variable {ρ : Nat → Value} {base : Nat} {μ μ' : List Ax.Loc} {H Hi H' : Heap} {w : World}
abbrev tTg : TypeId := 49
abbrev tSl : TypeId := 22
theorem tagged_each {x : Value} {w : World} {R : World → Prop} (hE : Calls Try.prog 18 #[.pointer (some ⟨w.heap.size, 0, none⟩), .func (.func 19) #[] #[.pointer (some ⟨w.heap.size + 1, 0, none⟩)]] ((w.alloc (.cells #[x] tTg)).alloc (.cells #[.slice none 0 0] tSl)) fun e w' => e = .returned (.tuple #[]) ∧ R w')
    {Q : Value → World → Prop} (hR : ∀ w', R w' → ∃ v, w'.cell? ⟨w.heap.size + 1, 0, none⟩ = some v ∧ Q v w') (hd : x.oneCell' = true) : Calls Try.prog 14 #[.agg #[x]] w fun e w' => ∃ v, e = .returned v ∧ Q v w' := by
  go_enter Try.func14, Try.ntmps14
  go_wp2_with (go_at_call 18; refine hE.mono ?_; rintro e w' ⟨rfl, hw⟩; obtain ⟨v, hcv, hq⟩ := hR w' hw)
  go_ret
  exact ⟨v, rfl, hq⟩
theorem loadA_cellS {i o : Nat} {v : AV} (h : loadA P H tSl (.p i o) = some v) : ∃ ty kn cs, H[i]? = some (.cells ty kn cs) ∧ cs[o]? = some v := by
  have h : loadAt P H tSl i o = some v := h
  unfold loadAt at h
  rw [show aggA P tSl = some false by kernel_rfl] at h
  cases hH : H[i]? with
  | none => rw [hH] at h; simp at h
  | some blk =>
    rw [hH] at h
    cases blk with
    | cells ty kn cs => exact ⟨ty, kn, cs, rfl, h⟩
    | map _ _ => simp at h
    | dead => simp at h
theorem tgHeap_eq (H : Heap) (x : AV) (es : List (Int × AV)) : tgHeap H x es = ((H ++ [.cells tTg .vr [x]]) ++ [.cells tSl .vr [.s0]]) ++ [.cells 37 .row (es.map fun e => .i .u32 e.1)] ++ [.cells 61 .vr [.sl ((H ++ [Blk.cells tTg .vr [x]]) ++ [Blk.cells tSl .vr [.s0]]).length 0 es.length]] := by
  simp [tgHeap]
def InvT (ρ : Nat → Value) (base : Nat) (μ2 : List Ax.Loc) (w : World) (box : Nat) (K : List Nat) (Hs : Heap) (es : List (Int × AV)) (H' : Heap) (i : Nat) (w' : World) : Prop :=
  ∃ μ' Hi, HR P ρ base μ' Hi w' ∧ Ext μ2 μ' ∧ Below base w w' ∧ TgRun box K Hi (es.drop i) H' ∧ ∀ j ∈ K, Hi[j]? = Hs[j]?
theorem two_new (hr : HR P ρ base μ H w) {x : AV} (hx1 : x.one = true) {xv : Value} (hx : VR ρ μ x xv) :
    HR P ρ base (μ ++ [⟨w.heap.size, 0, false⟩] ++ [⟨w.heap.size + 1, 0, false⟩]) ((H ++ [.cells tTg .vr [x]]) ++ [.cells tSl .vr [.s0]]) ((w.alloc (.cells #[xv] tTg)).alloc (.cells #[.slice none 0 0] tSl)) := by
  have hr1 := hr.alloc tTg (kn := .vr) rfl (cs := [x]) (by simp [hx1]) (vs := [xv]) (more := []) (.cons hx .nil) 0 (by simp) false (by simp)
  simp only [List.append_nil] at hr1
  have e1 : ([xv] : List Value).toArray = #[xv] := rfl
  rw [e1] at hr1
  have hr2 := hr1.alloc tSl (kn := .vr) rfl (cs := [.s0]) (by simp [AV.one]) (vs := [.slice none 0 0]) (more := []) (.cons .s0 .nil) 0 (by simp) false (by simp)
  simp only [List.append_nil] at hr2
  have e2 : ([.slice none 0 0] : List Value).toArray = #[.slice none 0 0] := rfl
  rw [e2] at hr2
  have hsz : (w.alloc (.cells #[xv] tTg)).heap.size = w.heap.size + 1 := by simp
  rw [hsz] at hr2
  exact hr2
theorem tagged_some (hρ : ∀ j, (ρ j).oneCell' = true) {i : Nat} {v : AV} {es es' : List (Int × AV)} (hi : H[i]? = some (.map .u32 es)) (hp : List.Perm es' es)
    (hso : (es'.map (·.1)).Pairwise (· < ·)) (h0 : 0 < es.length) (hbig : es.length ≤ 1099511627776) (hrun : TgRun (H.length + 1) [H.length, i, H.length + 2, H.length + 3] (tgHeap H (.mp i) es') es' H') (hv : loadA P H' tSl (.p (H.length + 1) 0) = some v) {vs : List Value}
    (hr : HR P ρ base μ H w) (hvs : VRs ρ μ [.g [.mp i]] vs) : Calls P 14 vs.toArray w (Meets P ρ base μ w v H') := by
  obtain ⟨hl2, hvs2⟩ := hvs
  match vs, hl2 with
  | [p'], hl3 =>
    have hp' : VR ρ μ (.g [.mp i]) p' := hvs2 0 _ _ rfl rfl
    clear hvs2 hl3
    cases hp' with
    | g hgl hgv =>
      rename_i gvs
      match gvs, hgl with
      | [xv], hgl' =>
        have hxv : VR ρ μ (.mp i) xv := hgv 0 _ _ rfl rfl
        clear hgv hgl'
        have hxv' := hxv
        cases hxv with
        | mp hlm =>
        rename_i lm
        obtain ⟨xs, clk, m1, m2, m3, m4, m5, m6, m7⟩ := hr.maps i _ es lm hi hlm
        have hel : es'.length = es.length := hp.length_eq
        have hr1 := two_new hr (x := .mp i) rfl hxv'
        have hW1 : ((w.alloc (.cells #[.map (some lm.b)] tTg)).alloc (.cells #[.slice none 0 0] tSl)).heap.size = w.heap.size + 2 := by simp
        have hbel1 : Below base w ((w.alloc (.cells #[.map (some lm.b)] tTg)).alloc (.cells #[.slice none 0 0] tSl)) := ((Below.refl _ _).alloc hr.base_le _).alloc (by have := hr.base_le; simp; omega) _
        have hE : Calls P 18 #[.pointer (some ⟨w.heap.size, 0, none⟩), .func (.func 19) #[] #[.pointer (some ⟨w.heap.size + 1, 0, none⟩)]] ((w.alloc (.cells #[.map (some lm.b)] tTg)).alloc (.cells #[.slice none 0 0] tSl)) fun e w' => e = .returned (.tuple #[]) ∧
            InvT ρ base (μ ++ [⟨w.heap.size, 0, false⟩] ++ [⟨w.heap.size + 1, 0, false⟩]) w (H.length + 1) [H.length, i, H.length + 2, H.length + 3] (tgHeap H (.mp i) es') es' H' es.length w' := by
          have hlmlt : lm.b < w.heap.size := (hr.maps i _ es lm hi hlm).lt
          have hil : i < H.length := (List.getElem?_eq_some_iff.1 hi).1
          have hlen1 : (μ ++ [(⟨w.heap.size, 0, false⟩ : Ax.Loc)] ++ [(⟨w.heap.size + 1, 0, false⟩ : Ax.Loc)]).length = H.length + 2 := by simp [hr.len]
          have hb' : (tgHeap H (.mp i) es')[H.length]? = some (.cells tTg .vr [.mp i]) := by unfold tgHeap; rw [List.getElem?_append_right (Nat.le_refl _)]; simp
          have hi' : (tgHeap H (.mp i) es')[i]? = some (.map .u32 es) := by unfold tgHeap; rw [List.getElem?_append_left hil]; exact hi
          have hrow' : (tgHeap H (.mp i) es')[H.length + 2]? = some (.cells 37 .row (es'.map fun e => .i .u32 e.1)) := by unfold tgHeap; rw [List.getElem?_append_right (by omega)]; simp
          have hlb : (μ ++ [(⟨w.heap.size, 0, false⟩ : Ax.Loc)] ++ [(⟨w.heap.size + 1, 0, false⟩ : Ax.Loc)])[H.length]? = some ⟨w.heap.size, 0, false⟩ := by
            rw [List.getElem?_append_left (by simp [hr.len]), ← hr.len]; simp
          have hlm1 : (μ ++ [(⟨w.heap.size, 0, false⟩ : Ax.Loc)] ++ [(⟨w.heap.size + 1, 0, false⟩ : Ax.Loc)])[i]? = some lm := Ext.append _ _ _ _ (Ext.append _ _ _ _ hlm)
          have htag : ((w.alloc (.cells #[.map (some lm.b)] tTg)).alloc (.cells #[.slice none 0 0] tSl)).cell? ⟨w.heap.size, 0, none⟩ = some (.map (some lm.b)) := by
            rw [cell_of_row _ _ _ _ _ _ ((heap_alloc_old _ _ (by simp)).trans (heap_alloc_new w _))]; rfl
          refine (each_walk w.heap.size 0 lm.b es.length xs clk _ ((w.alloc (.cells #[.map (some lm.b)] tTg)).alloc (.cells #[.slice none 0 0] tSl)) m3 h0 hbig htag ?_ m4 m5 (es'.map (·.1)) ?_ hso (fun j w' => InvT ρ base ((μ ++ [⟨w.heap.size, 0, false⟩] ++ [⟨w.heap.size + 1, 0, false⟩]) ++ [⟨w.heap.size + 2, es.length, true⟩]) w (H.length + 1) [H.length, i, H.length + 2, H.length + 3] (tgHeap H (.mp i) es') es' H' j w') ?_ ?_ 19 #[.pointer (some ⟨w.heap.size + 1, 0, none⟩)] rfl ?_ (enters_of Try.func19 (by kernel_rfl) rfl)).mono fun e w' ⟨q1, μ', Hi, q2, q3, q4⟩ => ⟨q1, μ', Hi, q2, fun j l h => q3 j l (Ext.append _ _ j l h), q4⟩
          · exact (heap_alloc_old _ _ (by simp; omega)).trans ((heap_alloc_old _ _ hlmlt).trans m1)
          · rw [map_keys (l := lm) m3 m7]; exact (hp.map _).map _
          · intro w1 hK
            have h3 := keys_start hr1 hel hbig hK
            rw [hW1] at h3
            have h4 := tgHeap_eq H (.mp i) es'
            rw [hel] at h4
            rw [← h4] at h3
            refine ⟨_, _, h3, Ext.append _ _, hbel1.trans (hK.below.mono (by have := hr.base_le; omega)), by simpa using hrun, fun _ _ => rfl⟩
          · rintro j w1 ⟨μ', Hi, i1, i2, i3, i4, i5⟩
            have ext0 : Ext (μ ++ [⟨w.heap.size, 0, false⟩] ++ [⟨w.heap.size + 1, 0, false⟩]) μ' := fun q l h => i2 q l (Ext.append _ _ q l h)
            constructor
            · obtain ⟨xv2, c1, c2⟩ := cell_at (o := 0) i1 ((i5 H.length (by simp)).trans hb') rfl (ext0 _ _ hlb)
              cases c2 with
              | mp hl2 =>
                rename_i lm2
                obtain rfl : lm = lm2 := Option.some.inj ((ext0 _ _ hlm1).symm.trans hl2)
                exact c1
            · intro q hq
              have hloc : μ'[H.length + 2]? = some ⟨w.heap.size + 2, es.length, true⟩ := i2 _ _ (by rw [← hlen1]; simp)
              have hq' : q < es'.length := by omega
              obtain ⟨u, c1, c2⟩ := cell_at (o := q) (x := .i .u32 (es'[q]).1) i1 ((i5 (H.length + 2) (by simp)).trans hrow') (by simp [hq']) hloc
              cases c2
              rw [hW1, c1]
              simp [hq']
          · rintro j k w1 ⟨μ', Hi, i1, i2, i3, i4, i5⟩ hk
            have ext0 : Ext (μ ++ [⟨w.heap.size, 0, false⟩] ++ [⟨w.heap.size + 1, 0, false⟩]) μ' := fun q l h => i2 q l (Ext.append _ _ q l h)
            rw [List.getElem?_map] at hk
            obtain ⟨⟨k', av⟩, hje, rfl⟩ := Option.map_eq_some_iff.1 hk
            have hjl := (List.getElem?_eq_some_iff.1 hje).1
            have hdrop : es'.drop j = (k', av) :: es'.drop (j + 1) := by rw [List.drop_eq_getElem_cons hjl, (List.getElem?_eq_some_iff.1 hje).2]
            rw [hdrop] at i4
            cases i4 with
            | cons hca hkk ht =>
              rename_i H1
              have hmem : (k', av) ∈ es := hp.mem_iff.1 (List.mem_of_getElem? hje)
              obtain ⟨xs2, clk2, n1, n2, n3, n4, n5, n6, n7⟩ := i1.maps i _ es lm ((i5 i (by simp)).trans hi') (ext0 _ _ hlm1)
              obtain ⟨u, u1, u2⟩ := map_val n3 n6 n7 hmem
              refine ⟨u, lookup_run (ks := es.map (·.1)) (by kernel_rfl) n1 (by rw [map_keys (l := lm) n3 n7]) (List.mem_map.2 ⟨_, hmem, rfl⟩) u1, ?_⟩
              have hbx : μ'[H.length + 1]? = some ⟨w.heap.size + 1, 0, false⟩ := ext0 _ _ (by rw [show H.length + 1 = (μ ++ [(⟨w.heap.size, 0, false⟩ : Ax.Loc)]).length by simp [hr.len]]; simp)
              refine (CA.calls hρ hca i1 (vs := [.int .u32 k', u, .pointer (some ⟨w.heap.size + 1, 0, none⟩)]) (.cons (.i _ _) (.cons u2 (.cons (.p hbx) .nil)))).mono fun e w2 hm => ?_
              obtain ⟨v', μ'', he, e1', hv', h5, h6⟩ := hm
              cases hv' with
              | t hl hh =>
                rename_i us
                obtain rfl : us = [] := List.eq_nil_of_length_eq_zero (by simpa using hl.symm)
                exact ⟨he, μ'', H1, h5, i2.trans e1', i3.trans h6, ht, fun q hq => (hkk q hq).trans (i5 q hq)⟩
        refine (tagged_each (w := w) (x := .map (some lm.b)) (Q := fun u w' => ∃ μ', Ext μ μ' ∧ VR ρ μ' v u ∧ HR P ρ base μ' H' w' ∧ Below base w w') hE (fun w' hI => ?_) rfl).mono fun e w' ⟨u, he, μ', q1, q2, q3, q4⟩ => ⟨u, μ', he, q1, q2, q3, q4⟩
        obtain ⟨μ', Hi, i1, i2, i3, i4, i5⟩ := hI
        rw [List.drop_of_length_le (by omega)] at i4
        cases i4
        have hloc : μ'[H.length + 1]? = some ⟨w.heap.size + 1, 0, false⟩ := i2 _ _ (by rw [show H.length + 1 = (μ ++ [(⟨w.heap.size, 0, false⟩ : Ax.Loc)]).length by simp [hr.len]]; simp)
        obtain ⟨ty2, kn2, cs2, hh, hv⟩ := loadA_cellS hv
        obtain ⟨u, hu, hur⟩ := cell_at i1 hh hv hloc
        exact ⟨u, hu, μ', fun j l h => i2 j l (Ext.append _ _ j l (Ext.append _ _ j l h)), hur, i1, i3⟩
theorem tagged_none (hρ : ∀ j, (ρ j).oneCell' = true) {x : AV} (hx1 : x.one = true) (hn : x = .m0 ∨ ∃ i, x = .mp i ∧ H[i]? = some (.map .u32 []))
    {vs : List Value} (hr : HR P ρ base μ H w) (hvs : VRs ρ μ [.g [x]] vs) : Calls P 14 vs.toArray w (Meets P ρ base μ w .s0 H) := by
  obtain ⟨hl2, hvs2⟩ := hvs
  match vs, hl2 with
  | [p'], hl3 =>
    have hp' : VR ρ μ (.g [x]) p' := hvs2 0 _ _ rfl rfl
    clear hvs2 hl3
    cases hp' with
    | g hgl hgv =>
      rename_i gvs
      match gvs, hgl with
      | [xv], hgl' =>
        have hxr : VR ρ μ x xv := hgv 0 _ _ rfl rfl
        clear hgv hgl'
        have hx1' : xv.oneCell' = true := hxr.oneCell hρ hx1
        have hc : ((w.alloc (.cells #[xv] tTg)).alloc (.cells #[.slice none 0 0] tSl)).cell? ⟨w.heap.size, 0, none⟩ = some xv := by
          rw [cell_of_row _ _ _ _ _ _ ((heap_alloc_old _ _ (by simp)).trans (heap_alloc_new w _))]; rfl
        have hum : Try.prog.underlying 47 = some (.map 37 28) := by kernel_rfl
        have hlen : (Builtin.len_ #[47] 3 #[xv]).run Try.prog ((w.alloc (.cells #[xv] tTg)).alloc (.cells #[.slice none 0 0] tSl)) = .ok (.int .i64 0) ((w.alloc (.cells #[xv] tTg)).alloc (.cells #[.slice none 0 0] tSl)) := by
          rcases hn with rfl | ⟨i, rfl, hi⟩
          · cases hxr
            simp [Builtin.len_, run_underlying hum, goInt]
          · cases hxr with
            | mp hlm =>
              rename_i lm
              obtain ⟨xs, clk, m1, _, m3, _⟩ := hr.maps i _ [] lm hi hlm
              have hlt := (hr.maps i _ [] lm hi hlm).lt
              have hg : (getObj lm.b).run Try.prog ((w.alloc (.cells #[.map (some lm.b)] tTg)).alloc (.cells #[.slice none 0 0] tSl)) = .ok (.map xs clk) ((w.alloc (.cells #[.map (some lm.b)] tTg)).alloc (.cells #[.slice none 0 0] tSl)) := by
                have := (heap_alloc_old (w.alloc (.cells #[.map (some lm.b)] tTg)) (.cells #[.slice none 0 0] tSl) (by simp; omega)).trans ((heap_alloc_old w (.cells #[.map (some lm.b)] tTg) hlt).trans m1)
                simp [getObj, Sem.run, this]
              simp [Builtin.len_, run_underlying hum, hg, goInt, m3]
        have hE := each_none (fn := .func (.func 19) #[] #[.pointer (some ⟨w.heap.size + 1, 0, none⟩)]) hc hlen
        refine (tagged_each (w := w) (x := xv) (R := fun w' => w' = (w.alloc (.cells #[xv] tTg)).alloc (.cells #[.slice none 0 0] tSl)) (Q := fun u w' => ∃ μ', Ext μ μ' ∧ VR ρ μ' .s0 u ∧ HR P ρ base μ' H w' ∧ Below base w w') hE (fun w' hw => ?_) hx1').mono fun e w' ⟨u, he, μ', q1, q2, q3, q4⟩ => ⟨u, μ', he, q1, q2, q3, q4⟩
        subst hw
        refine ⟨.slice none 0 0, ?_, μ, Ext.refl _, .s0, hr.aside (by simp; omega) (fun i b l hi hb' hl => ?_), ((Below.refl _ _).alloc hr.base_le _).alloc (by have := hr.base_le; simp; omega) _⟩
        · have e1 : w.heap.size + 1 = (w.alloc (.cells #[xv] tTg)).heap.size := by simp
          rw [e1, cell_of_row _ _ _ _ _ _ (heap_alloc_new _ _)]; rfl
        · have hlt : l.b < w.heap.size := by
            cases b with
            | cells ty kn cs => exact (hr.live i ty kn cs l hi hl).lt
            | map kd es => exact (hr.maps i kd es l hi hl).lt
            | dead => exact absurd rfl hb'
          exact (heap_alloc_old _ _ (by simp; omega)).trans (heap_alloc_old _ _ hlt)
theorem tagged_sound (hρ : ∀ j, (ρ j).oneCell' = true) : CallSound P ρ base nsTg := by
  intro f args H v H' h
  unfold nsTg at h
  cases hf : Nat.beq f 14 with
  | false => rw [hf] at h; cases h
  | true =>
    rw [hf] at h
    have hfe : f = 14 := Nat.eq_of_beq_eq_true hf
    subst hfe
    have h : tgS 14 args H = some (v, H') := h
    unfold tgS at h
    split at h
    · rename_i hex
      simp only [Option.some.injEq] at h
      have hr := hex.choose_spec
      rw [h] at hr
      refine .inl ⟨⟨_, Try.func14, rfl⟩, fun μ w vs hR hvs => ?_⟩
      obtain ⟨x, rfl, hx1, hc | ⟨i, es, es', rfl, hi, hp, hso, h0, hbig, hrun, hv⟩⟩ := hr
      · obtain ⟨hn, he⟩ := hc
        simp only [Prod.mk.injEq] at he
        obtain ⟨rfl, rfl⟩ := he
        exact tagged_none hρ hx1 hn hR hvs
      · exact tagged_some hρ hi hp hso h0 hbig hrun hv hR hvs
    · cases h
end
end Go.Proofs.Ytdoaobkfbjegpaa.Rd

namespace Go.Proofs.Ytdoaobkfbjegpaa.Rd
open Go Go.Proofs.Ytdoaobkfbjegpaa.Ax Go.Proofs.Ytdoaobkfbjegpaa.Wire
theorem orS_sound {P : Program} {ρ : Nat → Value} {base : Nat} {a b : CallA} (ha : CallSound P ρ base a) (hb : CallSound P ρ base b) : CallSound P ρ base (orS a b) := by
  intro f args H v H' h
  unfold orS at h
  split at h
  · rename_i r hr
    cases h
    exact ha f args H v H' hr
  · exact hb f args H v H' h
theorem nil_sound {P : Program} {ρ : Nat → Value} {base : Nat} : CallSound P ρ base (fun _ _ _ => none) := by
  intro f args H v H' h
  cases h
theorem ns_sound {ρ : Nat → Value} {base : Nat} (hρ : ∀ j, (ρ j).oneCell' = true) : CallSound P ρ base NS :=
  orS_sound nil_sound (orS_sound
    (orS_sound nil_sound nil_sound)
    (orS_sound nil_sound (orS_sound nil_sound
    (tagged_sound hρ))))
end Go.Proofs.Ytdoaobkfbjegpaa.Rd

namespace Go.Proofs.Ytdoaobkfbjegpaa.Rd
open Go
theorem seat_laid : laidOutB Try.prog = true := by kernel_rfl
theorem seat_maps : mapsRowed Try.prog = true := by kernel_rfl
theorem seat_enter : Try.prog.mayEnter = true := by kernel_rfl
theorem seat_heard : Try.prog.stopsHeard = true := by kernel_rfl
theorem seat_lifts : Try.prog.liftsFinal = false := by kernel_rfl
end Go.Proofs.Ytdoaobkfbjegpaa.Rd

