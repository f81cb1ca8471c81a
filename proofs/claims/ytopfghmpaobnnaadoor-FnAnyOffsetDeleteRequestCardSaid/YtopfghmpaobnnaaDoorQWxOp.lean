import Derived.Test.YtopfghmpaobnnaaDoorQWxRel
/-
  THE WRITING CODE's CHECKER: its operations are sound.
-/
namespace Go.Proofs.YtopfghmpaobnnaaDoor.Rd
set_option linter.constructorNameAsVariable false
set_option linter.unusedVariables false
set_option linter.unusedSimpArgs false
open Go Go.Proofs.YtopfghmpaobnnaaDoor.Ax Go.Proofs.YtopfghmpaobnnaaDoor.Wire
set_option linter.unusedVariables false
set_option linter.unusedSimpArgs false
set_option maxRecDepth 100000

section
variable {H0 : Heap} {cur : Nat} {out : AV} {lv : List WL}
theorem den_ofW (a : AV) : denW H0 cur out lv (ofW a) a := by
  have h := den_ofA (η := ⟨0, [], [], [], 0⟩) a
  unfold ofW
  cases hv : ofA a <;> rw [hv] at h <;> first | exact h | trivial
theorem con_denW {v : WV} {a b : AV} (h : v.con = some a) (d : denW H0 cur out lv v b) : b = a := by
  cases v <;> simp [WV.con] at h <;> subst h <;> exact d
theorem FRW.at_ {sf : WF} {fr : List AV} (h : sf.length = fr.length ∧ ∀ (t : Nat) (v : WV) (a : AV), sf[t]? = some v → fr[t]? = some a → denW H0 cur out lv v a) {t : Nat} {v : WV} (hv : sf[t]? = some v) : ∃ a, fr[t]? = some a ∧ denW H0 cur out lv v a := by
  have ht : t < fr.length := by have := (List.getElem?_eq_some_iff.1 hv).1; have := h.1; omega
  exact ⟨fr[t], by simp [ht], h.2 t v _ hv (by simp [ht])⟩
theorem evW_sound {sf : WF} {fr : List AV} (h : sf.length = fr.length ∧ ∀ (t : Nat) (v : WV) (a : AV), sf[t]? = some v → fr[t]? = some a → denW H0 cur out lv v a) {x : Operand} {v : WV} (hv : evW sf x = some v) : ∃ a, ev fr x = some a ∧ denW H0 cur out lv v a := by
  cases x with
  | tmp t =>
    obtain ⟨a, h1, h2⟩ := FRW.at_ h (t := t) hv
    exact ⟨a, h1, h2⟩
  | const y =>
    simp only [evW, Option.map_eq_some_iff] at hv
    obtain ⟨a, ha, rfl⟩ := hv
    exact ⟨a, ha, den_ofW a⟩
  | _ => simp [evW] at hv
end
theorem WKeep.kt {L0 : Nat} {H H' : Heap} (h : WKeep L0 H H') : KT (fun i => i < L0) H (fun i => i < L0) H' := ⟨h.len, fun i b hi hx => ⟨hi, by rw [h.at_ i hi]; exact hx⟩⟩

theorem isList_spec {e : Ev} (h : isList e = true) : ∃ sz n f, e = .list sz n f := by
  cases e with
  | list sz n f => exact ⟨sz, n, f, rfl⟩
  | _ => simp [isList] at h
/-- What lies in a list's cell. -/
theorem said_list {flex : Bool} {A : Nat → Prop} {H : Heap} {cs : List AV} {pl : List (Ev × Nat)} {vs : List V} (h : Said flex A H cs pl vs) {i sz o : Nat} {n : Bool} {f : F} (hi : pl[i]? = some (.list sz n f, o)) :
    ∃ v x k, vs[i]? = some v ∧ cs[o]? = some x ∧ ListRep A H sz n (Rep A H f) v x ∧ okE flex (.list sz n f) v ∧ slen x = some k ∧ k < 2147483648 ∧ (match v with | .l us => k = us.length ∧ (n = true → isS0 x = false) | _ => v = .nul ∧ n = true ∧ x = .s0) := by
  obtain ⟨v, h1, ⟨av, h2, h3, h4, h5⟩, h6⟩ := h i _ o hi
  have h3 : av.cells.length = 1 := h3
  have h2 : ListRep A H sz n (Rep A H f) v av := h2
  have hav : av.cells = [av] := by
    cases v with
    | l us =>
      rcases h2 with ⟨_, rfl⟩ | ⟨i, ty, bl, _, _, rfl, _⟩
      · split <;> rfl
      · rfl
    | nul => obtain ⟨_, rfl⟩ := h2; rfl
    | _ => exact h2.elim
  have hx : cs[o]? = some av := by
    have h5 : (cs.drop o).take 1 = [av] := by rw [← hav]; exact h5
    have := congrArg (fun l => l[0]?) h5
    simpa [List.getElem?_take] using this
  refine ⟨v, av, ?_⟩
  cases v with
  | l us =>
    obtain ⟨g1, g2⟩ : us.length < 2 ^ 31 ∧ _ := h6
    rcases h2 with ⟨rfl, rfl⟩ | ⟨i, ty, bl, p0, pA, rfl, p2⟩
    · refine ⟨0, h1, hx, .inl ⟨rfl, rfl⟩, ⟨g1, g2⟩, by split <;> rfl, by omega, rfl, fun hn => by rw [hn]; rfl⟩
    · exact ⟨us.length, h1, hx, .inr ⟨i, ty, bl, p0, pA, rfl, p2⟩, ⟨g1, g2⟩, rfl, by omega, rfl, fun _ => rfl⟩
  | nul =>
    obtain ⟨rfl, rfl⟩ := h2
    exact ⟨0, h1, hx, ⟨rfl, rfl⟩, h6, rfl, by omega, rfl, rfl, rfl⟩
  | _ => exact h2.elim
theorem said_tags {flex : Bool} {A : Nat → Prop} {H : Heap} {cs : List AV} {pl : List (Ev × Nat)} {vs : List V} (h : Said flex A H cs pl vs) {i o : Nat} (hi : pl[i]? = some (.tags, o)) :
    ∃ ts x, vs[i]? = some (.t ts) ∧ cs[o]? = some x ∧ TagRep H (.t ts) (.g [x]) ∧ tagN H x = some ts.length ∧ ts.length < 4294967296 := by
  obtain ⟨v, h1, ⟨av, h2, h3, h4, h5⟩, h6⟩ := h i _ o hi
  obtain ⟨ts, rfl, ho, ⟨rfl, rfl⟩ | hf⟩ := h2
  · have hx : cs[o]? = some .m0 := by
      have h5 : (cs.drop o).take 1 = [.m0] := h5
      have := congrArg (fun l => l[0]?) h5
      simpa [List.getElem?_take] using this
    exact ⟨[], .m0, h1, hx, ⟨[], rfl, ho, .inl ⟨rfl, rfl⟩⟩, rfl, by simp⟩
  · exact hf.elim

section
variable {C : Cfg} {H0 : Heap} {L0 : Nat} {o0 : B} {s : WS} {σ : WSta}

theorem WOK.lst_at (h : WOK C H0 L0 o0 s σ) {l o : Nat} {e : WL} (he : σ.lv[l]? = some e) (hl : s.lst l o = true) : ∃ x k, e.cs[o]? = some x ∧ slen x = some k ∧ k < 2147483648 := by
  have hll := (List.getElem?_eq_some_iff.1 he).1
  have hex : s.exp[l]? = some (s.exp[l]'(by rw [h.exl]; exact hll)) := by simp
  have hvs : σ.vs[l]? = some (σ.vs[l]'(by rw [h.vsl]; exact hll)) := by simp
  unfold WS.lst at hl
  rw [hex] at hl
  simp only [Option.getD_some, List.any_eq_true, Bool.and_eq_true, decide_eq_true_eq] at hl
  obtain ⟨⟨ev, o'⟩, hm, rfl, hi⟩ := hl
  obtain ⟨sz, n, f, rfl⟩ := isList_spec hi
  obtain ⟨i, hi⟩ := List.mem_iff_getElem?.1 hm
  obtain ⟨v, x, k, _, h2, _, _, h3, h4, _⟩ := said_list (h.said l e _ _ he hex hvs) hi
  exact ⟨x, k, h2, h3, h4⟩
theorem WOK.tgs_at (h : WOK C H0 L0 o0 s σ) {l o : Nat} {e : WL} (he : σ.lv[l]? = some e) (hl : s.tgs l o = true) : ∃ x k, e.cs[o]? = some x ∧ tagN H0 x = some k ∧ k < 4294967296 := by
  have hll := (List.getElem?_eq_some_iff.1 he).1
  have hex : s.exp[l]? = some (s.exp[l]'(by rw [h.exl]; exact hll)) := by simp
  have hvs : σ.vs[l]? = some (σ.vs[l]'(by rw [h.vsl]; exact hll)) := by simp
  unfold WS.tgs at hl
  rw [hex] at hl
  simp only [Option.getD_some, List.any_eq_true, Bool.and_eq_true, decide_eq_true_eq, beq_iff_eq] at hl
  obtain ⟨⟨ev, o'⟩, hm, rfl, rfl⟩ := hl
  obtain ⟨i, hi⟩ := List.mem_iff_getElem?.1 hm
  obtain ⟨ts, x, _, h2, _, h3, h4⟩ := said_tags (h.said l e _ _ he hex hvs) hi
  exact ⟨x, ts.length, h2, h3, h4⟩
theorem WOK.blk (h : WOK C H0 L0 o0 s σ) {l : Nat} {e : WL} (he : σ.lv[l]? = some e) (hj : e.j < e.n) : ∃ ty kn bl, σ.H[e.b]? = some (.cells ty kn bl) ∧ e.w + e.sz ≤ bl.length ∧ (bl.drop e.w).take e.sz = e.cs ∧ e.cs.length = e.sz := by
  obtain ⟨h2, h3, ty, kn, bl, h4, h5, h6⟩ := (h.lv l e he).2 hj
  exact ⟨ty, kn, bl, by rw [h.keep.at_ _ h3]; exact h4, h5, h6, h2⟩
theorem cs_get {bl cs : List AV} {w sz o : Nat} (h : (bl.drop w).take sz = cs) (ho : o < sz) : bl[w + o]? = cs[o]? := by
  rw [← h, List.getElem?_take, if_pos ho, List.getElem?_drop]

theorem cmpW_sound (h : WOK C H0 L0 o0 s σ) {op : BinOp} {t : TypeId} {c : Bool} {x y v : WV} {a b : AV} (hv : cmpW s op t x y = some v) (dx : denW H0 s.cur σ.out σ.lv x a) (dy : denW H0 s.cur σ.out σ.lv y b) : ∃ r, binA P op t c a b = some r ∧ denW H0 s.cur σ.out σ.lv v r := by
  unfold cmpW at hv
  split at hv
  · rename_i l o
    split at hv
    · rename_i et het
      split at hv
      · rename_i hl
        simp at hv; subst hv
        obtain ⟨e, e1, e2⟩ := dx
        obtain rfl := dy
        obtain ⟨x, k, h1, h2, _⟩ := h.lst_at e1 hl
        rw [e2] at h1; cases h1
        refine ⟨.b (isS0 a), ?_, e, a, k, e1, e2, h2, rfl⟩
        have hu := elem_slice het
        cases a <;> simp [slen] at h2 <;> simp [binA, eqA, CK.av, hu, isS0]
      · cases hv
    · cases hv
  · rename_i l l' o
    split at hv
    · rename_i hc
      obtain ⟨rfl, hc⟩ := hc
      simp at hv; subst hv
      obtain ⟨e, e1, rfl, e3, _⟩ := dx
      obtain ⟨p, x, n, p1, p2, p3, rfl⟩ := dy
      obtain ⟨x', u1, u2, _⟩ := h.up l p e p1 e1
      obtain ⟨hl, _⟩ := h.lv _ e e1
      rw [hl] at hc
      simp at hc
      subst hc
      rw [p2] at u1; cases u1
      rw [p3] at u2; cases u2
      exact ⟨_, lss _ _ _ _ _, by simp [denW]; omega⟩
    · cases hv
  · rename_i l l' o
    split at hv
    · rename_i hc
      obtain ⟨rfl, hc⟩ := hc
      simp at hv; subst hv
      obtain ⟨e, e1, rfl⟩ := dx
      obtain ⟨p, x, n, p1, p2, p3, rfl⟩ := dy
      obtain ⟨x', u1, u2, _⟩ := h.up l p e p1 e1
      obtain ⟨hl, _⟩ := h.lv _ e e1
      rw [hl] at hc
      simp at hc
      subst hc
      rw [p2] at u1; cases u1
      rw [p3] at u2; cases u2
      exact ⟨_, lss _ _ _ _ _, by simp [denW]⟩
    · cases hv
  · cases hv
theorem binW_sound {op : BinOp} {t : TypeId} {c : Bool} {x y v : WV} {cur : Nat} {out : AV} {lv : List WL} {a b : AV} (hv : binW op t c x y = some v) (dx : denW H0 cur out lv x a) (dy : denW H0 cur out lv y b) : ∃ r, binA P op t c a b = some r ∧ denW H0 cur out lv v r := by
  unfold binW at hv
  split at hv
  · rename_i a' b' ha hb
    rw [con_denW ha dx, con_denW hb dy]
    simp only [Option.map_eq_some_iff] at hv
    obtain ⟨r, hr, rfl⟩ := hv
    exact ⟨r, hr, den_ofW r⟩
  · split at hv
    · simp at hv; subst hv
      obtain rfl := dx
      obtain ⟨e, x, n, e1, e2, e3, e4, rfl⟩ := dy
      refine ⟨_, add _ _ _ _ _, e, x, n, e1, e2, e3, e4, ?_⟩
      simp [IntKind.wrap, IntKind.signed, IntKind.bits]; omega
    · simp at hv; subst hv
      obtain rfl := dy
      obtain ⟨e, e1, rfl, e2, e3⟩ := dx
      refine ⟨_, add _ _ _ _ _, e, e1, ?_⟩
      simp [IntKind.wrap, IntKind.signed, IntKind.bits]; omega
    · cases hv

theorem pureW_sound (h : WOK C H0 L0 o0 s σ) {o : Op} {v : WV} (hv : pureW o s = some v) : isCall o = false ∧ ∃ a, opA P o σ.fr σ.H = some (a, σ.H) ∧ denW H0 s.cur σ.out σ.lv v a := by
  unfold pureW at hv
  split at hv
  · obtain ⟨a, h1, h2⟩ := evW_sound h.fr hv
    exact ⟨rfl, a, op_move h1, h2⟩
  · obtain ⟨a, h1, h2⟩ := evW_sound h.fr hv
    exact ⟨rfl, a, op_assign h1, h2⟩
  · split at hv
    · rename_i hc
      obtain ⟨c, h1, rfl⟩ := evW_sound h.fr hc
      obtain ⟨a, h3, h4⟩ := evW_sound h.fr hv
      exact ⟨rfl, a, op_pickT h1 h3, h4⟩
    · rename_i hc
      obtain ⟨c, h1, rfl⟩ := evW_sound h.fr hc
      obtain ⟨a, h3, h4⟩ := evW_sound h.fr hv
      exact ⟨rfl, a, op_pickF h1 h3, h4⟩
    · cases hv
  · split at hv
    · rename_i l o hx
      simp at hv; subst hv
      obtain ⟨a, h1, e, h2, hj, rfl⟩ := evW_sound h.fr hx
      exact ⟨rfl, _, op_nilCheck h1, e, h2, hj, rfl⟩
    · cases hv
  · split at hv
    · rename_i l o hx
      split at hv
      · rename_i i o' hfa
        simp at hv; subst hv
        obtain ⟨a, h1, e, h2, hj, rfl⟩ := evW_sound h.fr hx
        exact ⟨rfl, _, op_fieldAddr h1 (fieldAddr_shift hfa _ _), e, h2, hj, rfl⟩
      · cases hv
    · cases hv
  · split at hv
    · rename_i l o l' hx hk
      split at hv
      · rename_i sz hsz
        split at hv
        · rename_i hh
          obtain ⟨rfl, hl⟩ := hh
          simp at hv; subst hv
          obtain ⟨a, h1, p, p1, p2⟩ := evW_sound h.fr hx
          obtain ⟨b, k1, e, e1, rfl, e3, e4⟩ := evW_sound h.fr hk
          obtain ⟨x', u1, u2, u3⟩ := h.up l p e p1 e1
          obtain ⟨hl2, _⟩ := h.lv _ e e1
          rw [hl] at hl2
          simp at hl2
          obtain ⟨rfl, rfl⟩ := hl2
          rw [p2] at u1; cases u1
          obtain ⟨rfl, u4⟩ := u3 e3
          refine ⟨rfl, .p e.b (0 + e.j * e.sz), op_indexAddr h1 k1 ?_, e, e1, e3, by rw [u4]; simp⟩
          cases he : elemA P _ with
          | none => rw [he] at hsz; cases hsz
          | some et =>
            rw [he] at hsz
            simp only [Option.bind_some] at hsz
            simp only [indexAddrA, he, hsz]
            rw [if_pos ⟨by omega, by omega⟩]
            simp
        · cases hv
      · cases hv
    · cases hv
  · rename_i t0 x0
    split at hv
    · rename_i l o hx
      obtain ⟨a, h1, e, h2, hj, rfl⟩ := evW_sound h.fr hx
      obtain ⟨ty, kn, bl, b1, b2, b3, b4⟩ := h.blk h2 hj
      split at hv
      · rename_i o1 sz hag hlv
        obtain ⟨hl2, _⟩ := h.lv _ e h2
        rw [hlv] at hl2
        simp at hl2
        obtain ⟨rfl, rfl⟩ := hl2
        split at hv
        · rename_i ho
          have hg := cs_get b3 ho
          have hc : e.cs[o]? = some (e.cs[o]'(by omega)) := by simp
          have hld : loadA P σ.H t0 (.p e.b (e.w + o)) = some (e.cs[o]'(by omega)) := by simp only [loadA, loadAt, b1, hag]; rw [hg, hc]
          split at hv
          · rename_i n hver
            split at hv
            · rename_i hh
              obtain ⟨rfl, rfl⟩ := hh
              simp at hv; subst hv
              obtain ⟨e', e1, e2⟩ := h.ver n hver
              rw [h2] at e1; cases e1
              rw [hc] at e2
              refine ⟨rfl, _, op_load h1 hld, ?_⟩
              simp at e2
              exact e2
            · simp at hv; subst hv
              exact ⟨rfl, _, op_load h1 hld, e, h2, hc⟩
          · simp at hv; subst hv
            exact ⟨rfl, _, op_load h1 hld, e, h2, hc⟩
        · cases hv
      · rename_i w o1 sz hag hsz hlv
        obtain ⟨hl2, _⟩ := h.lv _ e h2
        rw [hlv] at hl2
        simp at hl2
        obtain ⟨rfl, rfl⟩ := hl2
        split at hv
        · rename_i ho
          simp at hv; subst hv
          refine ⟨rfl, .g ((e.cs.drop o).take w), op_load h1 ?_, e, h2, by omega, rfl⟩
          simp only [loadA, loadAt, b1, hag, hsz]
          rw [if_pos (by omega)]
          congr 2
          rw [← b3, List.drop_take, List.take_take, List.drop_drop, show min w (e.sz - o) = w by omega]
        · cases hv
      · cases hv
    · cases hv
  · split at hv
    · rename_i x y hx hy
      obtain ⟨a, h1, h2⟩ := evW_sound h.fr hx
      obtain ⟨b, k1, k2⟩ := evW_sound h.fr hy
      split at hv
      · rename_i w hw
        simp at hv; subst hv
        obtain ⟨r, r1, r2⟩ := cmpW_sound h hw h2 k2
        exact ⟨rfl, r, op_bin h1 k1 rfl r1, r2⟩
      · obtain ⟨r, r1, r2⟩ := binW_sound hv h2 k2
        exact ⟨rfl, r, op_bin h1 k1 rfl r1, r2⟩
    · cases hv
  · split at hv
    · rename_i a hx
      cases hv2 : evW s.fr _ with
      | none => rw [hv2] at hx; cases hx
      | some v =>
        rw [hv2] at hx
        simp only [Option.bind_some] at hx
        obtain ⟨b, h1, h2⟩ := evW_sound h.fr hv2
        rw [con_denW hx h2] at h1
        simp only [Option.map_eq_some_iff] at hv
        obtain ⟨r, hr, rfl⟩ := hv
        exact ⟨rfl, r, op_un h1 hr, den_ofW r⟩
    · cases hv
  · split at hv
    · rename_i l o hx
      split at hv
      · rename_i hs hd
        simp at hv; subst hv
        obtain ⟨a, h1, e, x, n, e1, e2, e3, e4, rfl⟩ := evW_sound h.fr hx
        refine ⟨rfl, _, op_conv h1 (v := .i .u32 (IntKind.u32.wrap (n : Int))) ?_, e, x, n, e1, e2, e3, e4, ?_⟩
        · simp [convA, hs, hd]
        · simp [IntKind.wrap, IntKind.signed, IntKind.bits]; omega
      · cases hv
    · rename_i w hno hx
      split at hv
      · rename_i a ha
        obtain ⟨b, h1, h2⟩ := evW_sound h.fr hx
        rw [con_denW ha h2] at h1
        simp only [Option.map_eq_some_iff] at hv
        obtain ⟨r, hr, rfl⟩ := hv
        exact ⟨rfl, r, op_conv h1 hr, den_ofW r⟩
      · cases hv
    · cases hv
  · split at hv
    · rename_i x t hargs hats
      split at hv
      · rename_i l o et hx het
        split at hv
        · rename_i hl
          simp at hv; subst hv
          obtain ⟨a, h1, e, e1, e2⟩ := evW_sound h.fr hx
          obtain ⟨x', k, g1, g2, _⟩ := h.lst_at e1 hl
          rw [e2] at g1; cases g1
          have hu := elem_slice het
          refine ⟨rfl, .i .i64 (k : Nat), ?_, e, a, k, e1, e2, g2, rfl⟩
          have hln : lenA P t a = some (.i .i64 (k : Nat)) := by
            cases a <;> simp [slen] at g2
            · subst g2; simp [lenA, hu]
            · subst g2; simp [lenA, hu]
            · rename_i i oo n
              cases oo with
              | zero => simp at g2; subst g2; simp [lenA, hu]
              | succ oo => simp at g2
          simp [opA, hargs, hats, h1, hln]
        · cases hv
      · cases hv
    · cases hv
  · cases hv
end
end Go.Proofs.YtopfghmpaobnnaaDoor.Rd

