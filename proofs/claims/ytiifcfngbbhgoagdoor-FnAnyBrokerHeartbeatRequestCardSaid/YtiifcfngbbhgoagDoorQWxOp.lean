/-
  THE WRITING CODE's CHECKER: its operations are sound.
-/
import Derived.Test.YtiifcfngbbhgoagDoorQSxTops
set_option linter.constructorNameAsVariable false
set_option linter.unusedVariables false
set_option linter.unusedSimpArgs false
namespace Go.Proofs.YtiifcfngbbhgoagDoor.Rd
open Go Go.Proofs.YtiifcfngbbhgoagDoor.Ax Go.Proofs.YtiifcfngbbhgoagDoor.Wire
set_option maxRecDepth 100000
section
variable {H0 : Heap} {cur : Nat} {out : AV} {lv : List WL}
theorem den_ofW (a : AV) : denW H0 cur out lv (ofW a) a := by
  have h := den_ofA (η := ⟨0, [], [], [], 0⟩) a
  unfold ofW
  cases hv : ofA a <;> rw [hv] at h <;> first | exact h | trivial
theorem con_denW {v : WV} {a b : AV} (h : v.con = some a) (d : denW H0 cur out lv v b) : b = a := by
  cases v <;> simp [WV.con] at h <;> subst h <;> exact d
theorem FRW.at_ {sf : WF} {fr : List AV} (h : sf.length = fr.length ∧ ∀ (t : Nat) (v : WV) (a : AV), sf[t]? = some v → fr[t]? = some a → denW H0 cur out lv v a) {t : Nat} {v : WV} (hv : sf[t]? = some v) : ∃ a, fr[t]? = some a ∧ denW H0 cur out lv v a := by
  have ht : t < fr.length := by have := (List.getElem?_eq_some_iff.1 hv).1; have := h.1; omega
  exact ⟨fr[t], by simp [ht], h.2 t v _ hv (by simp [ht])⟩
theorem evW_sound {sf : WF} {fr : List AV} (h : sf.length = fr.length ∧ ∀ (t : Nat) (v : WV) (a : AV), sf[t]? = some v → fr[t]? = some a → denW H0 cur out lv v a) {x : Operand} {v : WV} (hv : evW sf x = some v) : ∃ a, ev fr x = some a ∧ denW H0 cur out lv v a := by
  cases x with
  | tmp t =>
    obtain ⟨a, h1, h2⟩ := FRW.at_ h (t := t) hv
    exact ⟨a, h1, h2⟩
  | const y =>
    simp only [evW, Option.map_eq_some_iff] at hv
    obtain ⟨a, ha, rfl⟩ := hv
    exact ⟨a, ha, den_ofW a⟩
  | _ => simp [evW] at hv
end
theorem WKeep.kt {L0 : Nat} {H H' : Heap} (h : WKeep L0 H H') : KT (fun i => i < L0) H (fun i => i < L0) H' := ⟨h.len, fun i b hi hx => ⟨hi, by rw [h.at_ i hi]; exact hx⟩⟩
theorem isList_spec {e : Ev} (h : isList e = true) : ∃ sz n f, e = .list sz n f := by
  cases e with
  | list sz n f => exact ⟨sz, n, f, rfl⟩
  | _ => simp [isList] at h
theorem said_list {flex : Bool} {A : Nat → Prop} {H : Heap} {cs : List AV} {pl : List (Ev × Nat)} {vs : List V} (h : Said flex A H cs pl vs) {i sz o : Nat} {n : Bool} {f : F} (hi : pl[i]? = some (.list sz n f, o)) :
    ∃ v x k, vs[i]? = some v ∧ cs[o]? = some x ∧ ListRep A H sz n (Rep A H f) v x ∧ okE flex (.list sz n f) v ∧ slen x = some k ∧ k < 2147483648 ∧ (match v with | .l us => k = us.length ∧ (n = true → isS0 x = false) | _ => v = .nul ∧ n = true ∧ x = .s0) := by
  obtain ⟨v, h1, ⟨av, h2, h3, h4, h5⟩, h6⟩ := h i _ o hi
  have h3 : av.cells.length = 1 := h3
  have h2 : ListRep A H sz n (Rep A H f) v av := h2
  have hav : av.cells = [av] := by
    cases v with
    | l us =>
      rcases h2 with ⟨_, rfl | ⟨_, rfl⟩⟩ | ⟨i, ty, bl, _, _, rfl, _⟩ <;> rfl
    | nul => obtain ⟨_, rfl⟩ := h2; rfl
    | _ => exact h2.elim
  have hx : cs[o]? = some av := by
    have h5 : (cs.drop o).take 1 = [av] := by rw [← hav]; exact h5
    have := congrArg (fun l => l[0]?) h5
    simpa [List.getElem?_take] using this
  refine ⟨v, av, ?_⟩
  cases v with
  | l us =>
    obtain ⟨g1, g2⟩ : us.length < 2 ^ 31 ∧ _ := h6
    rcases h2 with ⟨rfl, rfl | ⟨hn0, rfl⟩⟩ | ⟨i, ty, bl, p0, pA, rfl, p2⟩
    · exact ⟨0, h1, hx, .inl ⟨rfl, .inl rfl⟩, ⟨g1, g2⟩, rfl, by omega, rfl, fun _ => rfl⟩
    · exact ⟨0, h1, hx, .inl ⟨rfl, .inr ⟨hn0, rfl⟩⟩, ⟨g1, g2⟩, rfl, by omega, rfl, fun hn => by rw [hn] at hn0; cases hn0⟩
    · exact ⟨us.length, h1, hx, .inr ⟨i, ty, bl, p0, pA, rfl, p2⟩, ⟨g1, g2⟩, rfl, by omega, rfl, fun _ => rfl⟩
  | nul =>
    obtain ⟨rfl, rfl⟩ := h2
    exact ⟨0, h1, hx, ⟨rfl, rfl⟩, h6, rfl, by omega, rfl, rfl, rfl⟩
  | _ => exact h2.elim
theorem said_tags {flex : Bool} {A : Nat → Prop} {H : Heap} {cs : List AV} {pl : List (Ev × Nat)} {vs : List V} (h : Said flex A H cs pl vs) {i o : Nat} (hi : pl[i]? = some (.tags, o)) :
    ∃ ts x, vs[i]? = some (.t ts) ∧ cs[o]? = some x ∧ TagRep A H (.t ts) (.g [x]) ∧ tagN H x = some ts.length ∧ ts.length < 4294967296 := by
  obtain ⟨v, h1, ⟨av, h2, h3, h4, h5⟩, h6⟩ := h i _ o hi
  obtain ⟨ts, rfl, ho, ⟨rfl, rfl⟩ | ⟨q, es, rfl, hA, hq, es', e1, e2, e3⟩⟩ := h2
  · have hx : cs[o]? = some .m0 := by
      have h5 : (cs.drop o).take 1 = [.m0] := h5
      have := congrArg (fun l => l[0]?) h5
      simpa [List.getElem?_take] using this
    exact ⟨[], .m0, h1, hx, ⟨[], rfl, ho, .inl ⟨rfl, rfl⟩⟩, rfl, by simp⟩
  · have hx : cs[o]? = some (.mp q) := by
      have h5 : (cs.drop o).take 1 = [.mp q] := h5
      have := congrArg (fun l => l[0]?) h5
      simpa [List.getElem?_take] using this
    have hl : es.length = ts.length := by
      have a := e1.length_eq
      have b := congrArg List.length e2
      simp at b; omega
    obtain ⟨g1, g2⟩ : okT 0 ts ∧ ts.length < 2 ^ 32 := h6
    refine ⟨ts, .mp q, h1, hx, ⟨ts, rfl, ho, .inr ⟨q, es, rfl, hA, hq, es', e1, e2, e3⟩⟩, ?_, by omega⟩
    simp only [tagN, hq, hl]
section
variable {C : Cfg} {H0 : Heap} {L0 : Nat} {o0 : B} {s : WS} {σ : WSta}
theorem WOK.lst_at (h : WOK C H0 L0 o0 s σ) {l o : Nat} {e : WL} (he : σ.lv[l]? = some e) (hl : s.lst l o = true) : ∃ x k, e.cs[o]? = some x ∧ slen x = some k ∧ k < 2147483648 := by
  have hll := (List.getElem?_eq_some_iff.1 he).1
  have hex : s.exp[l]? = some (s.exp[l]'(by rw [h.exl]; exact hll)) := by simp
  have hvs : σ.vs[l]? = some (σ.vs[l]'(by rw [h.vsl]; exact hll)) := by simp
  unfold WS.lst at hl
  rw [hex] at hl
  simp only [Option.getD_some, List.any_eq_true, Bool.and_eq_true, decide_eq_true_eq] at hl
  obtain ⟨⟨ev, o'⟩, hm, rfl, hi⟩ := hl
  obtain ⟨sz, n, f, rfl⟩ := isList_spec hi
  obtain ⟨i, hi⟩ := List.mem_iff_getElem?.1 hm
  obtain ⟨v, x, k, _, h2, _, _, h3, h4, _⟩ := said_list (h.said l e _ _ he hex hvs) hi
  exact ⟨x, k, h2, h3, h4⟩
theorem WOK.tgs_at (h : WOK C H0 L0 o0 s σ) {l o : Nat} {e : WL} (he : σ.lv[l]? = some e) (hl : s.tgs l o = true) : ∃ x k, e.cs[o]? = some x ∧ tagN H0 x = some k ∧ k < 4294967296 ∧ ∃ v, TagRep (fun i => i < L0) H0 v (.g [x]) := by
  have hll := (List.getElem?_eq_some_iff.1 he).1
  have hex : s.exp[l]? = some (s.exp[l]'(by rw [h.exl]; exact hll)) := by simp
  have hvs : σ.vs[l]? = some (σ.vs[l]'(by rw [h.vsl]; exact hll)) := by simp
  unfold WS.tgs at hl
  rw [hex] at hl
  simp only [Option.getD_some, List.any_eq_true, Bool.and_eq_true, decide_eq_true_eq, beq_iff_eq] at hl
  obtain ⟨⟨ev, o'⟩, hm, rfl, rfl⟩ := hl
  obtain ⟨i, hi⟩ := List.mem_iff_getElem?.1 hm
  obtain ⟨ts, x, _, h2, h5, h3, h4⟩ := said_tags (h.said l e _ _ he hex hvs) hi
  exact ⟨x, ts.length, h2, h3, h4, _, h5⟩
theorem said_pstr {flex : Bool} {A : Nat → Prop} {H : Heap} {cs : List AV} {pl : List (Ev × Nat)} {vs : List V} (h : Said flex A H cs pl vs) {i o : Nat} (hi : pl[i]? = some (.leaf .pstr false, o)) :
    ∃ bs b ty, vs[i]? = some (.s bs) ∧ cs[o]? = some (.p b 0) ∧ A b ∧ H[b]? = some (.cells ty .vr [.s (bst bs)]) ∧ okK flex .pstr false (.s bs) := by
  obtain ⟨v, h1, ⟨av, h2, h3, h4, h5⟩, h6⟩ := h i _ o hi
  have h2 : RepK A H .pstr false av v := h2
  have h6 : okK flex .pstr false v := h6
  cases v <;> simp only [RepK] at h2 <;> try (exact h2.elim)
  obtain ⟨b, ty, hA, rfl, hb⟩ := h2
  refine ⟨_, b, ty, h1, ?_, hA, hb, h6⟩
  have h5 : (cs.drop o).take 1 = [.p b 0] := h5
  have := congrArg (fun l => l[0]?) h5
  simpa [List.getElem?_take] using this
theorem WOK.pst_at (h : WOK C H0 L0 o0 s σ) {l o : Nat} {e : WL} (he : σ.lv[l]? = some e) (hl : s.pst l o = true) : ∃ bs b ty, e.cs[o]? = some (.p b 0) ∧ b < L0 ∧ H0[b]? = some (.cells ty .vr [.s (bst bs)]) := by
  have hll := (List.getElem?_eq_some_iff.1 he).1
  have hex : s.exp[l]? = some (s.exp[l]'(by rw [h.exl]; exact hll)) := by simp
  have hvs : σ.vs[l]? = some (σ.vs[l]'(by rw [h.vsl]; exact hll)) := by simp
  unfold WS.pst at hl
  rw [hex] at hl
  simp only [Option.getD_some, List.any_eq_true, Bool.and_eq_true, decide_eq_true_eq, beq_iff_eq] at hl
  obtain ⟨⟨ev, o'⟩, hm, rfl, rfl⟩ := hl
  obtain ⟨i, hi⟩ := List.mem_iff_getElem?.1 hm
  obtain ⟨bs, b, ty, _, h2, h3, h4, _⟩ := said_pstr (h.said l e _ _ he hex hvs) hi
  exact ⟨bs, b, ty, h2, h3, h4⟩
theorem WOK.blk (h : WOK C H0 L0 o0 s σ) {l : Nat} {e : WL} (he : σ.lv[l]? = some e) (hj : e.j < e.n) : ∃ ty kn bl, σ.H[e.b]? = some (.cells ty kn bl) ∧ e.w + e.sz ≤ bl.length ∧ (bl.drop e.w).take e.sz = e.cs ∧ e.cs.length = e.sz := by
  obtain ⟨h2, h3, ty, kn, bl, h4, h5, h6⟩ := (h.lv l e he).2 hj
  exact ⟨ty, kn, bl, by rw [h.keep.at_ _ h3]; exact h4, h5, h6, h2⟩
theorem cs_get {bl cs : List AV} {w sz o : Nat} (h : (bl.drop w).take sz = cs) (ho : o < sz) : bl[w + o]? = cs[o]? := by
  rw [← h, List.getElem?_take, if_pos ho, List.getElem?_drop]
theorem cmpW_sound (h : WOK C H0 L0 o0 s σ) {op : BinOp} {t : TypeId} {c : Bool} {x y v : WV} {a b : AV} (hv : cmpW s op t x y = some v) (dx : denW H0 s.cur σ.out σ.lv x a) (dy : denW H0 s.cur σ.out σ.lv y b) : ∃ r, binA P op t c a b = some r ∧ denW H0 s.cur σ.out σ.lv v r := by
  unfold cmpW at hv
  split at hv
  · rename_i l o
    split at hv
    · rename_i et het
      split at hv
      · rename_i hl
        simp at hv; subst hv
        obtain ⟨e, e1, e2⟩ := dx
        obtain rfl := dy
        obtain ⟨x, k, h1, h2, _⟩ := h.lst_at e1 hl
        rw [e2] at h1; cases h1
        refine ⟨.b (isS0 a), ?_, e, a, k, e1, e2, h2, rfl⟩
        have hu := elem_slice het
        cases a <;> simp [slen] at h2 <;> simp [binA, eqA, CK.av, hu, isS0]
      · cases hv
    · cases hv
  · split at hv
    · rename_i hc
      obtain ⟨hl, ht⟩ := hc
      simp at hv; subst hv
      obtain ⟨e, e1, e2⟩ := dx
      obtain rfl := dy
      obtain ⟨bs, b, ty, h1, _⟩ := h.pst_at e1 hl
      rw [e2] at h1; cases h1
      refine ⟨.b true, ?_, rfl⟩
      unfold isPtrW at ht
      split at ht
      · rename_i hu
        simp [binA, eqA, CK.av, hu]
      · cases ht
    · cases hv
  · rename_i cc
    split at hv
    · rename_i lo hi hver
      obtain rfl := dy
      obtain ⟨e, e1, e2⟩ := dx
      obtain ⟨e', k, f1, f2, f3, f4⟩ := h.ver _ hver
      rw [e1] at f1; cases f1
      rw [e2] at f2; cases f2
      split at hv
      · simp at hv; subst hv
        exact ⟨_, geqA _ _ _ _ _, by simp [denW]; omega⟩
      · split at hv
        · simp at hv; subst hv
          exact ⟨_, geqA _ _ _ _ _, by simp [denW]; omega⟩
        · cases hv
    · cases hv
  · rename_i l l' o
    split at hv
    · rename_i hc
      obtain ⟨rfl, hc⟩ := hc
      simp at hv; subst hv
      obtain ⟨e, e1, rfl, e3, _⟩ := dx
      obtain ⟨p, x, n, p1, p2, p3, rfl⟩ := dy
      obtain ⟨x', u1, u2⟩ := h.up l p e p1 e1
      obtain ⟨hl, _⟩ := h.lv _ e e1
      rw [hl] at hc
      simp at hc
      subst hc
      rw [p2] at u1; cases u1
      rcases u2 with ⟨u2, _⟩ | rfl
      rotate_left
      · simp [slen] at p3
      rw [p3] at u2; cases u2
      exact ⟨_, lss _ _ _ _ _, by simp [denW]; omega⟩
    · cases hv
  · rename_i l l' o
    split at hv
    · rename_i hc
      obtain ⟨rfl, hc⟩ := hc
      simp at hv; subst hv
      obtain ⟨e, e1, rfl⟩ := dx
      obtain ⟨p, x, n, p1, p2, p3, rfl⟩ := dy
      obtain ⟨x', u1, u2⟩ := h.up l p e p1 e1
      obtain ⟨hl, _⟩ := h.lv _ e e1
      rw [hl] at hc
      simp at hc
      subst hc
      rw [p2] at u1; cases u1
      rcases u2 with ⟨u2, _⟩ | rfl
      rotate_left
      · simp [slen] at p3
      rw [p3] at u2; cases u2
      exact ⟨_, lss _ _ _ _ _, by simp [denW]⟩
    · cases hv
  · cases hv
theorem binW_sound {op : BinOp} {t : TypeId} {c : Bool} {x y v : WV} {cur : Nat} {out : AV} {lv : List WL} {a b : AV} (hv : binW op t c x y = some v) (dx : denW H0 cur out lv x a) (dy : denW H0 cur out lv y b) : ∃ r, binA P op t c a b = some r ∧ denW H0 cur out lv v r := by
  unfold binW at hv
  split at hv
  · rename_i a' b' ha hb
    rw [con_denW ha dx, con_denW hb dy]
    simp only [Option.map_eq_some_iff] at hv
    obtain ⟨r, hr, rfl⟩ := hv
    exact ⟨r, hr, den_ofW r⟩
  · split at hv
    · simp at hv; subst hv
      obtain rfl := dx
      obtain ⟨e, x, n, e1, e2, e3, e4, rfl⟩ := dy
      refine ⟨_, add _ _ _ _ _, e, x, n, e1, e2, e3, e4, ?_⟩
      simp [IntKind.wrap, IntKind.signed, IntKind.bits]; omega
    · simp at hv; subst hv
      obtain rfl := dy
      obtain ⟨e, e1, rfl, e2, e3⟩ := dx
      refine ⟨_, add _ _ _ _ _, e, e1, ?_⟩
      simp [IntKind.wrap, IntKind.signed, IntKind.bits]; omega
    · cases hv
theorem pureW_sound (h : WOK C H0 L0 o0 s σ) {o : Op} {v : WV} (hv : pureW o s = some v) : isCall o = false ∧ ∃ a, opA P o σ.fr σ.H = some (a, σ.H) ∧ denW H0 s.cur σ.out σ.lv v a := by
  unfold pureW at hv
  split at hv
  · obtain ⟨a, h1, h2⟩ := evW_sound h.fr hv
    exact ⟨rfl, a, op_move h1, h2⟩
  · obtain ⟨a, h1, h2⟩ := evW_sound h.fr hv
    exact ⟨rfl, a, op_assign h1, h2⟩
  · split at hv
    · rename_i hc
      obtain ⟨c, h1, rfl⟩ := evW_sound h.fr hc
      obtain ⟨a, h3, h4⟩ := evW_sound h.fr hv
      exact ⟨rfl, a, op_pickT h1 h3, h4⟩
    · rename_i hc
      obtain ⟨c, h1, rfl⟩ := evW_sound h.fr hc
      obtain ⟨a, h3, h4⟩ := evW_sound h.fr hv
      exact ⟨rfl, a, op_pickF h1 h3, h4⟩
    · cases hv
  · split at hv
    · rename_i l o hx
      simp at hv; subst hv
      obtain ⟨a, h1, e, h2, hj, rfl⟩ := evW_sound h.fr hx
      exact ⟨rfl, _, op_nilCheck h1, e, h2, hj, rfl⟩
    · rename_i l o hx
      split at hv
      · rename_i hl
        simp at hv; subst hv
        obtain ⟨a, h1, e, h2, h3⟩ := evW_sound h.fr hx
        obtain ⟨bs, b, ty, g1, _⟩ := h.pst_at h2 hl
        rw [h3] at g1; cases g1
        exact ⟨rfl, _, op_nilCheck h1, e, h2, h3⟩
      · cases hv
    · cases hv
  · split at hv
    · rename_i l o hx
      split at hv
      · rename_i i o' hfa
        simp at hv; subst hv
        obtain ⟨a, h1, e, h2, hj, rfl⟩ := evW_sound h.fr hx
        exact ⟨rfl, _, op_fieldAddr h1 (fieldAddr_shift hfa _ _), e, h2, hj, rfl⟩
      · cases hv
    · cases hv
  · split at hv
    · rename_i l o l' hx hk
      split at hv
      · rename_i sz hsz
        split at hv
        · rename_i hh
          obtain ⟨rfl, hl, hlst⟩ := hh
          simp at hv; subst hv
          obtain ⟨a, h1, p, p1, p2⟩ := evW_sound h.fr hx
          obtain ⟨b, k1, e, e1, rfl, e3, e4⟩ := evW_sound h.fr hk
          obtain ⟨x', u1, u2⟩ := h.up l p e p1 e1
          obtain ⟨hl2, _⟩ := h.lv _ e e1
          rw [hl] at hl2
          simp at hl2
          obtain ⟨rfl, rfl⟩ := hl2
          rw [p2] at u1; cases u1
          rcases u2 with ⟨u2, u3⟩ | rfl
          rotate_left
          · obtain ⟨x2, k2, g1, g2, _⟩ := h.lst_at p1 hlst
            rw [p2] at g1; cases g1
            simp [slen] at g2
          obtain ⟨rfl, u4⟩ := u3 e3
          refine ⟨rfl, .p e.b (0 + e.j * e.sz), op_indexAddr h1 k1 ?_, e, e1, e3, by rw [u4]; simp⟩
          cases he : elemA P _ with
          | none => rw [he] at hsz; cases hsz
          | some et =>
            rw [he] at hsz
            simp only [Option.bind_some] at hsz
            simp only [indexAddrA, he, hsz]
            rw [if_pos ⟨by omega, by omega⟩]
            simp
        · cases hv
      · cases hv
    · cases hv
  · rename_i t0 x0
    split at hv
    · rename_i l o hx
      obtain ⟨a, h1, e, h2, hj, rfl⟩ := evW_sound h.fr hx
      obtain ⟨ty, kn, bl, b1, b2, b3, b4⟩ := h.blk h2 hj
      split at hv
      · rename_i o1 sz hag hlv
        obtain ⟨hl2, _⟩ := h.lv _ e h2
        rw [hlv] at hl2
        simp at hl2
        obtain ⟨rfl, rfl⟩ := hl2
        split at hv
        · rename_i ho
          have hg := cs_get b3 ho
          have hc : e.cs[o]? = some (e.cs[o]'(by omega)) := by simp
          have hld : loadA P σ.H t0 (.p e.b (e.w + o)) = some (e.cs[o]'(by omega)) := by simp only [loadA, loadAt, b1, hag]; rw [hg, hc]
          split at hv
          · rename_i n hver
            split at hv
            · rename_i hh
              obtain ⟨rfl, rfl⟩ := hh
              simp at hv; subst hv
              obtain ⟨e', k, e1, e2, rfl⟩ := h.ver _ hver
              rw [h2] at e1; cases e1
              rw [hc] at e2
              refine ⟨rfl, _, op_load h1 hld, ?_⟩
              simp at e2
              exact e2
            · simp at hv; subst hv
              exact ⟨rfl, _, op_load h1 hld, e, h2, hc⟩
          · simp at hv; subst hv
            exact ⟨rfl, _, op_load h1 hld, e, h2, hc⟩
        · cases hv
      · rename_i w o1 sz hag hsz hlv
        obtain ⟨hl2, _⟩ := h.lv _ e h2
        rw [hlv] at hl2
        simp at hl2
        obtain ⟨rfl, rfl⟩ := hl2
        split at hv
        · rename_i ho
          simp at hv; subst hv
          refine ⟨rfl, .g ((e.cs.drop o).take w), op_load h1 ?_, e, h2, by omega, rfl⟩
          simp only [loadA, loadAt, b1, hag, hsz]
          rw [if_pos (by omega)]
          congr 2
          rw [← b3, List.drop_take, List.take_take, List.drop_drop, show min w (e.sz - o) = w by omega]
        · cases hv
      · cases hv
    · rename_i l o hx
      split at hv
      · rename_i hag
        split at hv
        · rename_i hl
          simp at hv; subst hv
          obtain ⟨a, h1, e, h2, h3⟩ := evW_sound h.fr hx
          obtain ⟨bs, b, ty, g1, g2, g3⟩ := h.pst_at h2 hl
          rw [h3] at g1; cases g1
          refine ⟨rfl, .s (bst bs), op_load h1 ?_, e, h2, b, ty, bst bs, h3, g3, rfl⟩
          simp [loadA, loadAt, h.keep.at_ b g2, g3, hag]
        · cases hv
      · cases hv
    · cases hv
  · split at hv
    · rename_i x y hx hy
      obtain ⟨a, h1, h2⟩ := evW_sound h.fr hx
      obtain ⟨b, k1, k2⟩ := evW_sound h.fr hy
      split at hv
      · rename_i w hw
        simp at hv; subst hv
        obtain ⟨r, r1, r2⟩ := cmpW_sound h hw h2 k2
        exact ⟨rfl, r, op_bin h1 k1 rfl r1, r2⟩
      · obtain ⟨r, r1, r2⟩ := binW_sound hv h2 k2
        exact ⟨rfl, r, op_bin h1 k1 rfl r1, r2⟩
    · cases hv
  · split at hv
    · rename_i a hx
      cases hv2 : evW s.fr _ with
      | none => rw [hv2] at hx; cases hx
      | some v =>
        rw [hv2] at hx
        simp only [Option.bind_some] at hx
        obtain ⟨b, h1, h2⟩ := evW_sound h.fr hv2
        rw [con_denW hx h2] at h1
        simp only [Option.map_eq_some_iff] at hv
        obtain ⟨r, hr, rfl⟩ := hv
        exact ⟨rfl, r, op_un h1 hr, den_ofW r⟩
    · cases hv
  · split at hv
    · rename_i l o hx
      split at hv
      · rename_i hs hd
        simp at hv; subst hv
        obtain ⟨a, h1, e, x, n, e1, e2, e3, e4, rfl⟩ := evW_sound h.fr hx
        refine ⟨rfl, _, op_conv h1 (v := .i .u32 (IntKind.u32.wrap (n : Int))) ?_, e, x, n, e1, e2, e3, e4, ?_⟩
        · simp [convA, hs, hd]
        · simp [IntKind.wrap, IntKind.signed, IntKind.bits]; omega
      · cases hv
    · rename_i w hno hx
      split at hv
      · rename_i a ha
        obtain ⟨b, h1, h2⟩ := evW_sound h.fr hx
        rw [con_denW ha h2] at h1
        simp only [Option.map_eq_some_iff] at hv
        obtain ⟨r, hr, rfl⟩ := hv
        exact ⟨rfl, r, op_conv h1 hr, den_ofW r⟩
      · cases hv
    · cases hv
  · split at hv
    · rename_i x t hargs hats
      split at hv
      · rename_i l o et hx het
        split at hv
        · rename_i hl
          simp at hv; subst hv
          obtain ⟨a, h1, e, e1, e2⟩ := evW_sound h.fr hx
          obtain ⟨x', k, g1, g2, _⟩ := h.lst_at e1 hl
          rw [e2] at g1; cases g1
          have hu := elem_slice het
          refine ⟨rfl, .i .i64 (k : Nat), ?_, e, a, k, e1, e2, g2, rfl⟩
          have hln : lenA P t a = some (.i .i64 (k : Nat)) := by
            cases a <;> simp [slen] at g2
            · subst g2; simp [lenA, hu]
            · subst g2; simp [lenA, hu]
            · subst g2; simp [lenA, hu]
            · rename_i i oo n
              cases oo with
              | zero => simp at g2; subst g2; simp [lenA, hu]
              | succ oo => simp at g2
          simp [opA, hargs, hats, h1, hln]
        · cases hv
      · cases hv
    · cases hv
  · cases hv
end
end Go.Proofs.YtiifcfngbbhgoagDoor.Rd

namespace Go.Proofs.YtiifcfngbbhgoagDoor.Rd
open Go Go.Proofs.YtiifcfngbbhgoagDoor.Ax Go.Proofs.YtiifcfngbbhgoagDoor.Wire
set_option maxRecDepth 100000
theorem putW_fields (s : WS) (d : Option Tmp) (v : WV) : (s.put d v).lv = s.lv ∧ (s.put d v).ver = s.ver ∧ (s.put d v).cur = s.cur ∧ (s.put d v).pend = s.pend ∧ (s.put d v).exp = s.exp ∧ (s.put d v).k = s.k ∧ (s.put d v).fr.length = s.fr.length := by
  cases d <;> simp [WS.put]
theorem FRW.put {H0 : Heap} {cur : Nat} {out : AV} {lv : List WL} {sf : WF} {fr : List AV} (h : sf.length = fr.length ∧ ∀ (t : Nat) (v : WV) (a : AV), sf[t]? = some v → fr[t]? = some a → denW H0 cur out lv v a) {v : WV} {a : AV} (d : denW H0 cur out lv v a) (t : Nat) :
    (sf.set t v).length = (fr.set t a).length ∧ ∀ (u : Nat) (x : WV) (b : AV), (sf.set t v)[u]? = some x → (fr.set t a)[u]? = some b → denW H0 cur out lv x b := by
  refine ⟨by simp [h.1], fun u x b hx hb => ?_⟩
  rw [List.getElem?_set] at hx hb
  split at hx
  · rename_i e
    rw [if_pos e] at hb
    split at hx
    · split at hb
      · cases hx; cases hb; exact d
      · cases hb
    · cases hx
  · rename_i e
    rw [if_neg e] at hb
    exact h.2 u x b hx hb
structure WStep (L0 : Nat) (s s' : WS) (σ σ' : WSta) : Prop where
  lv : σ'.lv = σ.lv
  vs : σ'.vs = σ.vs
  slv : s'.lv = s.lv
  exp : s'.exp = s.exp
  ver : s'.ver = s.ver
  frl : s'.fr.length = s.fr.length
  keep : WKeep L0 σ.H σ'.H
theorem WStep.refl (L0 : Nat) (s : WS) (σ : WSta) : WStep L0 s s σ σ := ⟨rfl, rfl, rfl, rfl, rfl, rfl, .refl _ _⟩
theorem WStep.trans {L0 : Nat} {s s1 s2 : WS} {σ σ1 σ2 : WSta} (h : WStep L0 s s1 σ σ1) (k : WStep L0 s1 s2 σ1 σ2) : WStep L0 s s2 σ σ2 :=
  ⟨k.lv.trans h.lv, k.vs.trans h.vs, k.slv.trans h.slv, k.exp.trans h.exp, k.ver.trans h.ver, k.frl.trans h.frl, h.keep.trans k.keep⟩
section
variable {C : Cfg} {H0 : Heap} {L0 : Nat} {o0 : B} {s : WS} {σ : WSta}
theorem WOK.put (h : WOK C H0 L0 o0 s σ) {v : WV} {a : AV} (d : denW H0 s.cur σ.out σ.lv v a) (o : Option Tmp) : WOK C H0 L0 o0 (s.put o v) { σ with fr := putA σ.fr o a } := by
  cases o with
  | none => exact h
  | some t => exact ⟨FRW.put h.fr d t, h.lvl, h.exl, h.vsl, h.pos, h.lv, h.up, h.said, h.ver, h.keep, h.l0, h.out, h.bytes, h.bound⟩
theorem WStep.put (h : WStep L0 s s σ σ) (o : Option Tmp) (v : WV) (a : AV) : WStep L0 s (s.put o v) σ { σ with fr := putA σ.fr o a } := by
  obtain ⟨p1, p2, p3, p4, p5, p6, p7⟩ := putW_fields s o v
  exact ⟨rfl, rfl, p1, p5, p2, p7, .refl _ _⟩
theorem WOK.app (h : WOK C H0 L0 o0 s σ) (hf : s.fresh = true) {out' : AV} {H' : Heap} {bs' : B} {p' : Option (Nat × Option Bool)} {k' : Nat} (ho : OutAt L0 H' out' bs') (hk : WKeep L0 σ.H H')
    (hb : ∀ (e : WL) (pl : List (Ev × Nat)) (vs : List V), σ.lv[s.top]? = some e → s.exp[s.top]? = some pl → σ.vs[s.top]? = some vs → ∃ p, pendB C.flex H0 e.cs p' = some p ∧ bs' = o0 ++ encs C.flex (pl.take k') vs ++ p) (dst : Option Tmp) :
    WOK C H0 L0 o0 ({ s with cur := s.cur + 1, pend := p', k := k' }.put dst (.out (s.cur + 1))) { σ with out := out', H := H', bs := bs', fr := putA σ.fr dst out' } ∧
    WStep L0 s ({ s with cur := s.cur + 1, pend := p', k := k' }.put dst (.out (s.cur + 1))) σ { σ with out := out', H := H', bs := bs', fr := putA σ.fr dst out' } := by
  have h1 : WOK C H0 L0 o0 { s with cur := s.cur + 1, pend := p', k := k' } { σ with out := out', H := H', bs := bs' } := by
    refine ⟨⟨h.fr.1, fun t v a hv ha => ?_⟩, h.lvl, h.exl, h.vsl, h.pos, h.lv, h.up, h.said, h.ver, h.keep.trans hk, h.l0, ho, hb, h.bound⟩
    have hd := h.fr.2 t v a hv ha
    unfold WS.fresh at hf
    rw [List.all_eq_true] at hf
    have hne := hf v (List.mem_of_getElem? hv)
    cases v with
    | out c =>
      intro hc
      subst hc
      simp at hne
    | _ => exact hd
  refine ⟨h1.put (v := .out (s.cur + 1)) (a := out') (fun _ => rfl) dst, ?_⟩
  obtain ⟨p1, p2, p3, p4, p5, p6, p7⟩ := putW_fields { s with cur := s.cur + 1, pend := p', k := k' } dst (.out (s.cur + 1))
  exact ⟨rfl, rfl, p1, p5, p2, p7, hk⟩
theorem WOK.top3 (h : WOK C H0 L0 o0 s σ) : ∃ e pl vs, σ.lv[s.top]? = some e ∧ s.exp[s.top]? = some pl ∧ σ.vs[s.top]? = some vs ∧ s.pl = pl := by
  have hp := h.pos
  have ht : s.top < σ.lv.length := by unfold WS.top; rw [h.lvl]; omega
  have hex : s.exp[s.top]? = some (s.exp[s.top]'(by rw [h.exl]; exact ht)) := by simp
  exact ⟨σ.lv[s.top], s.exp[s.top]'(by rw [h.exl]; exact ht), σ.vs[s.top]'(by rw [h.vsl]; exact ht), by simp, hex, by simp, by unfold WS.pl; rw [hex]; rfl⟩
theorem take_snoc {α : Type} {l : List α} {k : Nat} {x : α} (h : l[k]? = some x) : l.take (k + 1) = l.take k ++ [x] := by
  rw [List.take_add_one, h]; rfl
theorem encs_take (flex : Bool) {pl : List (Ev × Nat)} {vs : List V} {k : Nat} {e : Ev} {o : Nat} {v : V} (h : pl[k]? = some (e, o)) (hv : vs[k]? = some v) : encs flex (pl.take (k + 1)) vs = encs flex (pl.take k) vs ++ e.enc flex v := by
  rw [take_snoc h]
  have hl : (pl.take k).length = k := by have := (List.getElem?_eq_some_iff.1 h).1; simp; omega
  exact encs_snoc flex _ vs e o v (by rw [hl]; exact hv)
theorem encs_fit (flex : Bool) (pl : List (Ev × Nat)) (vs : List V) (k : Nat) : (encs flex (pl.take k) vs).length ≤ (encs flex pl vs).length := by
  have := encs_len flex (pl.take k) (pl.drop k) vs
  rw [List.take_append_drop] at this
  exact this
theorem RepK.cell {A : Nat → Prop} {H : Heap} {k : K} {n : Bool} {av : AV} {v : V} (hk : k ≠ .uuid) (h : RepK A H k n av v) : av.cells = [av] := by
  cases k <;> cases v <;> simp only [RepK] at h <;> first | exact h.elim | (subst h; rfl) | exact absurd rfl hk | skip
  · split at h
    · obtain ⟨i, ty, _, rfl, _⟩ := h; rfl
    · subst h; rfl
  · exact (BytesAt.one' h.1).1
  · obtain ⟨i, ty, _, rfl, _⟩ := h; rfl
theorem RepK.uuid_g {A : Nat → Prop} {H : Heap} {n : Bool} {av : AV} {v : V} (h : RepK A H .uuid n av v) : av = .g av.cells := by
  cases v <;> simp only [RepK] at h <;> first | exact h.elim | (subst h; rfl)
theorem map2 {α β : Type} {f : α → Option β} {l : List α} {a b : β} (h : l.map f = [some a, some b]) : ∃ x y, l = [x, y] ∧ f x = some a ∧ f y = some b := by
  rcases l with _ | ⟨x, _ | ⟨y, _ | ⟨z, l⟩⟩⟩ <;> simp at h
  exact ⟨x, y, rfl, h.1, h.2⟩
theorem map1 {α β : Type} {f : α → Option β} {l : List α} {a : β} (h : l.map f = [some a]) : ∃ x, l = [x] ∧ f x = some a := by
  rcases l with _ | ⟨x, _ | ⟨y, l⟩⟩ <;> simp at h
  exact ⟨x, rfl, h⟩
theorem evl2 {fr : List AV} {args : Array Operand} {x y : Operand} {a b : AV} (h : args.toList = [x, y]) (hx : ev fr x = some a) (hy : ev fr y = some b) : evl fr args.toList = some [a, b] := by
  rw [h]; simp [evl, hx, hy]
theorem leafW (h : WOK C H0 L0 o0 s σ) {prim : List (FuncId × WPrim)} (hP : WPrims C prim) {f : FuncId} {k : K} {n : Bool} {fx : Option Bool} (hl : prim.lookup f = some (.leaf k n fx)) (hfx : fxOk C.flex fx = true) (hf : s.fresh = true) (hpd : s.pend = none) {o' : Nat} (hpl : s.pl[s.k]? = some (Ev.leaf k n, o')) {av : AV}
    (hav : ∀ (e : WL), σ.lv[s.top]? = some e → ∀ av', At e.cs o' k.wide (fun x => x = av') → (k ≠ .uuid → av'.cells = [av']) → (k = .uuid → av' = .g av'.cells) → av = av') (dst : Option Tmp) :
    ∃ out' H', CA P NS f [σ.out, av] σ.H (out', H') ∧ ∃ bs', WOK C H0 L0 o0 ({ s with cur := s.cur + 1, k := s.k + 1 }.put dst (.out (s.cur + 1))) { σ with out := out', H := H', bs := bs', fr := putA σ.fr dst out' } ∧
      WStep L0 s ({ s with cur := s.cur + 1, k := s.k + 1 }.put dst (.out (s.cur + 1))) σ { σ with out := out', H := H', bs := bs', fr := putA σ.fr dst out' } := by
  obtain ⟨e, pl, vs, t1, t2, t3, rfl⟩ := h.top3
  obtain ⟨v, v1, ⟨av', a1, a2, a3⟩, v2⟩ := h.said _ e _ _ t1 t2 t3 s.k _ _ hpl
  have a1 : RepK (fun i => i < L0) H0 k n av' v := a1
  have hav' : av = av' := hav e t1 av' ⟨av', rfl, a2, a3⟩ (fun hk => RepK.cell hk a1) (fun hk => by subst hk; exact RepK.uuid_g a1)
  subst hav'
  obtain ⟨p, p1, p2⟩ := h.bytes e _ _ t1 t2 t3
  rw [hpd] at p1
  simp [pendB] at p1
  subst p1
  have hb := h.bound _ _ t2 t3
  have henc := encs_take C.flex hpl v1
  have hfit := encs_fit C.flex s.pl vs (s.k + 1)
  rw [henc, List.length_append] at hfit
  have v2' : okK C.flex k n v := v2
  obtain ⟨out', H', c1, c2, c3⟩ := (hP _ _ hl hfx).run L0 σ.H σ.out σ.bs av v (Nat.le_trans h.l0 h.keep.len) h.out (RepK.kt a1 h.keep.kt) v2' (by
    rw [p2]; simp only [List.append_nil, List.length_append]
    have : (Ev.enc C.flex (.leaf k n) v).length = (encK C.flex k v).length := rfl
    omega)
  refine ⟨out', H', c1, σ.bs ++ encK C.flex k v, ?_⟩
  have := h.app hf (p' := none) (k' := s.k + 1) c2 c3 (fun e' pl' vs' q1 q2 q3 => by
    rw [t1] at q1; cases q1
    rw [t2] at q2; cases q2
    rw [t3] at q3; cases q3
    refine ⟨[], rfl, ?_⟩
    rw [henc, p2]
    simp [Ev.enc]) dst
  rw [← hpd] at this
  exact this
theorem textW (h : WOK C H0 L0 o0 s σ) {prim : List (FuncId × WPrim)} (hP : WPrims C prim) {f : FuncId} {fx : Option Bool} (hl : prim.lookup f = some (.leaf .str false fx)) (hfx : fxOk C.flex fx = true) (hf : s.fresh = true) (hpd : s.pend = none) {o' : Nat} (hpl : s.pl[s.k]? = some (Ev.leaf .pstr false, o')) {av : AV}
    (hd : denW H0 s.cur σ.out σ.lv (.dr s.top o') av) (dst : Option Tmp) :
    ∃ out' H', CA P NS f [σ.out, av] σ.H (out', H') ∧ ∃ bs', WOK C H0 L0 o0 ({ s with cur := s.cur + 1, k := s.k + 1 }.put dst (.out (s.cur + 1))) { σ with out := out', H := H', bs := bs', fr := putA σ.fr dst out' } ∧
      WStep L0 s ({ s with cur := s.cur + 1, k := s.k + 1 }.put dst (.out (s.cur + 1))) σ { σ with out := out', H := H', bs := bs', fr := putA σ.fr dst out' } := by
  obtain ⟨e, pl, vs, t1, t2, t3, rfl⟩ := h.top3
  obtain ⟨bs, b, ty, v1, g1, g2, g3, g4⟩ := said_pstr (h.said _ e _ _ t1 t2 t3) hpl
  obtain ⟨e', d1, b', ty', x', d2, d3, rfl⟩ := hd
  rw [t1] at d1; cases d1
  rw [g1] at d2; cases d2
  rw [g3] at d3; cases d3
  obtain ⟨p, p1, p2⟩ := h.bytes e _ _ t1 t2 t3
  rw [hpd] at p1
  simp [pendB] at p1
  subst p1
  have hb := h.bound _ _ t2 t3
  have henc := encs_take C.flex hpl v1
  have hfit := encs_fit C.flex s.pl vs (s.k + 1)
  rw [henc, List.length_append] at hfit
  have hel : Ev.enc C.flex (.leaf .pstr false) (.s bs) = encK C.flex .str (.s bs) := rfl
  rw [hel] at hfit henc
  obtain ⟨out', H', c1, c2, c3⟩ := (hP _ _ hl hfx).run L0 σ.H σ.out σ.bs (.s (bst bs)) (.s bs) (Nat.le_trans h.l0 h.keep.len) h.out rfl g4 (by
    rw [p2]; simp only [List.append_nil, List.length_append]
    omega)
  refine ⟨out', H', c1, σ.bs ++ encK C.flex .str (.s bs), ?_⟩
  have := h.app hf (p' := none) (k' := s.k + 1) c2 c3 (fun e' pl' vs' q1 q2 q3 => by
    rw [t1] at q1; cases q1
    rw [t2] at q2; cases q2
    rw [t3] at q3; cases q3
    refine ⟨[], rfl, ?_⟩
    rw [henc, p2]
    simp) dst
  rw [← hpd] at this
  exact this
theorem tagN_keep {H0 H : Heap} {L0 : Nat} (hk : WKeep L0 H0 H) {x : AV} {n : Nat} {v : V} (hr : TagRep (fun i => i < L0) H0 v (.g [x])) (h : tagN H0 x = some n) : tagN H x = some n := by
  obtain ⟨ts, rfl, ho, ⟨rfl, hx⟩ | ⟨q, es, hx, hA, hq, _⟩⟩ := hr
  · simp at hx; subst hx; exact h
  · simp at hx; subst hx
    simp only [tagN, hk.at_ q hA] at h ⊢
    exact h
theorem tagRep_keep {H0 H : Heap} {L0 : Nat} (hk : WKeep L0 H0 H) {v : V} {x : AV} (h : TagRep (fun i => i < L0) H0 v x) : TagRep (fun i => i < L0) H v x := TagRep.kt h ⟨hk.len, fun i b hi hb => ⟨hi, (hk.at_ i hi).trans hb⟩⟩
theorem opW_sound {prim : List (FuncId × WPrim)} (hP : WPrims C prim) {o : Oper} {s1 : WS} (hs : opW C prim o s = some s1) (h : WOK C H0 L0 o0 s σ) :
    ∃ a σ1, One o σ.fr σ.H (a, σ1.H) ∧ σ1.fr = putA σ.fr o.dst a ∧ WOK C H0 L0 o0 s1 σ1 ∧ WStep L0 s s1 σ σ1 := by
  have htop := h.top3
  unfold opW at hs
  split at hs
  · rename_i f args ats hop
    split at hs
    · rename_i k n fx c x hl hargs
      obtain ⟨x1, x2, ha, hx1, hx2⟩ := map2 hargs
      split at hs
      · rename_i hc
        obtain ⟨rfl, hpd, hfx, hf⟩ := hc
        obtain ⟨a1, e1, d1⟩ := evW_sound h.fr hx1
        obtain ⟨a2, e2, d2⟩ := evW_sound h.fr hx2
        obtain rfl := d1 rfl
        split at hs
        · rename_i l o'
          split at hs
          · rename_i hc2
            obtain ⟨rfl, hk, hpl⟩ := hc2
            simp at hs; subst hs
            obtain ⟨out', H', c1, bs', c2, c3⟩ := leafW h hP hl hfx hf hpd hpl (av := a2) (fun e he av' hat h1 _ => by
              obtain ⟨e', g1, g2⟩ := d2
              rw [he] at g1; cases g1
              obtain ⟨y, rfl, y2, y3, y4⟩ := hat
              have hw1 : k.wide = 1 := by cases k <;> first | rfl | exact absurd rfl hk
              rw [hw1, h1 hk] at y4
              have := congrArg (fun l => l[0]?) y4
              simp [List.getElem?_take, g2] at this
              exact this) o.dst
            exact ⟨out', { σ with out := out', H := H', bs := bs', fr := putA σ.fr o.dst out' }, .call hop (evl2 ha e1 e2) c1, rfl, c2, c3⟩
          · cases hs
        · rename_i l o' w
          split at hs
          · rename_i hc2
            obtain ⟨rfl, rfl, rfl, hpl⟩ := hc2
            simp at hs; subst hs
            obtain ⟨out', H', c1, bs', c2, c3⟩ := leafW h hP hl hfx hf hpd hpl (av := a2) (fun e he av' hat _ h2 => by
              obtain ⟨e', g1, g2, rfl⟩ := d2
              rw [he] at g1; cases g1
              obtain ⟨y, rfl, y2, y3, y4⟩ := hat
              rw [h2 rfl]
              have y4 : (e.cs.drop o').take 16 = y.cells := y4
              rw [y4]) o.dst
            exact ⟨out', { σ with out := out', H := H', bs := bs', fr := putA σ.fr o.dst out' }, .call hop (evl2 ha e1 e2) c1, rfl, c2, c3⟩
          · cases hs
        · rename_i l o'
          split at hs
          · rename_i hc2
            obtain ⟨rfl, rfl, rfl, hpl⟩ := hc2
            simp at hs; subst hs
            obtain ⟨out', H', c1, bs', c2, c3⟩ := textW h hP hl hfx hf hpd hpl (av := a2) d2 o.dst
            exact ⟨out', { σ with out := out', H := H', bs := bs', fr := putA σ.fr o.dst out' }, .call hop (evl2 ha e1 e2) c1, rfl, c2, c3⟩
          · cases hs
        · cases hs
      · cases hs
    · rename_i null fx c l o' r hl hargs
      split at hs
      · rename_i hc
        obtain ⟨rfl, hpd, rfl, rfl, hf, rfl, hany⟩ := hc
        simp at hs; subst hs
        obtain ⟨e, pl, vs, t1, t2, t3, t4⟩ := htop
        obtain ⟨p, p1, p2⟩ := h.bytes e pl vs t1 t2 t3
        rw [hpd] at p1
        simp [pendB] at p1
        subst p1
        have hb := h.bound _ _ t2 t3
        have hfit := encs_fit C.flex pl vs s.k
        have hlist : ∃ x n, e.cs[o']? = some x ∧ slen x = some n ∧ n < 2147483648 := by
          rw [t4] at hany
          cases hpk : pl[s.k]? with
          | none => rw [hpk] at hany; simp at hany
          | some q =>
            obtain ⟨ev, oo⟩ := q
            rw [hpk] at hany
            simp at hany
            obtain ⟨rfl, hi⟩ := hany
            obtain ⟨sz, nn, ff, rfl⟩ := isList_spec hi
            obtain ⟨v, x, kk, _, g2, _, _, g3, g4, _⟩ := said_list (h.said _ e pl vs t1 t2 t3) hpk
            exact ⟨x, kk, g2, g3, g4⟩
        obtain ⟨x, n, g1, g2, g3⟩ := hlist
        have hargs2 : ∃ as_, evl σ.fr args.toList = some as_ ∧ as_ = σ.out :: .i .i64 (n : Nat) :: (if null then [.b (isS0 x)] else []) := by
          have hcnt : ∀ y, evW s.fr y = some (.cnt s.top o') → ev σ.fr y = some (.i .i64 (n : Nat)) := fun y hy => by
            obtain ⟨a, e1, e', x', n', q1, q2, q3, rfl⟩ := evW_sound h.fr hy
            rw [t1] at q1; cases q1
            rw [g1] at q2; cases q2
            rw [g2] at q3; cases q3
            exact e1
          have hout : ∀ y, evW s.fr y = some (.out s.cur) → ev σ.fr y = some σ.out := fun y hy => by
            obtain ⟨a, e1, d⟩ := evW_sound h.fr hy
            rw [d rfl] at e1; exact e1
          cases null with
          | false =>
            simp only [lenR, Bool.false_eq_true, if_false] at hargs
            obtain ⟨y1, y2, ha, hy1, hy2⟩ := map2 hargs
            exact ⟨_, evl2 ha (hout _ hy1) (hcnt _ hy2), rfl⟩
          | true =>
            simp only [lenR, if_true] at hargs
            rcases hL : args.toList with _ | ⟨y1, _ | ⟨y2, _ | ⟨y3, _ | ⟨y4, L⟩⟩⟩⟩ <;> rw [hL] at hargs <;> simp at hargs
            obtain ⟨hy1, hy2, hy3⟩ := hargs
            obtain ⟨a, e3, e', x', n', q1, q2, q3, rfl⟩ := evW_sound h.fr hy3
            rw [t1] at q1; cases q1
            rw [g1] at q2; cases q2
            exact ⟨_, by simp [evl, hout _ hy1, hcnt _ hy2, e3], rfl⟩
        obtain ⟨as_, hev, rfl⟩ := hargs2
        obtain ⟨out', H', c1, c2, c3⟩ := (hP _ _ hl rfl).run L0 σ.H σ.out σ.bs n (isS0 x) (Nat.le_trans h.l0 h.keep.len) h.out g3 (by rw [p2]; simp; omega)
        obtain ⟨q1, q2⟩ := h.app hf (p' := some (o', some null)) (k' := s.k) c2 c3 (fun e' pl' vs' r1 r2 r3 => by
          rw [t1] at r1; cases r1
          rw [t2] at r2; cases r2
          rw [t3] at r3; cases r3
          refine ⟨if null && isS0 x then cnt0 C.flex 4 else cnt C.flex 4 n, by simp only [pendB, g1, g2, Option.bind_some, Option.map_some], ?_⟩
          rw [p2]; simp only [List.append_nil]) o.dst
        exact ⟨out', _, .call hop hev c1, rfl, q1, q2⟩
      · cases hs
    · rename_i l o' hl hargs
      obtain ⟨x1, ha, hx1⟩ := map1 hargs
      split at hs
      · rename_i hc
        obtain ⟨rfl, htg⟩ := hc
        simp at hs; subst hs
        obtain ⟨a1, e1, e, g1, hj, rfl⟩ := evW_sound h.fr hx1
        obtain ⟨x, n, g2, g3, g4, tv, tg⟩ := h.tgs_at g1 htg
        obtain ⟨ty, kn, bl, b1, b2, b3, b4⟩ := h.blk g1 hj
        have hlt := (List.getElem?_eq_some_iff.1 g2).1
        have hx : bl[e.w + o']? = some x := by rw [cs_get b3 (by omega)]; exact g2
        have c1 := (hP _ _ hl).run σ.H e.b (e.w + o') ty kn bl x n b1 hx (tagN_keep h.keep tg g3)
        exact ⟨.i .i64 (n : Nat), { σ with fr := putA σ.fr o.dst (.i .i64 (n : Nat)) }, .call hop (evl1 ha e1) c1, rfl, h.put (v := .tl false s.top o') ⟨e, x, n, g1, g2, g3, g4, rfl⟩ o.dst, (WStep.refl L0 s σ).put o.dst _ _⟩
      · cases hs
    · rename_i c l o' hl hargs
      obtain ⟨x1, x2, ha, hx1, hx2⟩ := map2 hargs
      split at hs
      · rename_i hc
        obtain ⟨rfl, hpd, rfl, hf⟩ := hc
        simp at hs; subst hs
        obtain ⟨a1, e1, d1⟩ := evW_sound h.fr hx1
        obtain rfl := d1 rfl
        obtain ⟨a2, e2, e, x, n, g1, g2, g3, g4, rfl⟩ := evW_sound h.fr hx2
        have e2 : ev σ.fr x2 = some (.i .u32 (n : Nat)) := e2
        obtain ⟨e', pl, vs, t1, t2, t3, t4⟩ := htop
        rw [t1] at g1; cases g1
        obtain ⟨p, p1, p2⟩ := h.bytes e pl vs t1 t2 t3
        rw [hpd] at p1
        simp [pendB] at p1
        subst p1
        have hb := h.bound _ _ t2 t3
        have hfit := encs_fit C.flex pl vs s.k
        obtain ⟨out', H', c1, c2, c3⟩ := (hP _ _ hl).run L0 σ.H σ.out σ.bs n (Nat.le_trans h.l0 h.keep.len) h.out g4 (by rw [p2]; simp; omega)
        obtain ⟨q1, q2⟩ := h.app hf (p' := some (o', none)) (k' := s.k) c2 c3 (fun e' pl' vs' r1 r2 r3 => by
          rw [t1] at r1; cases r1
          rw [t2] at r2; cases r2
          rw [t3] at r3; cases r3
          refine ⟨uv n, by simp only [pendB, g2, g3, Option.bind_some, Option.map_some], ?_⟩
          rw [p2]; simp) o.dst
        exact ⟨out', _, .call hop (evl2 ha e1 e2) c1, rfl, q1, q2⟩
      · cases hs
    · rename_i l o' c hl hargs
      obtain ⟨x1, x2, ha, hx1, hx2⟩ := map2 hargs
      split at hs
      · rename_i hc
        obtain ⟨rfl, rfl, hpd, hf, hpl⟩ := hc
        simp at hs; subst hs
        obtain ⟨a2, e2, d2⟩ := evW_sound h.fr hx2
        obtain rfl := d2 rfl
        obtain ⟨a1, e1, e, g1, hj, rfl⟩ := evW_sound h.fr hx1
        obtain ⟨e', pl, vs, t1, t2, t3, rfl⟩ := htop
        rw [t1] at g1; cases g1
        obtain ⟨ts, x, v1, g2, g3, g4, g5⟩ := said_tags (h.said _ e _ vs t1 t2 t3) hpl
        obtain ⟨ty, kn, bl, b1, b2, b3, b4⟩ := h.blk t1 hj
        have hlt := (List.getElem?_eq_some_iff.1 g2).1
        have hx : bl[e.w + o']? = some x := by rw [cs_get b3 (by omega)]; exact g2
        obtain ⟨p, p1, p2⟩ := h.bytes e _ vs t1 t2 t3
        rw [hpd] at p1
        simp only [pendB, g2, g4, Option.bind_some, Option.map_some, Option.some.injEq] at p1
        subst p1
        have hb := h.bound _ _ t2 t3
        have henc := encs_take C.flex hpl v1
        have hfit := encs_fit C.flex s.pl vs (s.k + 1)
        rw [henc, List.length_append] at hfit
        have hel : (Ev.enc C.flex .tags (.t ts)) = uv ts.length ++ encT ts := rfl
        rw [hel, List.length_append] at hfit
        obtain ⟨out', H', c1, c2, c3⟩ := (hP _ _ hl).run L0 σ.H σ.out σ.bs e.b (e.w + o') ty kn bl x ts (Nat.le_trans h.l0 h.keep.len) h.out b1 hx ((h.lv _ e t1).2 hj).2.1 (tagRep_keep h.keep g3) (by rw [p2]; simp only [List.length_append]; omega)
        obtain ⟨q1, q2⟩ := h.app hf (p' := none) (k' := s.k + 1) c2 c3 (fun e' pl' vs' r1 r2 r3 => by
          rw [t1] at r1; cases r1
          rw [t2] at r2; cases r2
          rw [t3] at r3; cases r3
          refine ⟨[], rfl, ?_⟩
          rw [henc, p2, hel]; simp) o.dst
        exact ⟨out', _, .call hop (evl2 ha e1 e2) c1, rfl, q1, q2⟩
      · cases hs
    · cases hs
  · simp only [Option.map_eq_some_iff] at hs
    obtain ⟨v, hv, rfl⟩ := hs
    obtain ⟨hc, a, ha, hd⟩ := pureW_sound h hv
    exact ⟨a, { σ with fr := putA σ.fr o.dst a }, .pure hc ha, rfl, h.put hd o.dst, (WStep.refl L0 s σ).put o.dst _ _⟩
end
end Go.Proofs.YtiifcfngbbhgoagDoor.Rd

