/-
  THE WRITING CODE's CHECKER: a value that goes through a block of its own.
-/
import Derived.Test.YtiifcfngbbhgoagDoorQWxFin
set_option linter.constructorNameAsVariable false
set_option linter.unusedVariables false
set_option linter.unusedSimpArgs false
namespace Go.Proofs.YtiifcfngbbhgoagDoor.Rd
open Go Go.Proofs.YtiifcfngbbhgoagDoor.Ax Go.Proofs.YtiifcfngbbhgoagDoor.Wire
set_option maxRecDepth 100000
theorem splitA_spec : ∀ {l pre : List Oper} {q d : Nat} {T : TypeId}, splitA l = some (pre, q, T, d) → ∃ ty1 pos1 af1 ty2 pos2 af2, l = pre ++ [⟨some q, .alloc T, ty1, pos1, af1, none⟩, ⟨none, .store T (.tmp q) (.tmp d), ty2, pos2, af2, none⟩] ∧ d ≠ q
  | l, pre, q, d, T, h => by
    unfold splitA at h
    split at h
    · cases h
    · cases h
    · split at h
      · rename_i hc
        obtain ⟨rfl, rfl, hd⟩ := hc
        simp at h
        obtain ⟨rfl, rfl, rfl, rfl⟩ := h
        exact ⟨_, _, _, _, _, _, rfl, hd⟩
      · cases h
    · rename_i o r _ _
      simp only [Option.map_eq_some_iff] at h
      obtain ⟨⟨a, q1, T1, d1⟩, h1, h2⟩ := h
      simp at h2
      obtain ⟨rfl, rfl, rfl, rfl⟩ := h2
      obtain ⟨ty1, pos1, af1, ty2, pos2, af2, hl, hd⟩ := splitA_spec h1
      exact ⟨ty1, pos1, af1, ty2, pos2, af2, by rw [hl]; rfl, hd⟩
section
variable {C : Cfg} {H0 : Heap} {L0 : Nat} {o0 : B}
theorem opsW_walk {prim : List (FuncId × WPrim)} (hP : WPrims C prim) {ops : Array Oper} : ∀ (l : List Oper) {s s1 : WS}, opsW C prim ops.toList l s = some s1 → ∀ {σ : WSta}, WOK C H0 L0 o0 s σ →
    ∃ σ1, (∀ rest r, OS P NS ops rest σ1.fr σ1.H r → OS P NS ops (l ++ rest) σ.fr σ.H r) ∧ WOK C H0 L0 o0 s1 σ1 ∧ WStep L0 s s1 σ σ1
  | [], s, s1, hs, σ, h => by
    simp [opsW] at hs; subst hs
    exact ⟨σ, fun _ _ x => x, h, .refl L0 s σ⟩
  | o :: l, s, s1, hs, σ, h => by
    unfold opsW at hs
    split at hs
    · rename_i hg
      have hg := wantW_sound h.fr hg
      cases h2 : opW C prim o s with
      | none => rw [h2] at hs; cases hs
      | some s2 =>
        rw [h2] at hs
        simp only [Option.bind_some] at hs
        obtain ⟨a, σ2, p1, p2, p3, p4⟩ := opW_sound hP h2 h
        obtain ⟨σ3, q1, q2, q3⟩ := opsW_walk hP (ops := ops) l hs p3
        refine ⟨σ3, fun rest r x => ?_, q2, p4.trans q3⟩
        have := q1 rest r x
        rw [p2] at this
        exact p1.os hg this
    · rename_i hg
      have hg := wantW_sound h.fr hg
      obtain ⟨σ3, q1, q2, q3⟩ := opsW_walk hP (ops := ops) l hs (h.put (v := .u) (a := .t []) trivial o.dst)
      exact ⟨σ3, fun rest r x => OS.skip hg (q1 rest r x), q2, ((WStep.refl L0 s σ).put o.dst .u (.t [])).trans q3⟩
    · cases hs
theorem opsW_mv {prim : List (FuncId × WPrim)} {ops : Array Oper} {q : Nat} : ∀ (l : List Oper) {s s1 : WS}, opsW C prim ops.toList l s = some s1 → l.all isMv = true → (∀ o ∈ l, o.dst ≠ some q) → ∀ {σ : WSta}, WOK C H0 L0 o0 s σ →
    ∃ σ1, (∀ rest r, OS P NS ops rest σ1.fr σ1.H r → OS P NS ops (l ++ rest) σ.fr σ.H r) ∧ WOK C H0 L0 o0 s1 σ1 ∧ WStep L0 s s1 σ σ1 ∧ σ1.fr[q]? = σ.fr[q]? ∧ σ1.H = σ.H
  | [], s, s1, hs, hm, hn, σ, h => by
    simp [opsW] at hs; subst hs
    exact ⟨σ, fun _ _ x => x, h, .refl L0 s σ, rfl, rfl⟩
  | o :: l, s, s1, hs, hm, hn, σ, h => by
    have ho := hn o List.mem_cons_self
    have hl := fun x hx => hn x (List.mem_cons_of_mem o hx)
    simp only [List.all_cons, Bool.and_eq_true] at hm
    obtain ⟨hm1, hm2⟩ := hm
    obtain ⟨x, ds, ty, pos, af, rfl⟩ : ∃ x ds ty pos af, o = ⟨ds, .move x, ty, pos, af, none⟩ := by
      unfold isMv at hm1
      split at hm1
      · exact ⟨_, _, _, _, _, rfl⟩
      · cases hm1
    unfold opsW at hs
    simp only [wantW] at hs
    have h2 : ∀ s2, opW C prim ⟨ds, .move x, ty, pos, af, none⟩ s = some s2 → ∃ v, pureW (.move x) s = some v ∧ s2 = s.put ds v := fun s2 h => by
      have h : (pureW (.move x) s).map (fun v => s.put ds v) = some s2 := h
      simp only [Option.map_eq_some_iff] at h
      obtain ⟨v, hv, e⟩ := h
      exact ⟨v, hv, e.symm⟩
    cases h3 : opW C prim ⟨ds, .move x, ty, pos, af, none⟩ s with
    | none => rw [h3] at hs; cases hs
    | some s2 =>
      rw [h3] at hs
      simp only [Option.bind_some] at hs
      obtain ⟨v, hv, rfl⟩ := h2 _ h3
      obtain ⟨hc, a, ha, hd⟩ := pureW_sound h hv
      obtain ⟨σ3, q1, q2, q3, q4, q5⟩ := opsW_mv (ops := ops) l hs hm2 hl (h.put hd ds)
      refine ⟨σ3, fun rest r x => One.os (v := a) (H1 := σ.H) rfl (.pure hc ha) (q1 rest r x), q2, ((WStep.refl L0 s σ).put ds v a).trans q3, ?_, q5⟩
      rw [q4]; exact putA_ne ho
theorem WOK.grow {s : WS} {σ : WSta} (h : WOK C H0 L0 o0 s σ) (K : Heap) : WOK C H0 L0 o0 s { σ with H := σ.H ++ K } ∧ WStep L0 s s σ { σ with H := σ.H ++ K } := by
  have hk : WKeep L0 σ.H (σ.H ++ K) := ⟨fun i hi => List.getElem?_append_left (Nat.lt_of_lt_of_le hi (Nat.le_trans h.l0 h.keep.len)), by simp⟩
  refine ⟨⟨h.fr, h.lvl, h.exl, h.vsl, h.pos, h.lv, h.up, h.said, h.ver, h.keep.trans hk, h.l0, ?_, h.bytes, h.bound⟩, ⟨rfl, rfl, rfl, rfl, rfl, rfl, hk⟩⟩
  rcases h.out with x | ⟨i, x1, x2, x3, x4⟩
  · exact .inl x
  · exact .inr ⟨i, x1, x2, by show (σ.H ++ K)[i]? = _; rw [List.getElem?_append_left (List.getElem?_eq_some_iff.1 x3).1]; exact x3, x4⟩
theorem boxW_sound {prim : List (FuncId × WPrim)} (hP : WPrims C prim) {ops1 ops2 : Array Oper} {i1 i2 : Nat} {s s' : WS} (hs : boxW C prim ops1.toList ops2.toList s = some s') {σ : WSta} (h : WOK C H0 L0 o0 s σ) :
    ∃ fr1 H1 σ2, RU P NS (.region i1 ops1 false) σ.fr σ.H (.normal, fr1, H1) ∧ RU P NS (.region i2 ops2 false) fr1 H1 (.normal, σ2.fr, σ2.H) ∧ WOK C H0 L0 o0 s' σ2 ∧ WStep L0 s s' σ σ2 := by
  unfold boxW at hs
  split at hs
  rotate_left
  · cases hs
  rename_i pre0 q T d hsa
  split at hs
  rotate_left
  · cases hs
  rename_i pre e post hsp
  split at hs
  rotate_left
  · cases hs
  rename_i hc
  obtain ⟨hagg, hmv⟩ := hc
  split at hs
  rotate_left
  · cases hs
  rename_i s1 h1
  split at hs
  rotate_left
  · cases hs
  rename_i l o w sz z hfd hsz hz
  split at hs
  rotate_left
  · cases hs
  rename_i hc
  obtain ⟨hw1, hw, rfl, hpl, hzl, hz1, hql⟩ := hc
  subst hw1
  subst hw
  split at hs
  rotate_left
  · cases hs
  rename_i s2 hpre
  obtain ⟨ty1, pos1, af1, ty2, pos2, af2, hops, hdq⟩ := splitA_spec hsa
  obtain ⟨ty, pos, af, hsplit, hnq⟩ := splitT_spec hsp
  obtain ⟨σ1, w1, w2, w3⟩ := opsW_walk hP (ops := ops1) pre0 h1 h
  obtain ⟨a, ha, hda⟩ := FRW.at_ w2.fr hfd
  obtain ⟨e1, t1, t2, rfl⟩ := hda
  have hag1 : ((e1.cs.drop o).take 16).all AV.one = true ∧ ((e1.cs.drop o).take 16).length = 16 := by
    obtain ⟨e2, pl, vs, u1, u2, u3, u4⟩ := w2.top3
    rw [t1] at u1; cases u1
    rw [u4] at hpl
    cases hq : pl[s1.k]? with
    | none => rw [hq] at hpl; cases hpl
    | some x =>
      obtain ⟨ev, o'⟩ := x
      rw [hq] at hpl
      simp only [Option.any_some, Bool.and_eq_true, decide_eq_true_eq] at hpl
      obtain ⟨rfl, hu⟩ := hpl
      obtain ⟨nl, rfl⟩ : ∃ nl, ev = .leaf .uuid nl := by
        unfold isUu at hu
        split at hu
        · exact ⟨_, rfl⟩
        · cases hu
      obtain ⟨v, v1, ⟨y, y1, y2, y3, y4⟩, v3⟩ := w2.said _ _ _ _ t1 u2 u3 _ _ _ hq
      have y1 : RepK (fun i => i < L0) H0 .uuid nl y v := y1
      have y4 : (e1.cs.drop o').take 16 = y.cells := y4
      have y2 : y.cells.length = 16 := y2
      rw [y4]
      cases v <;> first | (simp [RepK] at y1; done) | skip
      have y1 : y = .g (u8s _) := y1
      refine ⟨?_, y2⟩
      rw [y1]; exact u8s_one _
  obtain ⟨hone, hlen⟩ := hag1
  generalize hcs : (e1.cs.drop o).take 16 = cs at ha hone hlen
  have hq1 : q < σ1.fr.length := by rw [← w2.fr.1]; exact hql
  obtain ⟨g1, g2⟩ := w2.grow [.cells T .vr cs]
  have g3 := g1.put (v := .u) (a := .p σ1.H.length 0) trivial (some q)
  have g4 := g2.trans ((WStep.refl L0 s1 { σ1 with H := σ1.H ++ [.cells T .vr cs] }).put (some q) .u (.p σ1.H.length 0))
  obtain ⟨σ3, m1, m2, m3, m4, m5⟩ := opsW_mv (ops := ops2) (q := q) pre hpre hmv hnq g3
  have hqf : σ3.fr[q]? = some (.p σ1.H.length 0) := by
    rw [m4]
    show (σ1.fr.set q _)[q]? = _
    rw [List.getElem?_set_self hq1]
  have hblk : σ3.H[σ1.H.length]? = some (.cells T .vr cs) := by
    rw [m5]
    show (σ1.H ++ [Blk.cells T .vr cs])[σ1.H.length]? = _
    simp
  have hden : denW H0 s2.cur σ3.out σ3.lv (.cels s1.top o 16) (.g cs) := ⟨e1, by rw [m3.lv]; exact t1, t2, by rw [hcs]⟩
  have m6 := m2.put hden (some e)
  obtain ⟨σ4, o1, o2, o3⟩ := opsW_sound hP (ops := ops2) post hs m6
  refine ⟨σ1.fr.set q (.p σ1.H.length 0), σ1.H ++ [.cells T .vr cs], σ4, ?_, ?_, o2, ((w3.trans g4).trans m3).trans (((WStep.refl L0 s2 σ3).put (some e) (.cels s1.top o 16) (.g cs)).trans o3)⟩
  · refine RU.region ?_
    rw [hops]
    refine w1 _ _ ?_
    refine One.os (v := .p σ1.H.length 0) (H1 := σ1.H ++ [.cells T .vr z.cells]) rfl (.pure rfl (op_alloc hz hz1)) ?_
    refine One.os (v := .u) (H1 := σ1.H ++ [.cells T .vr cs]) rfl (.pure rfl (op_store (a := .p σ1.H.length 0) (v := .g cs) ?_ ?_ ?_)) OS.nil
    · show (σ1.fr.set q _)[q]? = _
      rw [List.getElem?_set_self hq1]
    · show (σ1.fr.set q _)[d]? = _
      rw [List.getElem?_set, if_neg (fun e => hdq e.symm)]; exact ha
    · have hgc : (AV.g cs).cells = cs := rfl
      simp [storeA, hgc, hsz, hlen, hzl, hone, Kn.own, over_all (zs := z.cells) (cs := cs) (by omega)]
  · refine RU.region ?_
    rw [hsplit]
    refine m1 _ _ ?_
    refine One.os (v := .g cs) (H1 := σ3.H) rfl (.pure rfl (op_load (a := .p σ1.H.length 0) hqf ?_)) o1
    show loadAt P σ3.H T σ1.H.length 0 = _
    unfold loadAt
    rw [hblk, hagg, hsz]
    simp only [Nat.zero_add]
    rw [if_pos (by omega), List.drop_zero, ← hlen, List.take_length]
theorem boxWM_sound {prim : List (FuncId × WPrim)} (hP : WPrims C prim) {ops1 : Array Oper} {i1 : Nat} {rest rest2 : List Code} {s s' : WS} (hs : boxWM C prim ops1.toList rest s = some (s', rest2)) {σ : WSta} (h : WOK C H0 L0 o0 s σ) :
    ∃ d fr1 H1 σ2, rest = d :: rest2 ∧ RU P NS (.region i1 ops1 false) σ.fr σ.H (.normal, fr1, H1) ∧ RU P NS d fr1 H1 (.normal, σ2.fr, σ2.H) ∧ WOK C H0 L0 o0 s' σ2 ∧ WStep L0 s s' σ σ2 := by
  unfold boxWM at hs
  split at hs
  · simp only [Option.map_eq_some_iff] at hs
    obtain ⟨s1, h1, h2⟩ := hs
    simp at h2
    obtain ⟨rfl, rfl⟩ := h2
    obtain ⟨fr1, H1, σ2, a, b, c, e⟩ := boxW_sound hP h1 h
    exact ⟨_, fr1, H1, σ2, rfl, a, b, c, e⟩
  · cases hs
end
end Go.Proofs.YtiifcfngbbhgoagDoor.Rd

namespace Go.Proofs.YtiifcfngbbhgoagDoor.Rd
open Go Go.Proofs.YtiifcfngbbhgoagDoor.Ax Go.Proofs.YtiifcfngbbhgoagDoor.Wire
set_option maxRecDepth 100000
def FRh (H0 : Heap) (cur : Nat) (out : AV) (lv : List WL) (sf : WF) (fr : List AV) : Prop := sf.length = fr.length ∧ ∀ (t : Nat) (v : WV) (a : AV), sf[t]? = some v → fr[t]? = some a → denW H0 cur out lv v a
theorem denW_lv {H0 : Heap} {cur : Nat} {out : AV} {lv lv' : List WL} {l : Nat} (hl : ∀ k, k < l → lv'[k]? = lv[k]?) {v : WV} (hv : v.calm l = true) {a : AV} (h : denW H0 cur out lv v a) : denW H0 cur out lv' v a := by
  cases v <;> simp only [WV.calm, decide_eq_true_eq] at hv <;> simp only [denW] at h ⊢ <;> first | exact h | (rw [hl _ hv]; exact h)
theorem denW_cur {H0 : Heap} {cur cur' : Nat} {out out' : AV} {lv : List WL} {v : WV} (hv : ∀ c, v ≠ .out c) {a : AV} (h : denW H0 cur out lv v a) : denW H0 cur' out' lv v a := by
  cases v with
  | out c => exact absurd rfl (hv c)
  | _ => exact h
theorem denW_pre {H0 : Heap} {cur : Nat} {out : AV} {lv : List WL} (E : List WL) {v : WV} {a : AV} (h : denW H0 cur out lv v a) : denW H0 cur out (lv ++ E) v a := by
  have hp : ∀ {k : Nat} {e : WL}, lv[k]? = some e → (lv ++ E)[k]? = some e := fun h => by rw [List.getElem?_append_left (List.getElem?_eq_some_iff.1 h).1]; exact h
  cases v <;> simp only [denW] at h ⊢ <;> first | exact h | (obtain ⟨e, h1, h2⟩ := h; exact ⟨e, hp h1, h2⟩) | (obtain ⟨e, x, n, h1, h2⟩ := h; exact ⟨e, x, n, hp h1, h2⟩)
section
variable {C : Cfg} {H0 : Heap} {L0 : Nat} {o0 : B} {s : WS} {σ : WSta}
theorem WOK.push (h : WOK C H0 L0 o0 s σ) {o sz k : Nat} {E : WL} {plE : List (Ev × Nat)} {vsE : List V} {sf : WF} {fr : List AV} {H' : Heap} {out : AV} {o1 bs : B} (hEo : E.o = o) (hEs : E.sz = sz)
    (hE : E.j < E.n → E.cs.length = E.sz ∧ E.b < L0 ∧ ∃ ty kn bl, H0[E.b]? = some (.cells ty kn bl) ∧ E.w + E.sz ≤ bl.length ∧ (bl.drop E.w).take E.sz = E.cs)
    (hup : ∀ p, σ.lv[s.top]? = some p → ∃ x, p.cs[E.o]? = some x ∧ ((slen x = some E.n ∧ (E.j < E.n → x = .sl E.b 0 E.n ∧ E.w = E.j * E.sz)) ∨ x = .p E.b E.w))
    (hsaid : Said C.flex (fun i => i < L0) H0 E.cs plE vsE) (hfr : FRh H0 s.cur out (σ.lv ++ [E]) sf fr) (hk : WKeep L0 H0 H') (ho : OutAt L0 H' out bs) (hb : bs = o1 ++ encs C.flex (plE.take k) vsE) (hbd : o1.length + (encs C.flex plE vsE).length + 8 ≤ 1099511627776) :
    WOK C H0 L0 o1 { s with fr := sf, lv := s.lv ++ [(o, sz)], pend := none, exp := s.exp ++ [plE], k := k } { fr := fr, H := H', lv := σ.lv ++ [E], out := out, bs := bs, vs := σ.vs ++ [vsE] } := by
  have htop : (s.lv ++ [(o, sz)]).length - 1 = σ.lv.length := by simp [h.lvl]
  have hpos := h.pos
  have htop0 : s.top = σ.lv.length - 1 := by unfold WS.top; rw [h.lvl]
  refine ⟨hfr, by simp [h.lvl], by simp [h.exl], by simp [h.vsl], by simp, fun l e he => ?_, fun l p e hp he => ?_, fun l e pl vs he hpl hvs => ?_, fun n hn => ?_, hk, h.l0, ho, fun e pl vs he hpl hvs => ?_, fun pl vs hpl hvs => ?_⟩
  · have he' : (σ.lv ++ [E])[l]? = some e := he
    show (s.lv ++ [(o, sz)])[l]? = _ ∧ _
    by_cases hl : l < σ.lv.length
    · rw [List.getElem?_append_left hl] at he'
      rw [List.getElem?_append_left (by rw [h.lvl]; exact hl)]
      exact h.lv l e he'
    · have := (List.getElem?_eq_some_iff.1 he').1
      simp at this
      obtain rfl : l = σ.lv.length := by omega
      simp at he'
      subst he'
      rw [← h.lvl]
      simp [hEo, hEs]
      rw [← hEs]
      exact hE
  · have he' : (σ.lv ++ [E])[l + 1]? = some e := he
    have hp' : (σ.lv ++ [E])[l]? = some p := hp
    by_cases hl : l + 1 < σ.lv.length
    · rw [List.getElem?_append_left hl] at he'
      rw [List.getElem?_append_left (by omega)] at hp'
      exact h.up l p e hp' he'
    · have := (List.getElem?_eq_some_iff.1 he').1
      simp at this
      have hll : l + 1 = σ.lv.length := by omega
      rw [hll] at he'
      simp at he'
      subst he'
      rw [List.getElem?_append_left (by omega)] at hp'
      exact hup p (by rw [htop0, ← hll]; exact hp')
  · have he' : (σ.lv ++ [E])[l]? = some e := he
    have hpl' : (s.exp ++ [plE])[l]? = some pl := hpl
    have hvs' : (σ.vs ++ [vsE])[l]? = some vs := hvs
    by_cases hl : l < σ.lv.length
    · rw [List.getElem?_append_left hl] at he'
      rw [List.getElem?_append_left (by rw [h.exl]; exact hl)] at hpl'
      rw [List.getElem?_append_left (by rw [h.vsl]; exact hl)] at hvs'
      exact h.said l e pl vs he' hpl' hvs'
    · have := (List.getElem?_eq_some_iff.1 he').1
      simp at this
      obtain rfl : l = σ.lv.length := by omega
      simp at he'
      rw [← h.exl] at hpl'
      rw [← h.vsl] at hvs'
      simp at hpl' hvs'
      subst he' hpl' hvs'
      exact hsaid
  · obtain ⟨e, k, e1, e2⟩ := h.ver n hn
    exact ⟨e, k, by show (σ.lv ++ [E])[0]? = _; rw [List.getElem?_append_left hpos]; exact e1, e2⟩
  · have hpl' : (s.exp ++ [plE])[(s.lv ++ [(o, sz)]).length - 1]? = some pl := hpl
    have hvs' : (σ.vs ++ [vsE])[(s.lv ++ [(o, sz)]).length - 1]? = some vs := hvs
    rw [htop] at hpl' hvs'
    rw [← h.exl] at hpl'
    rw [← h.vsl] at hvs'
    simp at hpl' hvs'
    subst hpl' hvs'
    exact ⟨[], rfl, by simp [hb]⟩
  · have hpl' : (s.exp ++ [plE])[(s.lv ++ [(o, sz)]).length - 1]? = some pl := hpl
    have hvs' : (σ.vs ++ [vsE])[(s.lv ++ [(o, sz)]).length - 1]? = some vs := hvs
    rw [htop] at hpl' hvs'
    rw [← h.exl] at hpl'
    rw [← h.vsl] at hvs'
    simp at hpl' hvs'
    subst hpl' hvs'
    exact hbd
theorem turn_fr {sf s2f : WF} {fr : List AV} {it l c c2 : Nat} {out : AV} {lv lv' : List WL} {sv : WV} (hlen : sf.length = s2f.length) (h : FRh H0 c2 out lv s2f fr) (hsame : ∀ t v, t ≠ it → sf[t]? = some v → v = .u ∨ s2f[t]? = some (renW c c2 v)) (hcalm : ∀ t v, t ≠ it → sf[t]? = some v → v.calm l = true)
    (hl : ∀ k, k < l → lv'[k]? = lv[k]?) (hit : ∀ a, fr[it]? = some a → denW H0 c out lv' sv a) : FRh H0 c out lv' (sf.set it sv) fr := by
  refine ⟨by simp [hlen, h.1], fun t v a hv ha => ?_⟩
  rw [List.getElem?_set] at hv
  by_cases ht : it = t
  · subst ht
    rw [if_pos rfl] at hv
    split at hv
    · cases hv; exact hit a ha
    · cases hv
  · rw [if_neg ht] at hv
    rcases hsame t v (fun e => ht e.symm) hv with rfl | h2
    · trivial
    · have d := h.2 t _ a h2 ha
      have hc := hcalm t v (fun e => ht e.symm) hv
      unfold renW at d
      split at d
      · rename_i e
        subst e
        intro _
        exact d rfl
      · rename_i hne
        cases v with
        | out k => intro hk; subst hk; exact absurd rfl hne
        | _ => exact denW_lv hl hc (denW_cur (fun c => by simp) d)
theorem loopW_sound {b : Code} {it id o sz l : Nat} {f : F} {hd : WF} {s2 s3 : WS} (hσ : WOK C H0 L0 o0 s σ) (hl : l = s.lv.length) (hsz : 0 < sz)
    (hbody : ∀ (o1 : B) (σ1 : WSta), WOK C H0 L0 o1 { s with fr := hd, lv := s.lv ++ [(o, sz)], pend := none, exp := s.exp ++ [unF f], k := 0 } σ1 → ∃ σ2, RUs (flat b) σ1.fr σ1.H (.normal, σ2.fr, σ2.H) ∧ WOK C H0 L0 o1 s2 σ2 ∧ WStep L0 { s with fr := hd, lv := s.lv ++ [(o, sz)], pend := none, exp := s.exp ++ [unF f], k := 0 } s2 σ1 σ2)
    (hexit : ∀ (o1 : B) (σ1 : WSta), WOK C H0 L0 o1 { s with fr := hd.set it (.fin l), lv := s.lv ++ [(o, sz)], pend := none, exp := s.exp ++ [[]], k := 0 } σ1 → ∃ σ2, RUs (flat b) σ1.fr σ1.H (.exit id, σ2.fr, σ2.H) ∧ WOK C H0 L0 o1 s3 σ2 ∧ WStep L0 { s with fr := hd.set it (.fin l), lv := s.lv ++ [(o, sz)], pend := none, exp := s.exp ++ [[]], k := 0 } s3 σ1 σ2)
    (hidx : hd[it]? = some (.idx l)) (hnx : s2.fr[it]? = some (.nxt l)) (hp2 : s2.pend = none) (hlv2 : s2.lv = s.lv ++ [(o, sz)]) (hex2 : s2.exp = s.exp ++ [unF f]) (hk2 : s2.k = (unF f).length) (hfl : s2.fr.length = hd.length) (hp3 : s3.pend = none) (hlv3 : s3.lv = s.lv ++ [(o, sz)]) (hex3 : s3.exp = s.exp ++ [[]])
    (hsame : ∀ t v, t ≠ it → hd[t]? = some v → v = .u ∨ s2.fr[t]? = some (renW s.cur s2.cur v)) (hcalm : ∀ t v, t ≠ it → hd[t]? = some v → v.calm l = true)
    {us : List V} {p : WL} {x : AV} (hp : σ.lv[s.top]? = some p) (hx : p.cs[o]? = some x) (hlen : slen x = some us.length) (hN : us.length < 2147483648)
    (hus : 0 < us.length → ∃ nb ty bl, x = .sl nb 0 us.length ∧ nb < L0 ∧ H0[nb]? = some (.cells ty .row bl) ∧ bl.length = us.length * sz ∧ ∀ (j : Nat) (y : V), us[j]? = some y → Rep (fun i => i < L0) H0 f y ((bl.drop (j * sz)).take sz)) (hok : ∀ y ∈ us, ok C.flex f y) {ob : B} (hbd : ob.length + (us.flatMap (enc C.flex f)).length + 8 ≤ 1099511627776) :
    ∀ (k j : Nat) (fr : List AV) (H : Heap) (out : AV) (bs : B), j + k = us.length → (∀ E : WL, (j < us.length → E.j = j ∧ E.n = us.length) → (j = us.length → E.n = us.length) → FRh H0 s.cur out (σ.lv ++ [E]) (hd.set it (if j < us.length then .idx l else .fin l)) fr) → WKeep L0 H0 H → OutAt L0 H out bs → bs = ob ++ (us.take j).flatMap (enc C.flex f) →
      ∃ σ3, RU P NS (.loop b) fr H (.exit id, σ3.fr, σ3.H) ∧ (∃ E, σ3.lv = σ.lv ++ [E]) ∧ WOK C H0 L0 (ob ++ us.flatMap (enc C.flex f)) s3 σ3 ∧ WKeep L0 H σ3.H ∧ σ3.bs = ob ++ us.flatMap (enc C.flex f)
  | 0, j, fr, H, out, bs, hj, hfr, hk, ho, hbs => by
    obtain rfl : j = us.length := by omega
    have hpush := hσ.push (o := o) (sz := sz) (k := 0) (E := ⟨0, 0, sz, [], o, us.length, us.length⟩) (plE := []) (vsE := []) (sf := hd.set it (.fin l)) (fr := fr) (H' := H) (out := out) (o1 := bs) (bs := bs) rfl rfl (fun h => absurd h (Nat.lt_irrefl _)) (fun p' hp' => by
      rw [hp] at hp'; cases hp'
      exact ⟨x, hx, .inl ⟨hlen, fun h => absurd h (Nat.lt_irrefl _)⟩⟩) (fun i e o hi => by simp at hi) (by
      have := hfr ⟨0, 0, sz, [], o, us.length, us.length⟩ (fun h => absurd h (Nat.lt_irrefl _)) (fun _ => rfl)
      rw [if_neg (Nat.lt_irrefl _)] at this
      exact this) hk ho (by simp [encs]) (by rw [hbs, List.take_length]; simp only [encs, List.length_append, List.length_nil]; omega)
    obtain ⟨σ3, q1, q2, q3⟩ := hexit _ _ hpush
    have hbs' : bs = ob ++ us.flatMap (enc C.flex f) := by rw [hbs]; simp
    refine ⟨σ3, RU.loopx (RUs.code q1) (by simp), ⟨_, q3.lv⟩, by rw [← hbs']; exact q2, q3.keep, ?_⟩
    have hlv3' : σ3.lv = σ.lv ++ [⟨0, 0, sz, [], o, us.length, us.length⟩] := q3.lv
    have hvs3 : σ3.vs = σ.vs ++ [[]] := q3.vs
    have htop3 : s3.top = σ.lv.length := by unfold WS.top; rw [hlv3]; simp [hσ.lvl]
    obtain ⟨pp, pp1, pp2⟩ := q2.bytes ⟨0, 0, sz, [], o, us.length, us.length⟩ [] [] (by rw [htop3, hlv3']; simp) (by rw [htop3, hex3, ← hσ.exl]; simp) (by rw [htop3, hvs3, ← hσ.vsl]; simp)
    rw [hp3] at pp1
    simp [pendB] at pp1
    subst pp1
    rw [pp2, ← hbs']
    simp [encs]
  | k + 1, j, fr, H, out, bs, hj, hfr, hk, ho, hbs => by
    have hjl : j < us.length := by omega
    obtain ⟨nb, ty, bl, rfl, hnb, hblk, hbll, hreps⟩ := hus (by omega)
    have hy : us[j]? = some us[j] := by simp [hjl]
    have hrep := hreps j _ hy
    obtain ⟨vs, hv1, hv2, hv3⟩ := rep_said hrep (hok _ (List.getElem_mem hjl))
    have hfit := mul_next (sz := sz) hjl
    have hsplit : us.flatMap (enc C.flex f) = (us.take j).flatMap (enc C.flex f) ++ (enc C.flex f us[j] ++ (us.drop (j + 1)).flatMap (enc C.flex f)) := by
      have hu : us = us.take j ++ us[j] :: us.drop (j + 1) := by rw [← List.drop_eq_getElem_cons hjl, List.take_append_drop]
      conv => lhs; rw [hu]
      rw [List.flatMap_append, List.flatMap_cons]
    have hbl : bs.length + (enc C.flex f us[j]).length + 8 ≤ 1099511627776 := by
      rw [hbs, List.length_append]
      rw [hsplit] at hbd
      simp only [List.length_append] at hbd
      omega
    have hpush := hσ.push (o := o) (sz := sz) (k := 0) (E := ⟨nb, j * sz, sz, (bl.drop (j * sz)).take sz, o, j, us.length⟩) (plE := unF f) (vsE := vs) (sf := hd) (fr := fr) (H' := H) (out := out) (o1 := bs) (bs := bs) rfl rfl
      (fun _ => ⟨by simp; omega, hnb, ty, .row, bl, hblk, by show j * sz + sz ≤ bl.length; omega, rfl⟩) (fun p' hp' => by
      rw [hp] at hp'; cases hp'
      exact ⟨_, hx, .inl ⟨hlen, fun _ => ⟨rfl, rfl⟩⟩⟩) hv2 (by
      have := hfr ⟨nb, j * sz, sz, (bl.drop (j * sz)).take sz, o, j, us.length⟩ (fun _ => ⟨rfl, rfl⟩) (fun _ => rfl)
      rw [if_pos hjl] at this
      have hset : hd.set it (.idx l) = hd := by
        apply List.ext_getElem?
        intro t
        rw [List.getElem?_set]
        split
        · rename_i e; subst e
          have hlt := (List.getElem?_eq_some_iff.1 hidx).1
          first | exact hidx.symm | (rw [if_pos hlt]; exact hidx.symm)
        · rfl
      rw [hset] at this
      exact this) hk ho (by simp [encs]) (by rw [← hv3]; omega)
    obtain ⟨σ2, q1, q2, q3⟩ := hbody _ _ hpush
    have hlv2' : σ2.lv = σ.lv ++ [⟨nb, j * sz, sz, (bl.drop (j * sz)).take sz, o, j, us.length⟩] := q3.lv
    have hvs2 : σ2.vs = σ.vs ++ [vs] := q3.vs
    have htop2 : s2.top = σ.lv.length := by unfold WS.top; rw [hlv2]; simp [hσ.lvl]
    obtain ⟨pp, pp1, pp2⟩ := q2.bytes ⟨nb, j * sz, sz, (bl.drop (j * sz)).take sz, o, j, us.length⟩ (unF f) vs (by rw [htop2, hlv2']; simp) (by rw [htop2, hex2, ← hσ.exl]; simp) (by rw [htop2, hvs2, ← hσ.vsl]; simp)
    rw [hp2] at pp1
    simp [pendB] at pp1
    subst pp1
    rw [hk2, List.take_length, List.append_nil, ← hv3] at pp2
    obtain ⟨σ3, w1, w2, w3, w4, w5⟩ := loopW_sound hσ hl hsz hbody hexit hidx hnx hp2 hlv2 hex2 hk2 hfl hp3 hlv3 hex3 hsame hcalm hp hx hlen hN hus hok hbd k (j + 1) σ2.fr σ2.H σ2.out σ2.bs (by omega) (fun E hE1 hE2 => by
      refine turn_fr (lv := σ2.lv) hfl.symm q2.fr hsame hcalm (fun k hk => ?_) (fun a ha => ?_)
      · rw [hlv2', List.getElem?_append_left (by rw [← hσ.lvl, ← hl]; exact hk), List.getElem?_append_left (by rw [← hσ.lvl, ← hl]; exact hk)]
      · obtain ⟨e', e1, rfl⟩ := q2.fr.2 it _ a hnx ha
        have hE' : (σ.lv ++ [E])[l]? = some E := by rw [hl, hσ.lvl]; simp
        have he' : e'.j = j := by
          rw [hlv2', hl, hσ.lvl] at e1
          simp at e1
          rw [← e1]
        rw [he']
        by_cases hjj : j + 1 < us.length
        · rw [if_pos hjj]
          obtain ⟨g1, g2⟩ := hE1 hjj
          exact ⟨E, hE', by rw [g1], by rw [g1, g2]; exact hjj, by rw [g2]; omega⟩
        · rw [if_neg hjj]
          exact ⟨E, hE', by rw [hE2 (by omega), show j + 1 = us.length by omega]⟩) (hk.trans q3.keep) q2.out (by
      rw [pp2, hbs, take_snoc hy, List.flatMap_append, List.flatMap_cons, List.flatMap_nil, List.append_nil, List.append_assoc])
    exact ⟨σ3, RU.loop (RUs.code q1) w1, w2, w3, q3.keep.trans w4, w5⟩
end
end Go.Proofs.YtiifcfngbbhgoagDoor.Rd

namespace Go.Proofs.YtiifcfngbbhgoagDoor.Rd
open Go Go.Proofs.YtiifcfngbbhgoagDoor.Ax Go.Proofs.YtiifcfngbbhgoagDoor.Wire
set_option maxRecDepth 100000
theorem headW_get {l it : Nat} {b : Code} {o c : Nat} {fr : WF} {t : Nat} {v : WV} (ht : t ≠ it) (h : (headW l it b o c fr)[t]? = some v) : (t = o ∧ v = .out c) ∨ v = .u ∨ (fr[t]? = some v ∧ ∀ k, v ≠ .out k) := by
  unfold headW at h
  rw [List.getElem?_set, if_neg (fun e => ht e.symm), List.getElem?_set] at h
  split at h
  · rename_i e
    split at h
    · cases h; exact .inl ⟨e.symm, rfl⟩
    · cases h
  · have key : ∀ (ds : List Nat) (fr : WF), ((ds.foldl (fun fr t => fr.set t WV.u) fr)[t]?) = some v → v = .u ∨ fr[t]? = some v := by
      intro ds
      induction ds with
      | nil => intro fr h; exact .inr h
      | cons d ds ih =>
        intro fr h
        rcases ih _ h with h | h
        · exact .inl h
        · rw [List.getElem?_set] at h
          split at h
          · split at h
            · cases h; exact .inl rfl
            · cases h
          · exact .inr h
    simp only [List.getElem?_map, Option.map_eq_some_iff] at h
    obtain ⟨w, hw, rfl⟩ := h
    by_cases hu : noOut w = .u
    · exact .inr (.inl hu)
    · have hwn : noOut w = w ∧ ∀ k, w ≠ .out k := by
        cases w <;> first | exact ⟨rfl, fun k => by simp⟩ | exact absurd rfl hu
      obtain ⟨e1, e2⟩ := hwn
      rw [e1] at hu ⊢
      have key2 : ∀ (ds : List Nat) (fr : WF), ((ds.foldl (fun fr t => fr.set t WV.u) fr)[t]?) = some w → w = .u ∨ fr[t]? = some w := by
        intro ds
        induction ds with
        | nil => intro fr h; exact .inr h
        | cons d ds ih =>
          intro fr h
          rcases ih _ h with h | h
          · exact .inl h
          · rw [List.getElem?_set] at h
            split at h
            · split at h
              · cases h; exact .inl rfl
              · cases h
            · exact .inr h
      rcases key2 _ _ hw with h | h
      · exact absurd h hu
      · exact .inr (.inr ⟨h, e2⟩)
theorem headW_length (l it : Nat) (b : Code) (o c : Nat) (fr : WF) : (headW l it b o c fr).length = fr.length := by
  unfold headW
  have : ∀ (ds : List Nat) (fr : WF), (ds.foldl (fun fr t => fr.set t WV.u) fr).length = fr.length := by
    intro ds
    induction ds with
    | nil => intro fr; rfl
    | cons d ds ih => intro fr; simp only [List.foldl_cons]; rw [ih]; simp
  simp [this]
theorem headW_it {l it : Nat} {b : Code} {o c : Nat} {fr : WF} (h : it < fr.length) : (headW l it b o c fr)[it]? = some (.idx l) := by
  have hl := headW_length l it b o c fr
  unfold headW at hl ⊢
  rw [List.length_set] at hl
  rw [List.getElem?_set_self (by rw [hl]; exact h)]
theorem chkW_sound {C : Cfg} {prim : List (FuncId × WPrim)} (hP : WPrims C prim) {H0 : Heap} {L0 : Nat} (n : Nat) : ∀ cs s s', chkW C prim n cs s = some s' → ∀ o0 σ, WOK C H0 L0 o0 s σ → ∃ σ', RUs cs σ.fr σ.H (.normal, σ'.fr, σ'.H) ∧ WOK C H0 L0 o0 s' σ' ∧ WStep L0 s s' σ σ' := by
  induction n with
  | zero => intro cs s s' h; cases h
  | succ n ih =>
    intro cs s s' h o0 σ ok
    have h : chkWStep C prim (chkW C prim n) cs s = some s' := h
    have flatc : ∀ {c d : Code} {rest : List Code} {s s' : WS} {σ : WSta}, (∀ fr1 H1, RU P NS c σ.fr σ.H (.normal, fr1, H1) → RU P NS d σ.fr σ.H (.normal, fr1, H1)) → (∃ σ', RUs (flat c ++ rest) σ.fr σ.H (.normal, σ'.fr, σ'.H) ∧ WOK C H0 L0 o0 s' σ' ∧ WStep L0 s s' σ σ') → ∃ σ', RUs (d :: rest) σ.fr σ.H (.normal, σ'.fr, σ'.H) ∧ WOK C H0 L0 o0 s' σ' ∧ WStep L0 s s' σ σ' := by
      intro c d rest s s' σ hn ⟨σ', h1, h2, h3⟩
      rcases RUs.split h1 with ⟨fr1, H1, p1, p2⟩ | ⟨p1, _⟩
      · exact ⟨σ', RUs.cons (hn _ _ (RUs.code p1)) p2, h2, h3⟩
      · exact absurd rfl p1
    unfold chkWStep at h
    split at h
    · simp at h; subst h
      exact ⟨σ, rfl, ok, .refl _ _ _⟩
    · rename_i idr ops rest h0
      split at h
      · rename_i s2 rest2 hb2
        have hk := ih _ _ _ h
        obtain ⟨d, fr1, H1, σ2, rfl, r1, r2, q2, q3⟩ := boxWM_sound hP hb2 ok
        obtain ⟨σ3, w1, w2, w3⟩ := hk o0 σ2 q2
        exact ⟨σ3, RUs.cons r1 (RUs.cons r2 w1), w2, q3.trans w3⟩
      · cases h2 : opsW C prim ops.toList ops.toList s with
        | none => rw [h2] at h; cases h
        | some s2 =>
          rw [h2] at h
          simp only [Option.bind_some] at h
          obtain ⟨σ2, q1, q2, q3⟩ := opsW_sound hP (ops := ops) _ h2 ok
          obtain ⟨σ3, w1, w2, w3⟩ := ih _ _ _ h o0 σ2 q2
          exact ⟨σ3, RUs.cons (RU.region q1) w1, w2, q3.trans w3⟩
    · split at h
      · rename_i hc
        obtain ⟨xa, e1, rfl⟩ := evW_sound ok.fr hc
        exact flatc (fun _ _ hr => RU.condT e1 hr) (ih _ _ _ h o0 σ ok)
      · rename_i hc
        obtain ⟨xa, e1, rfl⟩ := evW_sound ok.fr hc
        exact flatc (fun _ _ hr => RU.condF e1 hr) (ih _ _ _ h o0 σ ok)
      · cases h
    · rename_i id b rest h0
      split at h
      rotate_left
      · cases h
      rename_i o null it sz null' f o' hpd hit hpl
      simp only at h
      split at h
      rotate_left
      · cases h
      rename_i s2 j s3 hb hx
      split at h
      rotate_left
      · cases h
      rename_i hc
      obtain ⟨rfl, rfl, rfl, c4, c5, c6, c7, c8, c9, c10, c11, c12, c13, c14, c15, c16, c17, c18, c19, c20, c21, c22, c23, c24, c25, c26⟩ := hc
      obtain ⟨e, pl, vs, t1, t2, t3, t4⟩ := ok.top3
      rw [t4] at hpl
      have hsd := ok.said _ e pl vs t1 t2 t3
      obtain ⟨v, x, kk, v1, hx1, hlr, hoe, hsl, hk31, hmat⟩ := said_list hsd hpl
      obtain ⟨p, p1, p2⟩ := ok.bytes e pl vs t1 t2 t3
      rw [hpd] at p1
      simp only [pendB, hx1, hsl, Option.bind_some, Option.map_some, Option.some.injEq] at p1
      have henc := encs_take C.flex hpl v1
      have hfit := encs_fit C.flex pl vs (s.k + 1)
      have hbnd := ok.bound pl vs t2 t3
      have hus : ∃ us : List V, kk = us.length ∧ Ev.enc C.flex (.list sz null' f) v = p ++ us.flatMap (enc C.flex f) ∧ (∀ y ∈ us, Wire.ok C.flex f y) ∧ (0 < us.length → ∃ nb ty bl, x = .sl nb 0 us.length ∧ nb < L0 ∧ H0[nb]? = some (.cells ty .row bl) ∧ bl.length = us.length * sz ∧ ∀ (j : Nat) (y : V), us[j]? = some y → Rep (fun i => i < L0) H0 f y ((bl.drop (j * sz)).take sz)) := by
        cases v with
        | l us =>
          obtain ⟨rfl, hz⟩ := hmat
          refine ⟨us, rfl, ?_, hoe.2, fun hu => ?_⟩
          · show cnt C.flex 4 us.length ++ us.flatMap (enc C.flex f) = _
            rw [← p1]
            cases hn : null' with
            | false => rfl
            | true => rw [hz hn]; rfl
          · rcases hlr with ⟨rfl, _⟩ | ⟨nb, ty, bl, a0, a1, a2, a3, a4, a5⟩
            · simp at hu
            · exact ⟨nb, ty, bl, a2, a1, a3, a4, a5⟩
        | nul =>
          obtain ⟨_, hn, rfl⟩ := hmat
          simp [slen] at hsl
          subst hsl
          refine ⟨[], rfl, ?_, fun y hy => by simp at hy, fun hu => by simp at hu⟩
          rw [← p1, hn]
          show cnt0 C.flex 4 = _
          simp [isS0]
        | _ => exact hlr.elim
      obtain ⟨us, rfl, hev, huok, hurep⟩ := hus
      have hll : s.lv.length = σ.lv.length := ok.lvl
      have hsame : ∀ t v, t ≠ it → (headW s.lv.length it b (outSlot s.cur s.fr) s.cur s.fr)[t]? = some v → v = .u ∨ s2.fr[t]? = some (renW s.cur s2.cur v) := by
        intro t v ht hv
        have hv2 : ((headW s.lv.length it b (outSlot s.cur s.fr) s.cur s.fr).set it .u)[t]? = some v := by rw [List.getElem?_set, if_neg (fun e => ht e.symm)]; exact hv
        rw [List.all_eq_true] at c17
        have hlt := (List.getElem?_eq_some_iff.1 hv).1
        have hb2 : s2.fr[t]? = some (s2.fr[t]'(by rw [c16]; exact hlt)) := by simp
        have := c17 (v, s2.fr[t]'(by rw [c16]; exact hlt)) (by
          rw [List.mem_iff_getElem?]
          exact ⟨t, by rw [List.getElem?_zip_eq_some]; exact ⟨hv2, hb2⟩⟩)
        simp only [Bool.or_eq_true, beq_iff_eq] at this
        rcases this with h | h
        · exact .inl h
        · exact .inr (by rw [hb2, h])
      have hcalm : ∀ t v, t ≠ it → (headW s.lv.length it b (outSlot s.cur s.fr) s.cur s.fr)[t]? = some v → v.calm s.lv.length = true := by
        intro t v ht hv
        have hv2 : ((headW s.lv.length it b (outSlot s.cur s.fr) s.cur s.fr).set it .u)[t]? = some v := by rw [List.getElem?_set, if_neg (fun e => ht e.symm)]; exact hv
        rw [List.all_eq_true] at c18
        exact c18 v (List.mem_of_getElem? hv2)
      have hob : σ.bs.length + (us.flatMap (enc C.flex f)).length + 8 ≤ 1099511627776 := by
        rw [henc, List.length_append, hev, List.length_append] at hfit
        rw [p2]
        simp only [List.length_append]
        omega
      obtain ⟨σ3, w1, ⟨E, wE⟩, w2, w3, w4⟩ := loopW_sound (b := b) (it := it) (id := j) (o := o') (sz := sz) (l := s.lv.length) (f := f) (s2 := s2) (s3 := s3) ok rfl c5
        (fun o1 σ1 ok1 => ih _ _ _ hb o1 σ1 ok1) (fun o1 σ1 ok1 => exitW_sound hx ok1) (headW_it c10) c11 c12 c13 c14 c15 c16 c21 c20 c22 hsame hcalm t1 hx1 hsl hk31 hurep huok (ob := σ.bs) hob
        us.length 0 σ.fr σ.H σ.out σ.bs (by omega) (fun E hE1 hE2 => by
          refine ⟨by rw [List.length_set, headW_length]; exact ok.fr.1, fun t v a hv ha => ?_⟩
          rw [List.getElem?_set] at hv
          by_cases ht : it = t
          · subst ht
            rw [if_pos rfl] at hv
            have ha0 : a = .i .i64 0 := ok.fr.2 it _ a c7 ha
            have hE' : (σ.lv ++ [E])[s.lv.length]? = some E := by rw [hll]; simp
            split at hv
            · cases hv
              split
              · rename_i hu
                obtain ⟨g1, g2⟩ := hE1 hu
                exact ⟨E, hE', by rw [ha0, g1]; rfl, by rw [g1, g2]; exact hu, by rw [g2]; omega⟩
              · rename_i hu
                exact ⟨E, hE', by rw [ha0, hE2 (by omega), show us.length = 0 by omega]; rfl⟩
            · cases hv
          · rw [if_neg ht] at hv
            rcases headW_get (fun e => ht e.symm) hv with ⟨rfl, rfl⟩ | rfl | ⟨h1, h2⟩
            · exact fun _ => ok.fr.2 _ _ a c8 ha rfl
            · trivial
            · exact denW_pre [E] (ok.fr.2 t v a h1 ha)) ok.keep ok.out (by simp)
      have okT : WOK C H0 L0 o0 { s with fr := s3.fr.map (lowW s.lv.length), pend := none, k := s.k + 1 } { fr := σ3.fr, H := σ3.H, lv := σ.lv, out := σ3.out, bs := σ3.bs, vs := σ.vs } := by
        refine ⟨⟨by simp [w2.fr.1], fun t v a hv ha => ?_⟩, ok.lvl, ok.exl, ok.vsl, ok.pos, ok.lv, ok.up, ok.said, ok.ver, w2.keep, ok.l0, w2.out, fun e' pl' vs' r1 r2 r3 => ?_, ok.bound⟩
        · simp only [List.getElem?_map, Option.map_eq_some_iff] at hv
          obtain ⟨v', hv', rfl⟩ := hv
          unfold lowW
          split
          · rename_i hcm
            have d := w2.fr.2 t v' a hv' ha
            rw [wE, c19] at d
            exact denW_lv (fun k hk => by rw [List.getElem?_append_left (by rw [← hll]; exact hk)]) hcm d
          · trivial
        · have r1 : σ.lv[s.top]? = some e' := r1
          have r2 : s.exp[s.top]? = some pl' := r2
          have r3 : σ.vs[s.top]? = some vs' := r3
          rw [t1] at r1; cases r1
          rw [t2] at r2; cases r2
          rw [t3] at r3; cases r3
          refine ⟨[], rfl, ?_⟩
          show σ3.bs = _
          rw [w4, henc, hev, p2]
          simp
      obtain ⟨σ4, x1, x2, x3⟩ := ih _ _ _ h o0 _ okT
      refine ⟨σ4, RUs.cons (RU.block0 w1) x1, x2, ⟨x3.lv, x3.vs, x3.slv, x3.exp, x3.ver, ?_, w3.trans x3.keep⟩⟩
      have hfl3 : s3.fr.length = s.fr.length := c26
      have := x3.frl
      simp [hfl3] at this
      exact this
    · exact flatc (fun _ _ hr => RU.blockN hr) (ih _ _ _ h o0 σ ok)
    · cases h
end Go.Proofs.YtiifcfngbbhgoagDoor.Rd

