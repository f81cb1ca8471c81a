import Derived.Test.YtjncijimikfdnaaDoorQWxOp
/-
  THE WRITING CODE's CHECKER: the loop over a list.
-/
namespace Go.Proofs.YtjncijimikfdnaaDoor.Rd
set_option linter.constructorNameAsVariable false
set_option linter.unusedVariables false
set_option linter.unusedSimpArgs false
open Go Go.Proofs.YtjncijimikfdnaaDoor.Ax Go.Proofs.YtjncijimikfdnaaDoor.Wire
set_option linter.unusedVariables false
set_option linter.unusedSimpArgs false
set_option maxRecDepth 100000

def FRh (H0 : Heap) (cur : Nat) (out : AV) (lv : List WL) (sf : WF) (fr : List AV) : Prop := sf.length = fr.length ∧ ∀ (t : Nat) (v : WV) (a : AV), sf[t]? = some v → fr[t]? = some a → denW H0 cur out lv v a

theorem denW_lv {H0 : Heap} {cur : Nat} {out : AV} {lv lv' : List WL} {l : Nat} (hl : ∀ k, k < l → lv'[k]? = lv[k]?) {v : WV} (hv : v.calm l = true) {a : AV} (h : denW H0 cur out lv v a) : denW H0 cur out lv' v a := by
  cases v <;> simp only [WV.calm, decide_eq_true_eq] at hv <;> simp only [denW] at h ⊢ <;> first | exact h | (rw [hl _ hv]; exact h)
theorem denW_cur {H0 : Heap} {cur cur' : Nat} {out out' : AV} {lv : List WL} {v : WV} (hv : ∀ c, v ≠ .out c) {a : AV} (h : denW H0 cur out lv v a) : denW H0 cur' out' lv v a := by
  cases v with
  | out c => exact absurd rfl (hv c)
  | _ => exact h
theorem denW_pre {H0 : Heap} {cur : Nat} {out : AV} {lv : List WL} (E : List WL) {v : WV} {a : AV} (h : denW H0 cur out lv v a) : denW H0 cur out (lv ++ E) v a := by
  have hp : ∀ {k : Nat} {e : WL}, lv[k]? = some e → (lv ++ E)[k]? = some e := fun h => by rw [List.getElem?_append_left (List.getElem?_eq_some_iff.1 h).1]; exact h
  cases v <;> simp only [denW] at h ⊢ <;> first | exact h | (obtain ⟨e, h1, h2⟩ := h; exact ⟨e, hp h1, h2⟩) | (obtain ⟨e, x, n, h1, h2⟩ := h; exact ⟨e, x, n, hp h1, h2⟩)

section
variable {C : Cfg} {H0 : Heap} {L0 : Nat} {o0 : B} {s : WS} {σ : WSta}
/-- One level more. -/
theorem WOK.push (h : WOK C H0 L0 o0 s σ) {o sz k : Nat} {E : WL} {plE : List (Ev × Nat)} {vsE : List V} {sf : WF} {fr : List AV} {H' : Heap} {out : AV} {o1 bs : B} (hEo : E.o = o) (hEs : E.sz = sz)
    (hE : E.j < E.n → E.cs.length = E.sz ∧ E.b < L0 ∧ ∃ ty kn bl, H0[E.b]? = some (.cells ty kn bl) ∧ E.w + E.sz ≤ bl.length ∧ (bl.drop E.w).take E.sz = E.cs)
    (hup : ∀ p, σ.lv[s.top]? = some p → ∃ x, p.cs[E.o]? = some x ∧ slen x = some E.n ∧ (E.j < E.n → x = .sl E.b 0 E.n ∧ E.w = E.j * E.sz))
    (hsaid : Said C.flex (fun i => i < L0) H0 E.cs plE vsE) (hfr : FRh H0 s.cur out (σ.lv ++ [E]) sf fr) (hk : WKeep L0 H0 H') (ho : OutAt L0 H' out bs) (hb : bs = o1 ++ encs C.flex (plE.take k) vsE) (hbd : o1.length + (encs C.flex plE vsE).length + 8 ≤ 1099511627776) :
    WOK C H0 L0 o1 { s with fr := sf, lv := s.lv ++ [(o, sz)], pend := none, exp := s.exp ++ [plE], k := k } { fr := fr, H := H', lv := σ.lv ++ [E], out := out, bs := bs, vs := σ.vs ++ [vsE] } := by
  have htop : (s.lv ++ [(o, sz)]).length - 1 = σ.lv.length := by simp [h.lvl]
  have hpos := h.pos
  have htop0 : s.top = σ.lv.length - 1 := by unfold WS.top; rw [h.lvl]
  refine ⟨hfr, by simp [h.lvl], by simp [h.exl], by simp [h.vsl], by simp, fun l e he => ?_, fun l p e hp he => ?_, fun l e pl vs he hpl hvs => ?_, fun n hn => ?_, hk, h.l0, ho, fun e pl vs he hpl hvs => ?_, fun pl vs hpl hvs => ?_⟩
  · have he' : (σ.lv ++ [E])[l]? = some e := he
    show (s.lv ++ [(o, sz)])[l]? = _ ∧ _
    by_cases hl : l < σ.lv.length
    · rw [List.getElem?_append_left hl] at he'
      rw [List.getElem?_append_left (by rw [h.lvl]; exact hl)]
      exact h.lv l e he'
    · have := (List.getElem?_eq_some_iff.1 he').1
      simp at this
      obtain rfl : l = σ.lv.length := by omega
      simp at he'
      subst he'
      rw [← h.lvl]
      simp [hEo, hEs]
      rw [← hEs]
      exact hE
  · have he' : (σ.lv ++ [E])[l + 1]? = some e := he
    have hp' : (σ.lv ++ [E])[l]? = some p := hp
    by_cases hl : l + 1 < σ.lv.length
    · rw [List.getElem?_append_left hl] at he'
      rw [List.getElem?_append_left (by omega)] at hp'
      exact h.up l p e hp' he'
    · have := (List.getElem?_eq_some_iff.1 he').1
      simp at this
      have hll : l + 1 = σ.lv.length := by omega
      rw [hll] at he'
      simp at he'
      subst he'
      rw [List.getElem?_append_left (by omega)] at hp'
      exact hup p (by rw [htop0, ← hll]; exact hp')
  · have he' : (σ.lv ++ [E])[l]? = some e := he
    have hpl' : (s.exp ++ [plE])[l]? = some pl := hpl
    have hvs' : (σ.vs ++ [vsE])[l]? = some vs := hvs
    by_cases hl : l < σ.lv.length
    · rw [List.getElem?_append_left hl] at he'
      rw [List.getElem?_append_left (by rw [h.exl]; exact hl)] at hpl'
      rw [List.getElem?_append_left (by rw [h.vsl]; exact hl)] at hvs'
      exact h.said l e pl vs he' hpl' hvs'
    · have := (List.getElem?_eq_some_iff.1 he').1
      simp at this
      obtain rfl : l = σ.lv.length := by omega
      simp at he'
      rw [← h.exl] at hpl'
      rw [← h.vsl] at hvs'
      simp at hpl' hvs'
      subst he' hpl' hvs'
      exact hsaid
  · obtain ⟨e, e1, e2⟩ := h.ver n hn
    exact ⟨e, by show (σ.lv ++ [E])[0]? = _; rw [List.getElem?_append_left hpos]; exact e1, e2⟩
  · have hpl' : (s.exp ++ [plE])[(s.lv ++ [(o, sz)]).length - 1]? = some pl := hpl
    have hvs' : (σ.vs ++ [vsE])[(s.lv ++ [(o, sz)]).length - 1]? = some vs := hvs
    rw [htop] at hpl' hvs'
    rw [← h.exl] at hpl'
    rw [← h.vsl] at hvs'
    simp at hpl' hvs'
    subst hpl' hvs'
    exact ⟨[], rfl, by simp [hb]⟩
  · have hpl' : (s.exp ++ [plE])[(s.lv ++ [(o, sz)]).length - 1]? = some pl := hpl
    have hvs' : (σ.vs ++ [vsE])[(s.lv ++ [(o, sz)]).length - 1]? = some vs := hvs
    rw [htop] at hpl' hvs'
    rw [← h.exl] at hpl'
    rw [← h.vsl] at hvs'
    simp at hpl' hvs'
    subst hpl' hvs'
    exact hbd

/-- The frame at the head of the loop but for the place in the list. -/
theorem turn_fr {sf s2f : WF} {fr : List AV} {it l c c2 : Nat} {out : AV} {lv lv' : List WL} {sv : WV} (hlen : sf.length = s2f.length) (h : FRh H0 c2 out lv s2f fr) (hsame : ∀ t v, t ≠ it → sf[t]? = some v → v = .u ∨ s2f[t]? = some (renW c c2 v)) (hcalm : ∀ t v, t ≠ it → sf[t]? = some v → v.calm l = true)
    (hl : ∀ k, k < l → lv'[k]? = lv[k]?) (hit : ∀ a, fr[it]? = some a → denW H0 c out lv' sv a) : FRh H0 c out lv' (sf.set it sv) fr := by
  refine ⟨by simp [hlen, h.1], fun t v a hv ha => ?_⟩
  rw [List.getElem?_set] at hv
  by_cases ht : it = t
  · subst ht
    rw [if_pos rfl] at hv
    split at hv
    · cases hv; exact hit a ha
    · cases hv
  · rw [if_neg ht] at hv
    rcases hsame t v (fun e => ht e.symm) hv with rfl | h2
    · trivial
    · have d := h.2 t _ a h2 ha
      have hc := hcalm t v (fun e => ht e.symm) hv
      unfold renW at d
      split at d
      · rename_i e
        subst e
        intro _
        exact d rfl
      · rename_i hne
        cases v with
        | out k => intro hk; subst hk; exact absurd rfl hne
        | _ => exact denW_lv hl hc (denW_cur (fun c => by simp) d)

theorem loopW_sound {b : Code} {it id o sz l : Nat} {f : F} {hd : WF} {s2 s3 : WS} (hσ : WOK C H0 L0 o0 s σ) (hl : l = s.lv.length) (hsz : 0 < sz)
    (hbody : ∀ (o1 : B) (σ1 : WSta), WOK C H0 L0 o1 { s with fr := hd, lv := s.lv ++ [(o, sz)], pend := none, exp := s.exp ++ [unF f], k := 0 } σ1 → ∃ σ2, RUs (flat b) σ1.fr σ1.H (.normal, σ2.fr, σ2.H) ∧ WOK C H0 L0 o1 s2 σ2 ∧ WStep L0 { s with fr := hd, lv := s.lv ++ [(o, sz)], pend := none, exp := s.exp ++ [unF f], k := 0 } s2 σ1 σ2)
    (hexit : ∀ (o1 : B) (σ1 : WSta), WOK C H0 L0 o1 { s with fr := hd.set it (.fin l), lv := s.lv ++ [(o, sz)], pend := none, exp := s.exp ++ [[]], k := 0 } σ1 → ∃ σ2, RUs (flat b) σ1.fr σ1.H (.exit id, σ2.fr, σ2.H) ∧ WOK C H0 L0 o1 s3 σ2 ∧ WStep L0 { s with fr := hd.set it (.fin l), lv := s.lv ++ [(o, sz)], pend := none, exp := s.exp ++ [[]], k := 0 } s3 σ1 σ2)
    (hidx : hd[it]? = some (.idx l)) (hnx : s2.fr[it]? = some (.nxt l)) (hp2 : s2.pend = none) (hlv2 : s2.lv = s.lv ++ [(o, sz)]) (hex2 : s2.exp = s.exp ++ [unF f]) (hk2 : s2.k = (unF f).length) (hfl : s2.fr.length = hd.length) (hp3 : s3.pend = none) (hlv3 : s3.lv = s.lv ++ [(o, sz)]) (hex3 : s3.exp = s.exp ++ [[]])
    (hsame : ∀ t v, t ≠ it → hd[t]? = some v → v = .u ∨ s2.fr[t]? = some (renW s.cur s2.cur v)) (hcalm : ∀ t v, t ≠ it → hd[t]? = some v → v.calm l = true)
    {us : List V} {p : WL} {x : AV} (hp : σ.lv[s.top]? = some p) (hx : p.cs[o]? = some x) (hlen : slen x = some us.length) (hN : us.length < 2147483648)
    (hus : 0 < us.length → ∃ nb ty bl, x = .sl nb 0 us.length ∧ nb < L0 ∧ H0[nb]? = some (.cells ty .row bl) ∧ bl.length = us.length * sz ∧ ∀ (j : Nat) (y : V), us[j]? = some y → Rep (fun i => i < L0) H0 f y ((bl.drop (j * sz)).take sz)) (hok : ∀ y ∈ us, ok C.flex f y) {ob : B} (hbd : ob.length + (us.flatMap (enc C.flex f)).length + 8 ≤ 1099511627776) :
    ∀ (k j : Nat) (fr : List AV) (H : Heap) (out : AV) (bs : B), j + k = us.length → (∀ E : WL, (j < us.length → E.j = j ∧ E.n = us.length) → (j = us.length → E.n = us.length) → FRh H0 s.cur out (σ.lv ++ [E]) (hd.set it (if j < us.length then .idx l else .fin l)) fr) → WKeep L0 H0 H → OutAt L0 H out bs → bs = ob ++ (us.take j).flatMap (enc C.flex f) →
      ∃ σ3, RU P NS (.loop b) fr H (.exit id, σ3.fr, σ3.H) ∧ (∃ E, σ3.lv = σ.lv ++ [E]) ∧ WOK C H0 L0 (ob ++ us.flatMap (enc C.flex f)) s3 σ3 ∧ WKeep L0 H σ3.H ∧ σ3.bs = ob ++ us.flatMap (enc C.flex f)
  | 0, j, fr, H, out, bs, hj, hfr, hk, ho, hbs => by
    obtain rfl : j = us.length := by omega
    have hpush := hσ.push (o := o) (sz := sz) (k := 0) (E := ⟨0, 0, sz, [], o, us.length, us.length⟩) (plE := []) (vsE := []) (sf := hd.set it (.fin l)) (fr := fr) (H' := H) (out := out) (o1 := bs) (bs := bs) rfl rfl (fun h => absurd h (Nat.lt_irrefl _)) (fun p' hp' => by
      rw [hp] at hp'; cases hp'
      exact ⟨x, hx, hlen, fun h => absurd h (Nat.lt_irrefl _)⟩) (fun i e o hi => by simp at hi) (by
      have := hfr ⟨0, 0, sz, [], o, us.length, us.length⟩ (fun h => absurd h (Nat.lt_irrefl _)) (fun _ => rfl)
      rw [if_neg (Nat.lt_irrefl _)] at this
      exact this) hk ho (by simp [encs]) (by rw [hbs, List.take_length]; simp only [encs, List.length_append, List.length_nil]; omega)
    obtain ⟨σ3, q1, q2, q3⟩ := hexit _ _ hpush
    have hbs' : bs = ob ++ us.flatMap (enc C.flex f) := by rw [hbs]; simp
    refine ⟨σ3, RU.loopx (RUs.code q1) (by simp), ⟨_, q3.lv⟩, by rw [← hbs']; exact q2, q3.keep, ?_⟩
    have hlv3' : σ3.lv = σ.lv ++ [⟨0, 0, sz, [], o, us.length, us.length⟩] := q3.lv
    have hvs3 : σ3.vs = σ.vs ++ [[]] := q3.vs
    have htop3 : s3.top = σ.lv.length := by unfold WS.top; rw [hlv3]; simp [hσ.lvl]
    obtain ⟨pp, pp1, pp2⟩ := q2.bytes ⟨0, 0, sz, [], o, us.length, us.length⟩ [] [] (by rw [htop3, hlv3']; simp) (by rw [htop3, hex3, ← hσ.exl]; simp) (by rw [htop3, hvs3, ← hσ.vsl]; simp)
    rw [hp3] at pp1
    simp [pendB] at pp1
    subst pp1
    rw [pp2, ← hbs']
    simp [encs]
  | k + 1, j, fr, H, out, bs, hj, hfr, hk, ho, hbs => by
    have hjl : j < us.length := by omega
    obtain ⟨nb, ty, bl, rfl, hnb, hblk, hbll, hreps⟩ := hus (by omega)
    have hy : us[j]? = some us[j] := by simp [hjl]
    have hrep := hreps j _ hy
    obtain ⟨vs, hv1, hv2, hv3⟩ := rep_said hrep (hok _ (List.getElem_mem hjl))
    have hfit := mul_next (sz := sz) hjl
    have hsplit : us.flatMap (enc C.flex f) = (us.take j).flatMap (enc C.flex f) ++ (enc C.flex f us[j] ++ (us.drop (j + 1)).flatMap (enc C.flex f)) := by
      have hu : us = us.take j ++ us[j] :: us.drop (j + 1) := by rw [← List.drop_eq_getElem_cons hjl, List.take_append_drop]
      conv => lhs; rw [hu]
      rw [List.flatMap_append, List.flatMap_cons]
    have hbl : bs.length + (enc C.flex f us[j]).length + 8 ≤ 1099511627776 := by
      rw [hbs, List.length_append]
      rw [hsplit] at hbd
      simp only [List.length_append] at hbd
      omega
    have hpush := hσ.push (o := o) (sz := sz) (k := 0) (E := ⟨nb, j * sz, sz, (bl.drop (j * sz)).take sz, o, j, us.length⟩) (plE := unF f) (vsE := vs) (sf := hd) (fr := fr) (H' := H) (out := out) (o1 := bs) (bs := bs) rfl rfl
      (fun _ => ⟨by simp; omega, hnb, ty, .row, bl, hblk, by show j * sz + sz ≤ bl.length; omega, rfl⟩) (fun p' hp' => by
      rw [hp] at hp'; cases hp'
      exact ⟨_, hx, hlen, fun _ => ⟨rfl, rfl⟩⟩) hv2 (by
      have := hfr ⟨nb, j * sz, sz, (bl.drop (j * sz)).take sz, o, j, us.length⟩ (fun _ => ⟨rfl, rfl⟩) (fun _ => rfl)
      rw [if_pos hjl] at this
      have hset : hd.set it (.idx l) = hd := by
        apply List.ext_getElem?
        intro t
        rw [List.getElem?_set]
        split
        · rename_i e; subst e
          have hlt := (List.getElem?_eq_some_iff.1 hidx).1
          first | exact hidx.symm | (rw [if_pos hlt]; exact hidx.symm)
        · rfl
      rw [hset] at this
      exact this) hk ho (by simp [encs]) (by rw [← hv3]; omega)
    obtain ⟨σ2, q1, q2, q3⟩ := hbody _ _ hpush
    have hlv2' : σ2.lv = σ.lv ++ [⟨nb, j * sz, sz, (bl.drop (j * sz)).take sz, o, j, us.length⟩] := q3.lv
    have hvs2 : σ2.vs = σ.vs ++ [vs] := q3.vs
    have htop2 : s2.top = σ.lv.length := by unfold WS.top; rw [hlv2]; simp [hσ.lvl]
    obtain ⟨pp, pp1, pp2⟩ := q2.bytes ⟨nb, j * sz, sz, (bl.drop (j * sz)).take sz, o, j, us.length⟩ (unF f) vs (by rw [htop2, hlv2']; simp) (by rw [htop2, hex2, ← hσ.exl]; simp) (by rw [htop2, hvs2, ← hσ.vsl]; simp)
    rw [hp2] at pp1
    simp [pendB] at pp1
    subst pp1
    rw [hk2, List.take_length, List.append_nil, ← hv3] at pp2
    obtain ⟨σ3, w1, w2, w3, w4, w5⟩ := loopW_sound hσ hl hsz hbody hexit hidx hnx hp2 hlv2 hex2 hk2 hfl hp3 hlv3 hex3 hsame hcalm hp hx hlen hN hus hok hbd k (j + 1) σ2.fr σ2.H σ2.out σ2.bs (by omega) (fun E hE1 hE2 => by
      refine turn_fr (lv := σ2.lv) hfl.symm q2.fr hsame hcalm (fun k hk => ?_) (fun a ha => ?_)
      · rw [hlv2', List.getElem?_append_left (by rw [← hσ.lvl, ← hl]; exact hk), List.getElem?_append_left (by rw [← hσ.lvl, ← hl]; exact hk)]
      · obtain ⟨e', e1, rfl⟩ := q2.fr.2 it _ a hnx ha
        have hE' : (σ.lv ++ [E])[l]? = some E := by rw [hl, hσ.lvl]; simp
        have he' : e'.j = j := by
          rw [hlv2', hl, hσ.lvl] at e1
          simp at e1
          rw [← e1]
        rw [he']
        by_cases hjj : j + 1 < us.length
        · rw [if_pos hjj]
          obtain ⟨g1, g2⟩ := hE1 hjj
          exact ⟨E, hE', by rw [g1], by rw [g1, g2]; exact hjj, by rw [g2]; omega⟩
        · rw [if_neg hjj]
          exact ⟨E, hE', by rw [hE2 (by omega), show j + 1 = us.length by omega]⟩) (hk.trans q3.keep) q2.out (by
      rw [pp2, hbs, take_snoc hy, List.flatMap_append, List.flatMap_cons, List.flatMap_nil, List.append_nil, List.append_assoc])
    exact ⟨σ3, RU.loop (RUs.code q1) w1, w2, w3, q3.keep.trans w4, w5⟩
end
end Go.Proofs.YtjncijimikfdnaaDoor.Rd

/-
  THE WRITING CODE's CHECKER is sound, for a whole function.
-/
namespace Go.Proofs.YtjncijimikfdnaaDoor.Rd
set_option linter.constructorNameAsVariable false
set_option linter.unusedVariables false
set_option linter.unusedSimpArgs false
open Go Go.Proofs.YtjncijimikfdnaaDoor.Ax Go.Proofs.YtjncijimikfdnaaDoor.Wire
set_option linter.unusedVariables false
set_option linter.unusedSimpArgs false
set_option maxRecDepth 100000

theorem headW_get {l it : Nat} {b : Code} {o c : Nat} {fr : WF} {t : Nat} {v : WV} (ht : t ≠ it) (h : (headW l it b o c fr)[t]? = some v) : (t = o ∧ v = .out c) ∨ v = .u ∨ (fr[t]? = some v ∧ ∀ k, v ≠ .out k) := by
  unfold headW at h
  rw [List.getElem?_set, if_neg (fun e => ht e.symm), List.getElem?_set] at h
  split at h
  · rename_i e
    split at h
    · cases h; exact .inl ⟨e.symm, rfl⟩
    · cases h
  · have key : ∀ (ds : List Nat) (fr : WF), ((ds.foldl (fun fr t => fr.set t WV.u) fr)[t]?) = some v → v = .u ∨ fr[t]? = some v := by
      intro ds
      induction ds with
      | nil => intro fr h; exact .inr h
      | cons d ds ih =>
        intro fr h
        rcases ih _ h with h | h
        · exact .inl h
        · rw [List.getElem?_set] at h
          split at h
          · split at h
            · cases h; exact .inl rfl
            · cases h
          · exact .inr h
    simp only [List.getElem?_map, Option.map_eq_some_iff] at h
    obtain ⟨w, hw, rfl⟩ := h
    by_cases hu : noOut w = .u
    · exact .inr (.inl hu)
    · have hwn : noOut w = w ∧ ∀ k, w ≠ .out k := by
        cases w <;> first | exact ⟨rfl, fun k => by simp⟩ | exact absurd rfl hu
      obtain ⟨e1, e2⟩ := hwn
      rw [e1] at hu ⊢
      have key2 : ∀ (ds : List Nat) (fr : WF), ((ds.foldl (fun fr t => fr.set t WV.u) fr)[t]?) = some w → w = .u ∨ fr[t]? = some w := by
        intro ds
        induction ds with
        | nil => intro fr h; exact .inr h
        | cons d ds ih =>
          intro fr h
          rcases ih _ h with h | h
          · exact .inl h
          · rw [List.getElem?_set] at h
            split at h
            · split at h
              · cases h; exact .inl rfl
              · cases h
            · exact .inr h
      rcases key2 _ _ hw with h | h
      · exact absurd h hu
      · exact .inr (.inr ⟨h, e2⟩)
theorem headW_length (l it : Nat) (b : Code) (o c : Nat) (fr : WF) : (headW l it b o c fr).length = fr.length := by
  unfold headW
  have : ∀ (ds : List Nat) (fr : WF), (ds.foldl (fun fr t => fr.set t WV.u) fr).length = fr.length := by
    intro ds
    induction ds with
    | nil => intro fr; rfl
    | cons d ds ih => intro fr; simp only [List.foldl_cons]; rw [ih]; simp
  simp [this]
theorem headW_it {l it : Nat} {b : Code} {o c : Nat} {fr : WF} (h : it < fr.length) : (headW l it b o c fr)[it]? = some (.idx l) := by
  have hl := headW_length l it b o c fr
  unfold headW at hl ⊢
  rw [List.length_set] at hl
  rw [List.getElem?_set_self (by rw [hl]; exact h)]

theorem chkW_sound {C : Cfg} {prim : List (FuncId × WPrim)} (hP : WPrims C prim) {H0 : Heap} {L0 : Nat} (n : Nat) : ∀ cs s s', chkW C prim n cs s = some s' → ∀ o0 σ, WOK C H0 L0 o0 s σ → ∃ σ', RUs cs σ.fr σ.H (.normal, σ'.fr, σ'.H) ∧ WOK C H0 L0 o0 s' σ' ∧ WStep L0 s s' σ σ' := by
  induction n with
  | zero => intro cs s s' h; cases h
  | succ n ih =>
    intro cs s s' h o0 σ ok
    have h : chkWStep C prim (chkW C prim n) cs s = some s' := h
    have flatc : ∀ {c d : Code} {rest : List Code} {s s' : WS} {σ : WSta}, (∀ fr1 H1, RU P NS c σ.fr σ.H (.normal, fr1, H1) → RU P NS d σ.fr σ.H (.normal, fr1, H1)) → (∃ σ', RUs (flat c ++ rest) σ.fr σ.H (.normal, σ'.fr, σ'.H) ∧ WOK C H0 L0 o0 s' σ' ∧ WStep L0 s s' σ σ') → ∃ σ', RUs (d :: rest) σ.fr σ.H (.normal, σ'.fr, σ'.H) ∧ WOK C H0 L0 o0 s' σ' ∧ WStep L0 s s' σ σ' := by
      intro c d rest s s' σ hn ⟨σ', h1, h2, h3⟩
      rcases RUs.split h1 with ⟨fr1, H1, p1, p2⟩ | ⟨p1, _⟩
      · exact ⟨σ', RUs.cons (hn _ _ (RUs.code p1)) p2, h2, h3⟩
      · exact absurd rfl p1
    unfold chkWStep at h
    split at h
    · simp at h; subst h
      exact ⟨σ, rfl, ok, .refl _ _ _⟩
    · rename_i idr ops rest h0
      cases h2 : opsW C prim ops.toList ops.toList s with
      | none => rw [h2] at h; cases h
      | some s2 =>
        rw [h2] at h
        simp only [Option.bind_some] at h
        obtain ⟨σ2, q1, q2, q3⟩ := opsW_sound hP (ops := ops) _ h2 ok
        obtain ⟨σ3, w1, w2, w3⟩ := ih _ _ _ h o0 σ2 q2
        exact ⟨σ3, RUs.cons (RU.region q1) w1, w2, q3.trans w3⟩
    · split at h
      · rename_i hc
        obtain ⟨xa, e1, rfl⟩ := evW_sound ok.fr hc
        exact flatc (fun _ _ hr => RU.condT e1 hr) (ih _ _ _ h o0 σ ok)
      · rename_i hc
        obtain ⟨xa, e1, rfl⟩ := evW_sound ok.fr hc
        exact flatc (fun _ _ hr => RU.condF e1 hr) (ih _ _ _ h o0 σ ok)
      · cases h
    · rename_i id b rest h0
      split at h
      rotate_left
      · cases h
      rename_i o null it sz null' f o' hpd hit hpl
      simp only at h
      split at h
      rotate_left
      · cases h
      rename_i s2 j s3 hb hx
      split at h
      rotate_left
      · cases h
      rename_i hc
      obtain ⟨rfl, rfl, rfl, c4, c5, c6, c7, c8, c9, c10, c11, c12, c13, c14, c15, c16, c17, c18, c19, c20, c21, c22, c23, c24, c25, c26⟩ := hc
      obtain ⟨e, pl, vs, t1, t2, t3, t4⟩ := ok.top3
      rw [t4] at hpl
      have hsd := ok.said _ e pl vs t1 t2 t3
      obtain ⟨v, x, kk, v1, hx1, hlr, hoe, hsl, hk31, hmat⟩ := said_list hsd hpl
      obtain ⟨p, p1, p2⟩ := ok.bytes e pl vs t1 t2 t3
      rw [hpd] at p1
      simp only [pendB, hx1, hsl, Option.bind_some, Option.map_some, Option.some.injEq] at p1
      have henc := encs_take C.flex hpl v1
      have hfit := encs_fit C.flex pl vs (s.k + 1)
      have hbnd := ok.bound pl vs t2 t3
      -- the elements
      have hus : ∃ us : List V, kk = us.length ∧ Ev.enc C.flex (.list sz null' f) v = p ++ us.flatMap (enc C.flex f) ∧ (∀ y ∈ us, Wire.ok C.flex f y) ∧ (0 < us.length → ∃ nb ty bl, x = .sl nb 0 us.length ∧ nb < L0 ∧ H0[nb]? = some (.cells ty .row bl) ∧ bl.length = us.length * sz ∧ ∀ (j : Nat) (y : V), us[j]? = some y → Rep (fun i => i < L0) H0 f y ((bl.drop (j * sz)).take sz)) := by
        cases v with
        | l us =>
          obtain ⟨rfl, hz⟩ := hmat
          refine ⟨us, rfl, ?_, hoe.2, fun hu => ?_⟩
          · show cnt C.flex 4 us.length ++ us.flatMap (enc C.flex f) = _
            rw [← p1]
            cases hn : null' with
            | false => rfl
            | true => rw [hz hn]; rfl
          · rcases hlr with ⟨rfl, _⟩ | ⟨nb, ty, bl, a0, a1, a2, a3, a4, a5⟩
            · simp at hu
            · exact ⟨nb, ty, bl, a2, a1, a3, a4, a5⟩
        | nul =>
          obtain ⟨_, hn, rfl⟩ := hmat
          simp [slen] at hsl
          subst hsl
          refine ⟨[], rfl, ?_, fun y hy => by simp at hy, fun hu => by simp at hu⟩
          rw [← p1, hn]
          show cnt0 C.flex 4 = _
          simp [isS0]
        | _ => exact hlr.elim
      obtain ⟨us, rfl, hev, huok, hurep⟩ := hus
      have hll : s.lv.length = σ.lv.length := ok.lvl
      have hsame : ∀ t v, t ≠ it → (headW s.lv.length it b (outSlot s.cur s.fr) s.cur s.fr)[t]? = some v → v = .u ∨ s2.fr[t]? = some (renW s.cur s2.cur v) := by
        intro t v ht hv
        have hv2 : ((headW s.lv.length it b (outSlot s.cur s.fr) s.cur s.fr).set it .u)[t]? = some v := by rw [List.getElem?_set, if_neg (fun e => ht e.symm)]; exact hv
        rw [List.all_eq_true] at c17
        have hlt := (List.getElem?_eq_some_iff.1 hv).1
        have hb2 : s2.fr[t]? = some (s2.fr[t]'(by rw [c16]; exact hlt)) := by simp
        have := c17 (v, s2.fr[t]'(by rw [c16]; exact hlt)) (by
          rw [List.mem_iff_getElem?]
          exact ⟨t, by rw [List.getElem?_zip_eq_some]; exact ⟨hv2, hb2⟩⟩)
        simp only [Bool.or_eq_true, beq_iff_eq] at this
        rcases this with h | h
        · exact .inl h
        · exact .inr (by rw [hb2, h])
      have hcalm : ∀ t v, t ≠ it → (headW s.lv.length it b (outSlot s.cur s.fr) s.cur s.fr)[t]? = some v → v.calm s.lv.length = true := by
        intro t v ht hv
        have hv2 : ((headW s.lv.length it b (outSlot s.cur s.fr) s.cur s.fr).set it .u)[t]? = some v := by rw [List.getElem?_set, if_neg (fun e => ht e.symm)]; exact hv
        rw [List.all_eq_true] at c18
        exact c18 v (List.mem_of_getElem? hv2)
      have hob : σ.bs.length + (us.flatMap (enc C.flex f)).length + 8 ≤ 1099511627776 := by
        rw [henc, List.length_append, hev, List.length_append] at hfit
        rw [p2]
        simp only [List.length_append]
        omega
      obtain ⟨σ3, w1, ⟨E, wE⟩, w2, w3, w4⟩ := loopW_sound (b := b) (it := it) (id := j) (o := o') (sz := sz) (l := s.lv.length) (f := f) (s2 := s2) (s3 := s3) ok rfl c5
        (fun o1 σ1 ok1 => ih _ _ _ hb o1 σ1 ok1) (fun o1 σ1 ok1 => exitW_sound hx ok1) (headW_it c10) c11 c12 c13 c14 c15 c16 c21 c20 c22 hsame hcalm t1 hx1 hsl hk31 hurep huok (ob := σ.bs) hob
        us.length 0 σ.fr σ.H σ.out σ.bs (by omega) (fun E hE1 hE2 => by
          refine ⟨by rw [List.length_set, headW_length]; exact ok.fr.1, fun t v a hv ha => ?_⟩
          rw [List.getElem?_set] at hv
          by_cases ht : it = t
          · subst ht
            rw [if_pos rfl] at hv
            have ha0 : a = .i .i64 0 := ok.fr.2 it _ a c7 ha
            have hE' : (σ.lv ++ [E])[s.lv.length]? = some E := by rw [hll]; simp
            split at hv
            · cases hv
              split
              · rename_i hu
                obtain ⟨g1, g2⟩ := hE1 hu
                exact ⟨E, hE', by rw [ha0, g1]; rfl, by rw [g1, g2]; exact hu, by rw [g2]; omega⟩
              · rename_i hu
                exact ⟨E, hE', by rw [ha0, hE2 (by omega), show us.length = 0 by omega]; rfl⟩
            · cases hv
          · rw [if_neg ht] at hv
            rcases headW_get (fun e => ht e.symm) hv with ⟨rfl, rfl⟩ | rfl | ⟨h1, h2⟩
            · exact fun _ => ok.fr.2 _ _ a c8 ha rfl
            · trivial
            · exact denW_pre [E] (ok.fr.2 t v a h1 ha)) ok.keep ok.out (by simp)
      have okT : WOK C H0 L0 o0 { s with fr := s3.fr.map (lowW s.lv.length), pend := none, k := s.k + 1 } { fr := σ3.fr, H := σ3.H, lv := σ.lv, out := σ3.out, bs := σ3.bs, vs := σ.vs } := by
        refine ⟨⟨by simp [w2.fr.1], fun t v a hv ha => ?_⟩, ok.lvl, ok.exl, ok.vsl, ok.pos, ok.lv, ok.up, ok.said, ok.ver, w2.keep, ok.l0, w2.out, fun e' pl' vs' r1 r2 r3 => ?_, ok.bound⟩
        · simp only [List.getElem?_map, Option.map_eq_some_iff] at hv
          obtain ⟨v', hv', rfl⟩ := hv
          unfold lowW
          split
          · rename_i hcm
            have d := w2.fr.2 t v' a hv' ha
            rw [wE, c19] at d
            exact denW_lv (fun k hk => by rw [List.getElem?_append_left (by rw [← hll]; exact hk)]) hcm d
          · trivial
        · have r1 : σ.lv[s.top]? = some e' := r1
          have r2 : s.exp[s.top]? = some pl' := r2
          have r3 : σ.vs[s.top]? = some vs' := r3
          rw [t1] at r1; cases r1
          rw [t2] at r2; cases r2
          rw [t3] at r3; cases r3
          refine ⟨[], rfl, ?_⟩
          show σ3.bs = _
          rw [w4, henc, hev, p2]
          simp
      obtain ⟨σ4, x1, x2, x3⟩ := ih _ _ _ h o0 _ okT
      refine ⟨σ4, RUs.cons (RU.block0 w1) x1, x2, ⟨x3.lv, x3.vs, x3.slv, x3.exp, x3.ver, ?_, w3.trans x3.keep⟩⟩
      have hfl3 : s3.fr.length = s.fr.length := c26
      have := x3.frl
      simp [hfl3] at this
      exact this
    · exact flatc (fun _ _ hr => RU.blockN hr) (ih _ _ _ h o0 σ ok)
    · cases h

theorem chkWTop_sound {C : Cfg} {prim : List (FuncId × WPrim)} (hP : WPrims C prim) {fn : Func} {f : FuncId} {sz : Nat} {ver : Option Int} {pl : List (Ev × Nat)} (h : chkWTop C prim fn sz ver pl = true) (hf : P.funcs[f]? = some fn) {H : Heap} {mb : Nat} {ty : TypeId} {kn : Kn} {cs : List AV} {vs : List V}
    (hm : H[mb]? = some (.cells ty kn cs)) (hsz : cs.length = sz) (hver : ∀ n, ver = some n → cs[0]? = some (.i .i16 n)) (hsaid : Said C.flex (fun i => i < H.length) H cs pl vs) (hbd : (encs C.flex pl vs).length + 8 ≤ 1099511627776) (hns : noNS f = true) :
    ∃ out H', CA P NS f [.p mb 0, .s0] H (out, H') ∧ OutAt H.length H' out (encs C.flex pl vs) ∧ WKeep H.length H H' := by
  unfold chkWTop at h
  split at h
  rotate_left
  · cases h
  rename_i code hcode
  simp only at h
  split at h
  rotate_left
  · cases h
  rename_i s hlast hchk
  simp only [decide_eq_true_eq] at h
  obtain ⟨c1, c2, c3, c4, c5, c6, c7⟩ := h
  have hmb := (List.getElem?_eq_some_iff.1 hm).1
  have ok : WOK C H H.length [] { fr := [.ptr 0 0, .out 0] ++ List.replicate (fn.ntmps - 2) .u, lv := [(0, sz)], ver := ver, cur := 0, pend := none, exp := [pl], k := 0 } { fr := [.p mb 0, .s0] ++ List.replicate (fn.ntmps - 2) (.t []), H := H, lv := [⟨mb, 0, sz, cs, 0, 0, 1⟩], out := .s0, bs := [], vs := [vs] } := by
    refine ⟨⟨by simp, fun t v a hv ha => ?_⟩, rfl, rfl, rfl, by simp, fun l e he => ?_, fun l p e hp he => ?_, fun l e pl' vs' he hpl hvs => ?_, fun n hn => ⟨_, rfl, hver n hn⟩, .refl _ _, Nat.le_refl _, .inl ⟨rfl, rfl⟩, fun e pl' vs' he hpl hvs => ?_, fun pl' vs' hpl hvs => ?_⟩
    · match t, hv, ha with
      | 0, hv, ha => simp at hv ha; subst hv; subst ha; exact ⟨_, rfl, Nat.zero_lt_one, rfl⟩
      | 1, hv, ha => simp at hv ha; subst hv; subst ha; exact fun _ => rfl
      | t + 2, hv, ha =>
        simp [List.getElem?_replicate] at hv
        rw [← hv.2]; trivial
    · cases l with
      | zero =>
        simp at he
        subst he
        exact ⟨rfl, fun _ => ⟨hsz, hmb, ty, kn, cs, hm, by simp [hsz], by simp [← hsz]⟩⟩
      | succ l => simp at he
    · simp at he
    · cases l with
      | zero =>
        simp at he hpl hvs
        subst he hpl hvs
        exact hsaid
      | succ l => simp at he
    · simp [WS.top] at he hpl hvs
      subst he hpl hvs
      exact ⟨[], rfl, by simp [encs]⟩
    · simp [WS.top] at hpl hvs
      subst hpl hvs
      simpa using hbd
  obtain ⟨σ', q1, q2, q3⟩ := chkW_sound hP 400 _ _ _ hchk [] _ ok
  have hlv : σ'.lv = [⟨mb, 0, sz, cs, 0, 0, 1⟩] := q3.lv
  have hvs : σ'.vs = [vs] := q3.vs
  obtain ⟨a, a1, a2⟩ := FRW.at_ q2.fr c1
  have ha : a = σ'.out := a2 rfl
  subst ha
  obtain ⟨p, p1, p2⟩ := q2.bytes ⟨mb, 0, sz, cs, 0, 0, 1⟩ pl vs (by unfold WS.top; rw [c4, hlv]; rfl) (by unfold WS.top; rw [c4, c3]; rfl) (by unfold WS.top; rw [c4, hvs]; rfl)
  rw [c2] at p1
  simp [pendB] at p1
  subst p1
  rw [c5, List.take_length] at p2
  simp only [List.nil_append, List.append_nil] at p2
  have hres : fn.results.toList = [.tmp C.res] := by
    unfold oneRes at c6
    split at c6
    · rename_i t ht; cases c6; exact ht
    · cases c6
  have hcodes : flat code = (flat code).dropLast ++ [.ret] := by
    have hne : flat code ≠ [] := by intro he; rw [he] at hlast; cases hlast
    have := List.dropLast_concat_getLast hne
    rw [List.getLast?_eq_some_getLast hne] at hlast
    simp at hlast
    rw [hlast] at this
    exact this.symm
  have hrun : RU P NS code ([.p mb 0, .s0] ++ List.replicate (fn.ntmps - 2) (.t [])) H (.ret, σ'.fr, σ'.H) := by
    refine RUs.code (c := code) ?_
    rw [hcodes]
    exact RUs.app q1 (RUs.stop RU.ret (by simp))
  have hr2 : resultsA P σ'.H σ'.fr fn.results.toList = some [σ'.out] := by rw [hres]; simp [resultsA, a1]
  refine ⟨σ'.out, σ'.H, CA.go (fn := fn) (vs := [σ'.out]) hf hcode (.inr rfl) ⟨σ'.fr, hrun, hr2⟩ (NS_none hns _ _), by rw [← p2]; exact q2.out, q3.keep⟩
end Go.Proofs.YtjncijimikfdnaaDoor.Rd

/-
  WRITING: octets put behind what was written.
-/
namespace Go.Proofs.YtjncijimikfdnaaDoor.Rd
set_option linter.constructorNameAsVariable false
set_option linter.unusedVariables false
set_option linter.unusedSimpArgs false
open Go Go.Proofs.YtjncijimikfdnaaDoor.Ax Go.Proofs.YtjncijimikfdnaaDoor.Wire
set_option linter.unusedVariables false
set_option linter.unusedSimpArgs false
set_option maxRecDepth 100000

theorem zeroU : zeroA P 5 = some (.i .u8 0) := by kernel_rfl
theorem elemB : elemA P 22 = some 5 := by kernel_rfl
theorem sizeU : sizeA P 5 = some 1 := by kernel_rfl
theorem bytesU : bytesA P 5 = some 1 := by kernel_rfl
theorem OutAt.lt {L0 : Nat} {H : Heap} {bs : B} {i : Nat} {b : Blk} (h : H[i]? = some b) : i < H.length := (List.getElem?_eq_some_iff.1 h).1
theorem u8s_app (a b : B) : u8s (a ++ b) = u8s a ++ u8s b := by simp [u8s]
/-- Octets behind what was written. -/
theorem ap_bytes {L0 : Nat} {H : Heap} {out x : AV} {bs new : B} {str : Bool} (hL : L0 ≤ H.length) (ho : OutAt L0 H out bs) (hx : firstA H 1 x = some (new.length, u8s new)) (hb : bs.length + new.length ≤ 1099511627776) :
    ∃ out' H', appendA P H 22 str out x = some (out', H') ∧ OutAt L0 H' out' (bs ++ new) ∧ WKeep L0 H H' := by
  have hz : (AV.i IntKind.u8 0).cells.all AV.one = true := rfl
  rcases ho with ⟨rfl, rfl⟩ | ⟨i, hi, rfl, hblk, h0⟩
  · by_cases hn : new.length = 0
    · refine ⟨.s0, H, ?_, .inl ⟨rfl, by simpa using hn⟩, .refl _ _⟩
      unfold appendA
      simp only [elemB, sizeU, bytesU, zeroU]
      rw [if_pos (by refine ⟨by omega, ?_, ?_, fun _ => ?_⟩ <;> first | rfl | trivial | exact ⟨rfl, rfl⟩)]
      simp only [hx, hn, if_true]
    · refine ⟨.sl H.length 0 new.length, H ++ [.cells 5 .row (u8s new)], ?_, .inr ⟨H.length, hL, by simp, by simp, by simp; omega⟩, ⟨fun i hi => by rw [List.getElem?_append_left (by omega)], by simp⟩⟩
      unfold appendA
      simp only [elemB, sizeU, bytesU, zeroU]
      rw [if_pos (by refine ⟨by omega, ?_, ?_, fun _ => ?_⟩ <;> first | rfl | trivial | exact ⟨rfl, rfl⟩)]
      simp only [hx]
      rw [if_neg hn, if_pos ⟨by omega, by omega⟩]
      simp only [newBlk, u8s_one, if_true, Option.map_some]
  · have hil := OutAt.lt (L0 := L0) (bs := bs) hblk
    refine ⟨.sl H.length 0 (bs.length + new.length), H.set i .dead ++ [.cells 5 .row (u8s bs ++ u8s new)], ?_, .inr ⟨H.length, hL, by simp, by simp [u8s_app], by simp; omega⟩, ⟨fun k hk => ?_, by simp⟩⟩
    · unfold appendA
      simp only [elemB, sizeU, bytesU, zeroU]
      rw [if_pos (by refine ⟨by omega, ?_, ?_, fun _ => ?_⟩ <;> first | rfl | trivial | exact ⟨rfl, rfl⟩)]
      simp only [hx, hblk]
      rw [if_pos (by refine ⟨?_, by rw [u8s_length]; omega, by omega, by omega⟩ <;> first | rfl | trivial)]
      have ht : (u8s bs).take (bs.length * 1) = u8s bs := by rw [Nat.mul_one, ← u8s_length bs, List.take_length]
      rw [ht]
      have hall : (u8s bs ++ u8s new).all AV.one = true := by rw [List.all_append, u8s_one, u8s_one]; rfl
      simp only [newBlk, hall, if_true, Option.map_some, List.length_set]
    · rw [List.getElem?_append_left (by simp; omega), List.getElem?_set, if_neg (by omega)]
/-- All stays but what was written; what is written then lies in a new block. -/
structure OKeep (H : Heap) (out : AV) (H' : Heap) (out' : AV) : Prop where
  at_ : ∀ (j : Nat) (b : Blk), H[j]? = some b → (∀ i o n, out = .sl i o n → j ≠ i) → H'[j]? = some b
  new : ∀ i o n, out' = .sl i o n → H.length ≤ i
  len : H.length ≤ H'.length
theorem OKeep.app {H K : Heap} {out : AV} {H' : Heap} {out' : AV} (h : OKeep (H ++ K) out H' out') : OKeep H out H' out' :=
  ⟨fun j b hj ho => h.at_ j b (by rw [List.getElem?_append_left (List.getElem?_eq_some_iff.1 hj).1]; exact hj) ho, fun i o n e => by have := h.new i o n e; simp at this; omega, by have := h.len; simp at this; omega⟩
theorem OKeep.trans {H H' H'' : Heap} {out out' out'' : AV} (h : OKeep H out H' out') (k : OKeep H' out' H'' out'') : OKeep H out H'' out'' :=
  ⟨fun j b hj ho => k.at_ j b (h.at_ j b hj ho) (fun i o n e => by have := h.new i o n e; have := (List.getElem?_eq_some_iff.1 hj).1; omega), fun i o n e => Nat.le_trans h.len (k.new i o n e), Nat.le_trans h.len k.len⟩
theorem OutAt.shape {L0 : Nat} {H : Heap} {out : AV} {bs : B} (h : OutAt L0 H out bs) : out = .s0 ∨ ∃ i n, out = .sl i 0 n := by
  rcases h with ⟨rfl, _⟩ | ⟨i, _, rfl, _⟩
  · exact .inl rfl
  · exact .inr ⟨_, _, rfl⟩
theorem app_keep {H H' : Heap} {out out' x : AV} {str : Bool} {new : B} (h : appendA P H 22 str out x = some (out', H')) (hs : out = .s0 ∨ ∃ i n, out = .sl i 0 n) (hx : firstA H 1 x = some (new.length, u8s new)) (h0 : 0 < new.length ∨ out ≠ .s0) : OKeep H out H' out' := by
  unfold appendA at h
  simp only [elemB, sizeU, bytesU, zeroU] at h
  split at h
  · rw [hx] at h
    simp only at h
    rcases hs with rfl | ⟨i, n, rfl⟩
    · have h0 : 0 < new.length := h0.elim id (fun h => absurd rfl h)
      simp only at h
      rw [if_neg (by omega)] at h
      split at h
      · simp only [newBlk] at h
        split at h
        · simp at h
          obtain ⟨rfl, rfl⟩ := h
          exact ⟨fun j b hj _ => by rw [List.getElem?_append_left (List.getElem?_eq_some_iff.1 hj).1]; exact hj, fun i o n e => by cases e; exact Nat.le_refl _, by simp⟩
        · simp at h
      · cases h
    · simp only at h
      cases hi : H[i]? with
      | none => rw [hi] at h; simp at h
      | some b0 =>
        rw [hi] at h
        split at h
        · split at h
          · simp only [newBlk] at h
            split at h
            · simp at h
              obtain ⟨rfl, rfl⟩ := h
              refine ⟨fun j b hj ho => ?_, fun i o n e => by cases e; exact Nat.le_refl _, by simp⟩
              have := ho i 0 n rfl
              rw [List.getElem?_append_left (by simp; exact (List.getElem?_eq_some_iff.1 hj).1), List.getElem?_set, if_neg (by omega)]
              exact hj
            · simp at h
          · cases h
        · cases h
  · cases h
theorem OutAt.app {L0 : Nat} {H : Heap} {out : AV} {bs : B} (h : OutAt L0 H out bs) (K : Heap) : OutAt L0 (H ++ K) out bs := by
  rcases h with h | ⟨i, h1, h2, h3, h4⟩
  · exact .inl h
  · exact .inr ⟨i, h1, h2, (Grows.app H K).at h3, h4⟩
theorem WKeep.app (L0 : Nat) (H K : Heap) (hL : L0 ≤ H.length) : WKeep L0 H (H ++ K) := ⟨fun i hi => by rw [List.getElem?_append_left (by omega)], by simp⟩
theorem OutAt.noS {L0 : Nat} {H : Heap} {out : AV} {bs : B} (h : OutAt L0 H out bs) : out.isS = false := by
  rcases h with ⟨rfl, _⟩ | ⟨i, _, rfl, _⟩ <;> rfl
theorem first_new (H : Heap) (ty : TypeId) (new : B) (h : 0 < new.length) : firstA (H ++ [.cells ty .row (u8s new)]) 1 (.sl H.length 0 new.length) = some (new.length, u8s new) := by
  have ht : ((u8s new).drop 0).take (new.length * 1) = u8s new := by rw [List.drop_zero, Nat.mul_one, ← u8s_length new, List.take_length]
  simp only [firstA, List.getElem?_concat_length]
  rw [if_pos ⟨by rw [u8s_length]; omega, by rw [ht]; exact u8s_one _⟩, ht]
theorem U8_wrap (n : Int) : AV.i .u8 (IntKind.u8.wrap n) = U8 (UInt8.ofNat (n % 256).toNat) := by
  have h : (UInt8.ofNat (n % 256).toNat).toNat = (n % 256).toNat := u8_ofNat (by omega)
  unfold U8
  rw [h]
  congr 1
  simp [IntKind.wrap, IntKind.signed, IntKind.bits]
  omega
theorem shr (t : TypeId) (k : IntKind) (c : Bool) (a : Int) (n : Nat) (hn : n ≤ k.bits) : binA P .shr t c (.i k a) (.i .u64 (n : Int)) = some (.i k (a / (2 : Int) ^ n)) := by
  show ofSem (Op.shift .shr k a .u64 (n : Int)) = _
  have h : Op.shift .shr k a .u64 (n : Int) = pure (.int k (a.fdiv (2 ^ n))) := by
    unfold Op.shift
    rw [if_neg (by omega)]
    simp only [Int.toNat_natCast, Nat.min_eq_left hn]
  rw [h, Int.fdiv_eq_ediv_of_nonneg _ (by exact Int.le_of_lt (Int.pow_pos (by omega)))]
  rfl
end Go.Proofs.YtjncijimikfdnaaDoor.Rd

