import Derived.Test.YtopfghmpaobnnaaDoorQWxFin
/-
  THE WRITING CODE's CHECKER: the loop over a list.
-/
namespace Go.Proofs.YtopfghmpaobnnaaDoor.Rd
set_option linter.constructorNameAsVariable false
set_option linter.unusedVariables false
set_option linter.unusedSimpArgs false
open Go Go.Proofs.YtopfghmpaobnnaaDoor.Ax Go.Proofs.YtopfghmpaobnnaaDoor.Wire
set_option linter.unusedVariables false
set_option linter.unusedSimpArgs false
set_option maxRecDepth 100000

def FRh (H0 : Heap) (cur : Nat) (out : AV) (lv : List WL) (sf : WF) (fr : List AV) : Prop := sf.length = fr.length ∧ ∀ (t : Nat) (v : WV) (a : AV), sf[t]? = some v → fr[t]? = some a → denW H0 cur out lv v a

theorem denW_lv {H0 : Heap} {cur : Nat} {out : AV} {lv lv' : List WL} {l : Nat} (hl : ∀ k, k < l → lv'[k]? = lv[k]?) {v : WV} (hv : v.calm l = true) {a : AV} (h : denW H0 cur out lv v a) : denW H0 cur out lv' v a := by
  cases v <;> simp only [WV.calm, decide_eq_true_eq] at hv <;> simp only [denW] at h ⊢ <;> first | exact h | (rw [hl _ hv]; exact h)
theorem denW_cur {H0 : Heap} {cur cur' : Nat} {out out' : AV} {lv : List WL} {v : WV} (hv : ∀ c, v ≠ .out c) {a : AV} (h : denW H0 cur out lv v a) : denW H0 cur' out' lv v a := by
  cases v with
  | out c => exact absurd rfl (hv c)
  | _ => exact h
theorem denW_pre {H0 : Heap} {cur : Nat} {out : AV} {lv : List WL} (E : List WL) {v : WV} {a : AV} (h : denW H0 cur out lv v a) : denW H0 cur out (lv ++ E) v a := by
  have hp : ∀ {k : Nat} {e : WL}, lv[k]? = some e → (lv ++ E)[k]? = some e := fun h => by rw [List.getElem?_append_left (List.getElem?_eq_some_iff.1 h).1]; exact h
  cases v <;> simp only [denW] at h ⊢ <;> first | exact h | (obtain ⟨e, h1, h2⟩ := h; exact ⟨e, hp h1, h2⟩) | (obtain ⟨e, x, n, h1, h2⟩ := h; exact ⟨e, x, n, hp h1, h2⟩)

section
variable {C : Cfg} {H0 : Heap} {L0 : Nat} {o0 : B} {s : WS} {σ : WSta}
/-- One level more. -/
theorem WOK.push (h : WOK C H0 L0 o0 s σ) {o sz k : Nat} {E : WL} {plE : List (Ev × Nat)} {vsE : List V} {sf : WF} {fr : List AV} {H' : Heap} {out : AV} {o1 bs : B} (hEo : E.o = o) (hEs : E.sz = sz)
    (hE : E.j < E.n → E.cs.length = E.sz ∧ E.b < L0 ∧ ∃ ty kn bl, H0[E.b]? = some (.cells ty kn bl) ∧ E.w + E.sz ≤ bl.length ∧ (bl.drop E.w).take E.sz = E.cs)
    (hup : ∀ p, σ.lv[s.top]? = some p → ∃ x, p.cs[E.o]? = some x ∧ slen x = some E.n ∧ (E.j < E.n → x = .sl E.b 0 E.n ∧ E.w = E.j * E.sz))
    (hsaid : Said C.flex (fun i => i < L0) H0 E.cs plE vsE) (hfr : FRh H0 s.cur out (σ.lv ++ [E]) sf fr) (hk : WKeep L0 H0 H') (ho : OutAt L0 H' out bs) (hb : bs = o1 ++ encs C.flex (plE.take k) vsE) (hbd : o1.length + (encs C.flex plE vsE).length + 8 ≤ 1099511627776) :
    WOK C H0 L0 o1 { s with fr := sf, lv := s.lv ++ [(o, sz)], pend := none, exp := s.exp ++ [plE], k := k } { fr := fr, H := H', lv := σ.lv ++ [E], out := out, bs := bs, vs := σ.vs ++ [vsE] } := by
  have htop : (s.lv ++ [(o, sz)]).length - 1 = σ.lv.length := by simp [h.lvl]
  have hpos := h.pos
  have htop0 : s.top = σ.lv.length - 1 := by unfold WS.top; rw [h.lvl]
  refine ⟨hfr, by simp [h.lvl], by simp [h.exl], by simp [h.vsl], by simp, fun l e he => ?_, fun l p e hp he => ?_, fun l e pl vs he hpl hvs => ?_, fun n hn => ?_, hk, h.l0, ho, fun e pl vs he hpl hvs => ?_, fun pl vs hpl hvs => ?_⟩
  · have he' : (σ.lv ++ [E])[l]? = some e := he
    show (s.lv ++ [(o, sz)])[l]? = _ ∧ _
    by_cases hl : l < σ.lv.length
    · rw [List.getElem?_append_left hl] at he'
      rw [List.getElem?_append_left (by rw [h.lvl]; exact hl)]
      exact h.lv l e he'
    · have := (List.getElem?_eq_some_iff.1 he').1
      simp at this
      obtain rfl : l = σ.lv.length := by omega
      simp at he'
      subst he'
      rw [← h.lvl]
      simp [hEo, hEs]
      rw [← hEs]
      exact hE
  · have he' : (σ.lv ++ [E])[l + 1]? = some e := he
    have hp' : (σ.lv ++ [E])[l]? = some p := hp
    by_cases hl : l + 1 < σ.lv.length
    · rw [List.getElem?_append_left hl] at he'
      rw [List.getElem?_append_left (by omega)] at hp'
      exact h.up l p e hp' he'
    · have := (List.getElem?_eq_some_iff.1 he').1
      simp at this
      have hll : l + 1 = σ.lv.length := by omega
      rw [hll] at he'
      simp at he'
      subst he'
      rw [List.getElem?_append_left (by omega)] at hp'
      exact hup p (by rw [htop0, ← hll]; exact hp')
  · have he' : (σ.lv ++ [E])[l]? = some e := he
    have hpl' : (s.exp ++ [plE])[l]? = some pl := hpl
    have hvs' : (σ.vs ++ [vsE])[l]? = some vs := hvs
    by_cases hl : l < σ.lv.length
    · rw [List.getElem?_append_left hl] at he'
      rw [List.getElem?_append_left (by rw [h.exl]; exact hl)] at hpl'
      rw [List.getElem?_append_left (by rw [h.vsl]; exact hl)] at hvs'
      exact h.said l e pl vs he' hpl' hvs'
    · have := (List.getElem?_eq_some_iff.1 he').1
      simp at this
      obtain rfl : l = σ.lv.length := by omega
      simp at he'
      rw [← h.exl] at hpl'
      rw [← h.vsl] at hvs'
      simp at hpl' hvs'
      subst he' hpl' hvs'
      exact hsaid
  · obtain ⟨e, e1, e2⟩ := h.ver n hn
    exact ⟨e, by show (σ.lv ++ [E])[0]? = _; rw [List.getElem?_append_left hpos]; exact e1, e2⟩
  · have hpl' : (s.exp ++ [plE])[(s.lv ++ [(o, sz)]).length - 1]? = some pl := hpl
    have hvs' : (σ.vs ++ [vsE])[(s.lv ++ [(o, sz)]).length - 1]? = some vs := hvs
    rw [htop] at hpl' hvs'
    rw [← h.exl] at hpl'
    rw [← h.vsl] at hvs'
    simp at hpl' hvs'
    subst hpl' hvs'
    exact ⟨[], rfl, by simp [hb]⟩
  · have hpl' : (s.exp ++ [plE])[(s.lv ++ [(o, sz)]).length - 1]? = some pl := hpl
    have hvs' : (σ.vs ++ [vsE])[(s.lv ++ [(o, sz)]).length - 1]? = some vs := hvs
    rw [htop] at hpl' hvs'
    rw [← h.exl] at hpl'
    rw [← h.vsl] at hvs'
    simp at hpl' hvs'
    subst hpl' hvs'
    exact hbd

/-- The frame at the head of the loop but for the place in the list. -/
theorem turn_fr {sf s2f : WF} {fr : List AV} {it l c c2 : Nat} {out : AV} {lv lv' : List WL} {sv : WV} (hlen : sf.length = s2f.length) (h : FRh H0 c2 out lv s2f fr) (hsame : ∀ t v, t ≠ it → sf[t]? = some v → v = .u ∨ s2f[t]? = some (renW c c2 v)) (hcalm : ∀ t v, t ≠ it → sf[t]? = some v → v.calm l = true)
    (hl : ∀ k, k < l → lv'[k]? = lv[k]?) (hit : ∀ a, fr[it]? = some a → denW H0 c out lv' sv a) : FRh H0 c out lv' (sf.set it sv) fr := by
  refine ⟨by simp [hlen, h.1], fun t v a hv ha => ?_⟩
  rw [List.getElem?_set] at hv
  by_cases ht : it = t
  · subst ht
    rw [if_pos rfl] at hv
    split at hv
    · cases hv; exact hit a ha
    · cases hv
  · rw [if_neg ht] at hv
    rcases hsame t v (fun e => ht e.symm) hv with rfl | h2
    · trivial
    · have d := h.2 t _ a h2 ha
      have hc := hcalm t v (fun e => ht e.symm) hv
      unfold renW at d
      split at d
      · rename_i e
        subst e
        intro _
        exact d rfl
      · rename_i hne
        cases v with
        | out k => intro hk; subst hk; exact absurd rfl hne
        | _ => exact denW_lv hl hc (denW_cur (fun c => by simp) d)

theorem loopW_sound {b : Code} {it id o sz l : Nat} {f : F} {hd : WF} {s2 s3 : WS} (hσ : WOK C H0 L0 o0 s σ) (hl : l = s.lv.length) (hsz : 0 < sz)
    (hbody : ∀ (o1 : B) (σ1 : WSta), WOK C H0 L0 o1 { s with fr := hd, lv := s.lv ++ [(o, sz)], pend := none, exp := s.exp ++ [unF f], k := 0 } σ1 → ∃ σ2, RUs (flat b) σ1.fr σ1.H (.normal, σ2.fr, σ2.H) ∧ WOK C H0 L0 o1 s2 σ2 ∧ WStep L0 { s with fr := hd, lv := s.lv ++ [(o, sz)], pend := none, exp := s.exp ++ [unF f], k := 0 } s2 σ1 σ2)
    (hexit : ∀ (o1 : B) (σ1 : WSta), WOK C H0 L0 o1 { s with fr := hd.set it (.fin l), lv := s.lv ++ [(o, sz)], pend := none, exp := s.exp ++ [[]], k := 0 } σ1 → ∃ σ2, RUs (flat b) σ1.fr σ1.H (.exit id, σ2.fr, σ2.H) ∧ WOK C H0 L0 o1 s3 σ2 ∧ WStep L0 { s with fr := hd.set it (.fin l), lv := s.lv ++ [(o, sz)], pend := none, exp := s.exp ++ [[]], k := 0 } s3 σ1 σ2)
    (hidx : hd[it]? = some (.idx l)) (hnx : s2.fr[it]? = some (.nxt l)) (hp2 : s2.pend = none) (hlv2 : s2.lv = s.lv ++ [(o, sz)]) (hex2 : s2.exp = s.exp ++ [unF f]) (hk2 : s2.k = (unF f).length) (hfl : s2.fr.length = hd.length) (hp3 : s3.pend = none) (hlv3 : s3.lv = s.lv ++ [(o, sz)]) (hex3 : s3.exp = s.exp ++ [[]])
    (hsame : ∀ t v, t ≠ it → hd[t]? = some v → v = .u ∨ s2.fr[t]? = some (renW s.cur s2.cur v)) (hcalm : ∀ t v, t ≠ it → hd[t]? = some v → v.calm l = true)
    {us : List V} {p : WL} {x : AV} (hp : σ.lv[s.top]? = some p) (hx : p.cs[o]? = some x) (hlen : slen x = some us.length) (hN : us.length < 2147483648)
    (hus : 0 < us.length → ∃ nb ty bl, x = .sl nb 0 us.length ∧ nb < L0 ∧ H0[nb]? = some (.cells ty .row bl) ∧ bl.length = us.length * sz ∧ ∀ (j : Nat) (y : V), us[j]? = some y → Rep (fun i => i < L0) H0 f y ((bl.drop (j * sz)).take sz)) (hok : ∀ y ∈ us, ok C.flex f y) {ob : B} (hbd : ob.length + (us.flatMap (enc C.flex f)).length + 8 ≤ 1099511627776) :
    ∀ (k j : Nat) (fr : List AV) (H : Heap) (out : AV) (bs : B), j + k = us.length → (∀ E : WL, (j < us.length → E.j = j ∧ E.n = us.length) → (j = us.length → E.n = us.length) → FRh H0 s.cur out (σ.lv ++ [E]) (hd.set it (if j < us.length then .idx l else .fin l)) fr) → WKeep L0 H0 H → OutAt L0 H out bs → bs = ob ++ (us.take j).flatMap (enc C.flex f) →
      ∃ σ3, RU P NS (.loop b) fr H (.exit id, σ3.fr, σ3.H) ∧ (∃ E, σ3.lv = σ.lv ++ [E]) ∧ WOK C H0 L0 (ob ++ us.flatMap (enc C.flex f)) s3 σ3 ∧ WKeep L0 H σ3.H ∧ σ3.bs = ob ++ us.flatMap (enc C.flex f)
  | 0, j, fr, H, out, bs, hj, hfr, hk, ho, hbs => by
    obtain rfl : j = us.length := by omega
    have hpush := hσ.push (o := o) (sz := sz) (k := 0) (E := ⟨0, 0, sz, [], o, us.length, us.length⟩) (plE := []) (vsE := []) (sf := hd.set it (.fin l)) (fr := fr) (H' := H) (out := out) (o1 := bs) (bs := bs) rfl rfl (fun h => absurd h (Nat.lt_irrefl _)) (fun p' hp' => by
      rw [hp] at hp'; cases hp'
      exact ⟨x, hx, hlen, fun h => absurd h (Nat.lt_irrefl _)⟩) (fun i e o hi => by simp at hi) (by
      have := hfr ⟨0, 0, sz, [], o, us.length, us.length⟩ (fun h => absurd h (Nat.lt_irrefl _)) (fun _ => rfl)
      rw [if_neg (Nat.lt_irrefl _)] at this
      exact this) hk ho (by simp [encs]) (by rw [hbs, List.take_length]; simp only [encs, List.length_append, List.length_nil]; omega)
    obtain ⟨σ3, q1, q2, q3⟩ := hexit _ _ hpush
    have hbs' : bs = ob ++ us.flatMap (enc C.flex f) := by rw [hbs]; simp
    refine ⟨σ3, RU.loopx (RUs.code q1) (by simp), ⟨_, q3.lv⟩, by rw [← hbs']; exact q2, q3.keep, ?_⟩
    have hlv3' : σ3.lv = σ.lv ++ [⟨0, 0, sz, [], o, us.length, us.length⟩] := q3.lv
    have hvs3 : σ3.vs = σ.vs ++ [[]] := q3.vs
    have htop3 : s3.top = σ.lv.length := by unfold WS.top; rw [hlv3]; simp [hσ.lvl]
    obtain ⟨pp, pp1, pp2⟩ := q2.bytes ⟨0, 0, sz, [], o, us.length, us.length⟩ [] [] (by rw [htop3, hlv3']; simp) (by rw [htop3, hex3, ← hσ.exl]; simp) (by rw [htop3, hvs3, ← hσ.vsl]; simp)
    rw [hp3] at pp1
    simp [pendB] at pp1
    subst pp1
    rw [pp2, ← hbs']
    simp [encs]
  | k + 1, j, fr, H, out, bs, hj, hfr, hk, ho, hbs => by
    have hjl : j < us.length := by omega
    obtain ⟨nb, ty, bl, rfl, hnb, hblk, hbll, hreps⟩ := hus (by omega)
    have hy : us[j]? = some us[j] := by simp [hjl]
    have hrep := hreps j _ hy
    obtain ⟨vs, hv1, hv2, hv3⟩ := rep_said hrep (hok _ (List.getElem_mem hjl))
    have hfit := mul_next (sz := sz) hjl
    have hsplit : us.flatMap (enc C.flex f) = (us.take j).flatMap (enc C.flex f) ++ (enc C.flex f us[j] ++ (us.drop (j + 1)).flatMap (enc C.flex f)) := by
      have hu : us = us.take j ++ us[j] :: us.drop (j + 1) := by rw [← List.drop_eq_getElem_cons hjl, List.take_append_drop]
      conv => lhs; rw [hu]
      rw [List.flatMap_append, List.flatMap_cons]
    have hbl : bs.length + (enc C.flex f us[j]).length + 8 ≤ 1099511627776 := by
      rw [hbs, List.length_append]
      rw [hsplit] at hbd
      simp only [List.length_append] at hbd
      omega
    have hpush := hσ.push (o := o) (sz := sz) (k := 0) (E := ⟨nb, j * sz, sz, (bl.drop (j * sz)).take sz, o, j, us.length⟩) (plE := unF f) (vsE := vs) (sf := hd) (fr := fr) (H' := H) (out := out) (o1 := bs) (bs := bs) rfl rfl
      (fun _ => ⟨by simp; omega, hnb, ty, .row, bl, hblk, by show j * sz + sz ≤ bl.length; omega, rfl⟩) (fun p' hp' => by
      rw [hp] at hp'; cases hp'
      exact ⟨_, hx, hlen, fun _ => ⟨rfl, rfl⟩⟩) hv2 (by
      have := hfr ⟨nb, j * sz, sz, (bl.drop (j * sz)).take sz, o, j, us.length⟩ (fun _ => ⟨rfl, rfl⟩) (fun _ => rfl)
      rw [if_pos hjl] at this
      have hset : hd.set it (.idx l) = hd := by
        apply List.ext_getElem?
        intro t
        rw [List.getElem?_set]
        split
        · rename_i e; subst e
          have hlt := (List.getElem?_eq_some_iff.1 hidx).1
          first | exact hidx.symm | (rw [if_pos hlt]; exact hidx.symm)
        · rfl
      rw [hset] at this
      exact this) hk ho (by simp [encs]) (by rw [← hv3]; omega)
    obtain ⟨σ2, q1, q2, q3⟩ := hbody _ _ hpush
    have hlv2' : σ2.lv = σ.lv ++ [⟨nb, j * sz, sz, (bl.drop (j * sz)).take sz, o, j, us.length⟩] := q3.lv
    have hvs2 : σ2.vs = σ.vs ++ [vs] := q3.vs
    have htop2 : s2.top = σ.lv.length := by unfold WS.top; rw [hlv2]; simp [hσ.lvl]
    obtain ⟨pp, pp1, pp2⟩ := q2.bytes ⟨nb, j * sz, sz, (bl.drop (j * sz)).take sz, o, j, us.length⟩ (unF f) vs (by rw [htop2, hlv2']; simp) (by rw [htop2, hex2, ← hσ.exl]; simp) (by rw [htop2, hvs2, ← hσ.vsl]; simp)
    rw [hp2] at pp1
    simp [pendB] at pp1
    subst pp1
    rw [hk2, List.take_length, List.append_nil, ← hv3] at pp2
    obtain ⟨σ3, w1, w2, w3, w4, w5⟩ := loopW_sound hσ hl hsz hbody hexit hidx hnx hp2 hlv2 hex2 hk2 hfl hp3 hlv3 hex3 hsame hcalm hp hx hlen hN hus hok hbd k (j + 1) σ2.fr σ2.H σ2.out σ2.bs (by omega) (fun E hE1 hE2 => by
      refine turn_fr (lv := σ2.lv) hfl.symm q2.fr hsame hcalm (fun k hk => ?_) (fun a ha => ?_)
      · rw [hlv2', List.getElem?_append_left (by rw [← hσ.lvl, ← hl]; exact hk), List.getElem?_append_left (by rw [← hσ.lvl, ← hl]; exact hk)]
      · obtain ⟨e', e1, rfl⟩ := q2.fr.2 it _ a hnx ha
        have hE' : (σ.lv ++ [E])[l]? = some E := by rw [hl, hσ.lvl]; simp
        have he' : e'.j = j := by
          rw [hlv2', hl, hσ.lvl] at e1
          simp at e1
          rw [← e1]
        rw [he']
        by_cases hjj : j + 1 < us.length
        · rw [if_pos hjj]
          obtain ⟨g1, g2⟩ := hE1 hjj
          exact ⟨E, hE', by rw [g1], by rw [g1, g2]; exact hjj, by rw [g2]; omega⟩
        · rw [if_neg hjj]
          exact ⟨E, hE', by rw [hE2 (by omega), show j + 1 = us.length by omega]⟩) (hk.trans q3.keep) q2.out (by
      rw [pp2, hbs, take_snoc hy, List.flatMap_append, List.flatMap_cons, List.flatMap_nil, List.append_nil, List.append_assoc])
    exact ⟨σ3, RU.loop (RUs.code q1) w1, w2, w3, q3.keep.trans w4, w5⟩
end
end Go.Proofs.YtopfghmpaobnnaaDoor.Rd

