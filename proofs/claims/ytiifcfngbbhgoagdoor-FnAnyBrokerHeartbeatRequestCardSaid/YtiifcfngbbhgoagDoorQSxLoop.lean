/-
  THE CHECKER: the loop of a list.
-/
import Derived.Test.YtiifcfngbbhgoagDoorQSxCode
set_option linter.constructorNameAsVariable false
set_option linter.unusedVariables false
set_option linter.unusedSimpArgs false
namespace Go.Proofs.YtiifcfngbbhgoagDoor.Rd
open Go Go.Proofs.YtiifcfngbbhgoagDoor.Ax Go.Proofs.YtiifcfngbbhgoagDoor.Wire
set_option maxRecDepth 100000
theorem wide_pos (e : Ev) : 1 ≤ e.wide := by
  cases e with
  | leaf k n => cases k <;> simp [Ev.wide, K.wide]
  | _ => simp [Ev.wide]
theorem places_evs (w : SF) : ∀ {es : List Ev} {m : Nat} {pl : List (Ev × Nat)}, places w m es = some pl → pl.map (·.1) = es
  | [], m, pl, h => by simp [places] at h; subst h; rfl
  | e :: r, m, pl, h => by
    unfold places at h
    split at h
    · rename_i o l h1 h2
      simp at h; subst h
      simp [places_evs w h2]
    · cases h
theorem places_rep {A : Nat → Prop} {H : Heap} {η : Env} {w : SF} {cs : List AV} (hl : cs.length = w.length) (hc : ∀ (o : Nat) (v : SV), w[o]? = some v → ∃ a, cs[o]? = some a ∧ den η v a) :
    ∀ {es : List Ev} {m : Nat} {pl : List (Ev × Nat)} {vs : List V}, places w m es = some pl → vs.length = es.length → (∀ i, i < es.length → ∃ a, η.av[m + i]? = some a) →
      (∀ (i : Nat) (e : Ev) (v : V) (a : AV), es[i]? = some e → vs[i]? = some v → η.av[m + i]? = some a → RepE A H e v a) → (∀ (i : Nat) (e : Ev) (a : AV), es[i]? = some e → η.av[m + i]? = some a → a.cells.length = e.wide) → Rep A H (nodes pl) (packV vs) cs
  | [], m, pl, vs, h, hv, _, _, _ => by
    simp [places] at h; subst h
    cases vs with
    | nil => rfl
    | cons a b => simp at hv
  | e :: r, m, pl, vs, h, hv, hx, hr, hw => by
    unfold places at h
    split at h
    · rename_i o l h1 h2
      simp at h; subst h
      cases vs with
      | nil => simp at hv
      | cons v vs =>
        obtain ⟨a, ha⟩ := hx 0 (by simp)
        have hwa := hw 0 e a rfl ha
        simp only [Nat.add_zero] at ha
        refine (Rep.node _ _ _ _ _).2 ⟨v, packV vs, rfl, ⟨a, hr 0 e v a rfl rfl (by simpa using ha), hwa, ?_⟩, places_rep hl hc h2 (by simpa using hv) (fun i hi => ?_) (fun i e' v' a' q1 q2 q3 => ?_) (fun i e' a' q1 q3 => ?_)⟩
        · unfold placeOf at h1
          simp only at h1
          split at h1
          · rename_i hall
            simp at h1; subst h1
            rw [List.all_eq_true] at hall
            have hat : ∀ j, j < e.wide → w[w.findIdx (· = .cel m 0) + j]? = some (.cel m j) := fun j hj => by
              have := hall j (by simpa using hj)
              simpa using this
            have hp := wide_pos e
            have hlast := (List.getElem?_eq_some_iff.1 (hat (e.wide - 1) (by omega))).1
            refine ⟨by omega, ?_⟩
            apply List.ext_getElem?
            intro j
            rw [List.getElem?_take]
            split
            · rename_i hj
              obtain ⟨c, q1, v', q2, q3⟩ := hc _ _ (hat j hj)
              rw [ha] at q2; cases q2
              rw [List.getElem?_drop, q1, q3]
            · rename_i hj
              rw [List.getElem?_eq_none (by omega)]
          · cases h1
        · have := hx (i + 1) (by simp; omega)
          rw [show m + 1 + i = m + (i + 1) by omega]; exact this
        · exact hr (i + 1) e' v' a' (by simpa using q1) (by simpa using q2) (by rw [show m + (i + 1) = m + 1 + i by omega]; exact q3)
        · exact hw (i + 1) e' a' (by simpa using q1) (by rw [show m + (i + 1) = m + 1 + i by omega]; exact q3)
    · cases h
theorem set_b {lv : List Lv} {l : Nat} {e1 e2 : Lv} (h : lv[l]? = some e1) (hb : e2.b = e1.b) : (lv.set l e2).map Lv.b = lv.map Lv.b := by
  apply List.ext_getElem?
  intro k
  rw [List.getElem?_map, List.getElem?_set, List.getElem?_map]
  split
  · rename_i e; subst e
    rw [if_pos (List.getElem?_eq_some_iff.1 h).1, h]
    simp [hb]
  · rfl
def Env.turn (η' η : Env) (l : Nat) (e2 : Lv) : Env := { η' with lv := η'.lv.set l e2, av := η.av }
theorem AO_turn {η' η : Env} {l : Nat} {e1 e2 : Lv} (h : η'.lv[l]? = some e1) (hb : e2.b = e1.b) : AO (η'.turn η l e2) = AO η' := by
  funext i
  simp only [AO, Env.turn, set_b h hb]
theorem OK.turn {C : Cfg} {sH s2 : SS} {σ σ' : Sta} (hh : OK C σ.st sH σ) (h2 : OK C σ.st s2 σ') (hs : Step sH s2 σ σ') {W : List SF} {Z : List (Option SF)} {w0 w1 wl : SF} {l : Nat} (hW : sH.win = W ++ [w0]) (hWl : W.length = l) (hW2 : s2.win = W ++ [w1]) (hz : sH.zs = Z ++ [some w0]) (hz2 : s2.zs = sH.zs)
    (hZ : Z.all (fun z => (z.getD []).all fun v => v.con.isSome) = true) (hw0 : w0.all (fun v => v.con.isSome) = true) (hWs : W.all (fun w => w.all SV.still) = true) (hev : sH.evs = []) (hlive : sH.live = l + 1)
    {e1 e2 : Lv} (he1 : σ'.η.lv[l]? = some e1) (hb : e2.b = e1.b) {sf : SF} (hsf : FR (σ'.η.turn σ.η l e2) sf σ'.fr) (hwc : e2.w = e2.j * wl.length ∧ WC (σ'.η.turn σ.η l e2) e2 wl σ'.H) (zl : Option SF) (hzer : ∀ z, zl = some z → z = w0 ∧ wl.length = w0.length ∧ e1.j ≤ e2.j) :
    OK C σ'.st { sH with fr := sf, win := W ++ [wl], zs := Z ++ [zl] } { σ' with η := σ'.η.turn σ.η l e2, vs := [] } := by
  have hlen : σ'.η.lv.length = l + 1 := by rw [← h2.win.1, hW2]; simp [hWl]
  have hlt : ∀ k, k < l → (σ'.η.lv.set l e2)[k]? = σ'.η.lv[k]? := fun k hk => by rw [List.getElem?_set, if_neg (by omega)]
  have hzl : Z.length = l := by have := hh.zl; rw [hz, hW] at this; simp [hWl] at this; omega
  have hAO := AO_turn (η := σ.η) he1 hb
  have hw1 : w0.length = w1.length := (h2.zer l e1 w1 w0 he1 (by rw [hW2, ← hWl]; simp) (by rw [hz2, hz, ← hzl]; simp)).1
  refine ⟨hsf, ⟨by simp [Env.turn, hlen, hWl], fun k e w he hw => ?_⟩, by simpa [Env.turn] using h2.ln, by simpa [Env.turn, set_b he1 hb] using h2.nd, ?_, ?_, h2.rbl, ?_, hh.one, fun i e a he => ?_, ?_, fun k e w z he hw hzk => ?_, fun k e hk he => ?_, ?_, fun _ i e v a he => ?_⟩
  · have he' : (σ'.η.lv.set l e2)[k]? = some e := he
    by_cases hk : k < l
    · rw [hlt k hk] at he'
      rw [List.getElem?_append_left (by omega)] at hw
      obtain ⟨q1, ty', kn', cs', q2, q3, q4, q5⟩ := h2.win.2 k e w he' (by rw [hW2, List.getElem?_append_left (by omega)]; exact hw)
      have hklv : k < σ.η.lv.length := by rw [← hh.win.1, hW]; simp; omega
      have he0 : σ.η.lv[k]? = some e := by
        have hx : σ.η.lv[k]? = some σ.η.lv[k] := by simp [hklv]
        have := hs.lv.at_ _ _ hx
        rw [he'] at this
        rw [hx, this]
      refine ⟨q1, ty', kn', cs', q2, q3, q4, fun o v hv => ?_⟩
      obtain ⟨a, a1, a2, a3⟩ := q5 o v hv
      obtain ⟨_, _, _, _, _, _, _, p5⟩ := h2.win.2 k e w he' (by rw [hW2, List.getElem?_append_left (by omega)]; exact hw)
      obtain ⟨_, _, _, _, _, _, _, r5⟩ := hh.win.2 k e w he0 (by rw [hW, List.getElem?_append_left (by omega)]; exact hw)
      obtain ⟨a0, _, _, d0⟩ := r5 o v hv
      rw [List.all_eq_true] at hWs
      have := hWs w (List.mem_of_getElem? hw)
      rw [List.all_eq_true] at this
      exact ⟨a, a1, a2, den_still (η2 := σ'.η.turn σ.η l e2) (this v (List.mem_of_getElem? hv)) hs.av (.refl _) d0 a3⟩
    · have hkl := (List.getElem?_eq_some_iff.1 he').1
      simp at hkl
      obtain rfl : k = l := by omega
      rw [List.getElem?_set_self (by omega)] at he'
      cases he'
      rw [← hWl] at hw
      simp at hw
      subst hw
      exact hwc
  · show Room (AO (σ'.η.turn σ.η l e2)) σ'.H σ'.η.rb
    rw [hAO]; exact h2.room
  · intro hry
    show RdAt (AO (σ'.η.turn σ.η l e2)) tR σ'.H σ'.η.rb σ'.nn σ'.st
    rw [hAO]; exact h2.rd (hs.rdy.trans hry)
  · exact hh.avl
  · rw [hev] at he; simp at he
  · simp [hzl, hWl]
  · have he' : (σ'.η.lv.set l e2)[k]? = some e := he
    have hzk' : (Z ++ [zl])[k]? = some (some z) := hzk
    by_cases hk : k < l
    · rw [hlt k hk] at he'
      rw [List.getElem?_append_left (by omega)] at hw
      rw [List.getElem?_append_left (by omega)] at hzk'
      obtain ⟨z1, ty', bl', n', q2, q3, q4, q5⟩ := h2.zer k e w z he' (by rw [hW2, List.getElem?_append_left (by omega)]; exact hw) (by rw [hz2, hz, List.getElem?_append_left (by omega)]; exact hzk')
      refine ⟨z1, ty', bl', n', q2, q3, q4, fun q hq hqn o v hv => ?_⟩
      obtain ⟨a, a1, a2, a3⟩ := q5 q hq hqn o v hv
      rw [List.all_eq_true] at hZ
      have := hZ _ (List.mem_of_getElem? hzk')
      simp only [Option.getD_some, List.all_eq_true] at this
      exact ⟨a, a1, a2, den_con (this v (List.mem_of_getElem? hv)) a3⟩
    · have hkl := (List.getElem?_eq_some_iff.1 he').1
      simp at hkl
      obtain rfl : k = l := by omega
      rw [List.getElem?_set_self (by omega)] at he'
      cases he'
      rw [← hzl] at hzk'
      simp at hzk'
      obtain ⟨rfl, hwl, hj⟩ := hzer z hzk'
      rw [← hWl] at hw
      simp at hw
      subst hw
      obtain ⟨z1, ty', bl', n', q2, q3, q4, q5⟩ := h2.zer _ e1 w1 z he1 (by rw [hW2, ← hWl]; simp) (by rw [hz2, hz, ← hzl]; simp)
      refine ⟨hwl.symm, ty', bl', n', by rw [hb]; exact q2, q3, by rw [hwl, hw1]; exact q4, fun q hq hqn o v hv => ?_⟩
      obtain ⟨a, a1, a2, a3⟩ := q5 q (by omega) hqn o v hv
      rw [List.all_eq_true] at hw0
      exact ⟨a, by rw [hwl, hw1]; exact a1, a2, den_con (hw0 v (List.mem_of_getElem? hv)) a3⟩
  · have hk' : sH.live ≤ k := hk
    have hkl := (List.getElem?_eq_some_iff.1 he).1
    simp [Env.turn] at hkl
    omega
  · show (match σ'.st with | some r => _ | none => _)
    simp only [hev]
    cases σ'.st with
    | none => rfl
    | some r => exact ⟨r, rfl, rfl⟩
  · rw [hev] at he; simp at he
theorem range_eq {a b : List AV} {o w : Nat} (h : ∀ p, o ≤ p → p < o + w → a[p]? = b[p]?) : (a.drop o).take w = (b.drop o).take w := by
  apply List.ext_getElem?
  intro j
  rw [List.getElem?_take, List.getElem?_take]
  split
  · rw [List.getElem?_drop, List.getElem?_drop]; exact h _ (by omega) (by omega)
  · rfl
def ElemRep (σ : Sta) (nb N sz : Nat) (f : F) (q : Nat) (x : V) : Prop := ∃ ty bl, σ.H[nb]? = some (.cells ty .row bl) ∧ bl.length = N * sz ∧ Rep (AO σ.η) σ.H f x ((bl.drop (q * sz)).take sz)
def Acc (C : Cfg) (f : F) (nb N sz : Nat) (r1 : B) (σ : Sta) (us : List V) (j : Nat) : Prop :=
  match σ.st with
  | some r => many (dec C.flex f) j r1 = some (us, r) ∧ ∀ (q : Nat) (x : V), us[q]? = some x → ElemRep σ nb N sz f q x
  | none => many (dec C.flex f) j r1 = none
def Outcome (C : Cfg) (cs : List Code) (st0 : Option B) (s s' : SS) (σ : Sta) : Prop :=
  (∃ σ', RUs cs σ.fr σ.H (.normal, σ'.fr, σ'.H) ∧ OK C st0 s' σ' ∧ Step s s' σ σ') ∨ (∃ fr' H', RUs cs σ.fr σ.H (.ret, fr', H') ∧ fr'[C.res]? = some .e ∧ st0.bind (runE C.flex s'.evs) = none)
theorem mul_next {j q sz : Nat} (h : q < j) : q * sz + sz ≤ j * sz := by
  have := Nat.mul_le_mul_right sz (show q + 1 ≤ j by omega)
  rw [Nat.add_mul] at this; omega
theorem loop_sound {C : Cfg} {sH s2 s3 : SS} {b : Code} {it id l : Nat} {W : List SF} {Z : List (Option SF)} {w0 w1 : SF} {pl : List (Ev × Nat)} {nb N : Nat} {r1 : B}
    (hbody : ∀ σ : Sta, OK C σ.st sH σ → σ.η.ln.length = σ.η.lv.length → Outcome C (flat b) σ.st sH s2 σ)
    (hexit : ∀ σ : Sta, OK C σ.st { sH with fr := sH.fr.set it (.fin l), win := W ++ [[]], zs := Z ++ [none] } σ → ∃ σ1, RU P NS b σ.fr σ.H (.exit id, σ1.fr, σ1.H) ∧ OK C σ.st s3 σ1 ∧ Step { sH with fr := sH.fr.set it (.fin l), win := W ++ [[]], zs := Z ++ [none] } s3 σ σ1 ∧ σ1.st = σ.st)
    (hW : sH.win = W ++ [w0]) (hWl : W.length = l) (hW2 : s2.win = W ++ [w1]) (hz : sH.zs = Z ++ [some w0]) (hz2 : s2.zs = sH.zs)
    (hZ : Z.all (fun z => (z.getD []).all fun v => v.con.isSome) = true) (hw0 : w0.all (fun v => v.con.isSome) = true) (hWs : W.all (fun w => w.all SV.still) = true) (hev : sH.evs = []) (hlive : sH.live = l + 1)
    (hpl : places w1 sH.base s2.evs = some pl) (hit : it < sH.fr.length) (hnx : s2.fr[it]? = some (.nxt l)) (hidx : sH.fr[it]? = some (.idx l)) (hsame : ∀ t v, t ≠ it → sH.fr[t]? = some v → v = .u ∨ s2.fr[t]? = some v) (hcalm : ∀ t v, t ≠ it → sH.fr[t]? = some v → v.calm l = true) :
    ∀ (k j : Nat) (σ : Sta) (us : List V), j + k + 1 = N → OK C σ.st sH σ → σ.η.lv.length = l + 1 → σ.η.ln.length = l + 1 → σ.η.ln[l]? = some N → N < 2147483648 → (∃ e, σ.η.lv[l]? = some e ∧ e.j = j ∧ e.b = nb) → Acc C (nodes pl) nb N w0.length r1 σ us j →
      (∃ fr' H', RU P NS (.loop b) σ.fr σ.H (.ret, fr', H') ∧ fr'[C.res]? = some .e ∧ many (dec C.flex (nodes pl)) N r1 = none) ∨
      (∃ σ' us', RU P NS (.loop b) σ.fr σ.H (.exit id, σ'.fr, σ'.H) ∧ OK C σ'.st s3 σ' ∧ Mv W σ σ' ∧ (∃ e, σ'.η.lv[l]? = some e ∧ e.b = nb) ∧ Acc C (nodes pl) nb N w0.length r1 σ' us' N)
  | k, j, σ, us, hN, hh, hlv, hln, hlN, hN31, ⟨e, he, hej, heb⟩, hacc => by
    rcases hbody σ hh (by rw [hlv, hln]) with ⟨σ', hr, h2, hs⟩ | ⟨fr', H', hr, hres, hno⟩
    · -- one more element
      have he1 : σ'.η.lv[l]? = some e := hs.lv.at_ _ _ he
      have hlen : σ'.η.lv.length = l + 1 := by rw [← h2.win.1, hW2]; simp [hWl]
      have hww : s2.win[l]? = some w1 := by rw [hW2, ← hWl]; simp
      have hzl : Z.length = l := by have := hh.zl; rw [hz, hW] at this; simp [hWl] at this; omega
      obtain ⟨hw1, ty, bl, n', b1, b2, b3, b4⟩ := h2.zer l e w1 w0 he1 hww (by rw [hz2, hz, ← hzl]; simp)
      have hn' : n' = N := by
        have : σ'.η.ln[l]? = some N := by rw [hs.ln]; exact hlN
        rw [this] at b2; cases b2; rfl
      subst hn'
      obtain ⟨ew, ty2, kn2, cs2, c1, c2, c3, c4⟩ := h2.win.2 l e w1 he1 hww
      rw [b1] at c1; cases c1
      have hjN : j < n' := by omega
      have hacc' : Acc C (nodes pl) nb n' w0.length r1 σ' (us ++ [packV σ'.vs]) (j + 1) := by
        unfold Acc at hacc ⊢
        have hrun := h2.run
        cases hst : σ.st with
        | none =>
          rw [hst] at hacc hrun
          cases hst' : σ'.st with
          | none => exact many_none hacc 1
          | some r => rw [hst'] at hrun; obtain ⟨_, hx, _⟩ := hrun; cases hx
        | some r =>
          rw [hst] at hacc hrun
          obtain ⟨hm, hreps⟩ := hacc
          cases hst' : σ'.st with
          | none =>
            rw [hst'] at hrun
            simp only [Option.bind_some] at hrun
            simp only
            rw [many_snoc, hm]
            simp only [Option.bind_some, dec_nodes, places_evs _ hpl, hrun, Option.map_none]
          | some r' =>
            rw [hst'] at hrun
            obtain ⟨bs0, hx, hrun⟩ := hrun
            cases hx
            simp only
            refine ⟨?_, fun q x hq => ?_⟩
            · rw [many_snoc, hm]
              simp only [Option.bind_some, dec_nodes, places_evs _ hpl, hrun, Option.map_some]
            · by_cases hqj : q < us.length
              · rw [List.getElem?_append_left hqj] at hq
                obtain ⟨ty0, bl0, d1, d2, d3⟩ := hreps q x hq
                have hul := many_length _ hm
                obtain ⟨cs', f1, f2, f3⟩ := hs.side l e w0 ty0 .row bl0 he (by rw [hW, ← hWl]; simp) (by rw [heb]; exact d1)
                rw [heb] at f1
                refine ⟨ty0, cs', f1, by rw [f2, d2], ?_⟩
                rw [range_eq (b := bl0) (fun p hp1 hp2 => f3 p (.inl (by
                  obtain ⟨e0, _⟩ := hh.win.2 l e w0 he (by rw [hW, ← hWl]; simp)
                  rw [e0, hej]
                  have := mul_next (sz := w0.length) (show q < j by omega)
                  omega)))]
                exact Rep.kt hs.kt d3
              · have hul := many_length _ hm
                have := (List.getElem?_eq_some_iff.1 hq).1
                simp at this
                obtain rfl : q = us.length := by omega
                simp at hq
                subst hq
                refine ⟨ty, bl, by rw [← heb]; exact b1, by rw [hw1]; exact b3, ?_⟩
                have hw1' : us.length * w0.length = e.w := by rw [ew, hej, hul, hw1]
                rw [hw1', hw1]
                have hbase : s2.base = sH.base := hs.base
                refine places_rep (η := σ'.η) (w := w1) ?_ (fun o v hv => ?_) hpl (runE_length hrun) (fun i hi => ?_) (fun i ev v a q1 q2 q3 => ?_) (fun i ev a q1 q3 => ?_)
                · simp; omega
                · obtain ⟨a, a1, a2, a3⟩ := c4 o v hv
                  have := (List.getElem?_eq_some_iff.1 hv).1
                  exact ⟨a, by rw [List.getElem?_take, if_pos this, List.getElem?_drop]; exact a1, a3⟩
                · have := h2.avl
                  rw [hbase] at this
                  exact ⟨σ'.η.av[sH.base + i], by rw [List.getElem?_eq_getElem]⟩
                · exact h2.rep (by rw [hst']; rfl) i ev v a q1 q2 (by rw [hbase]; exact q3)
                · exact h2.wid i ev a q1 (by rw [hbase]; exact q3)
      have hnext : ∀ (e2 : Lv) (sv : SV), e2.b = e.b → (∀ a, den σ'.η (.nxt l) a → den (σ'.η.turn σ.η l e2) sv a) → FR (σ'.η.turn σ.η l e2) (sH.fr.set it sv) σ'.fr := by
        intro e2 sv hb2 hsv
        refine ⟨by have := hs.frl; have := h2.fr.1; simp; omega, fun t v a hv ha => ?_⟩
        rw [List.getElem?_set] at hv
        by_cases ht : it = t
        · subst ht
          rw [if_pos rfl, if_pos hit] at hv
          cases hv
          exact hsv a (h2.fr.2 _ _ a hnx ha)
        · rw [if_neg ht] at hv
          rcases hsame t v (fun x => ht x.symm) hv with rfl | hv2
          · trivial
          · obtain ⟨a0, _, d0⟩ := hh.fr.at_ hv
            exact den_calm (η := σ.η) (η' := σ'.η) (η2 := σ'.η.turn σ.η l e2) (hcalm t v (fun x => ht x.symm) hv) rfl hs.rb hs.lv (fun k hk => by
              show (σ'.η.lv.set l e2)[k]? = _
              rw [List.getElem?_set, if_neg (fun x => hk x.symm)]) (fun e' he' => by
              rw [he1] at he'; cases he'
              exact ⟨e2, by show (σ'.η.lv.set l e2)[l]? = _; rw [List.getElem?_set_self (by omega)], hb2⟩) rfl hs.av (.refl _) d0 (h2.fr.2 t v a hv2 ha)
      have hmv : ∀ (e2 : Lv), e2.b = e.b → ∀ (fr : List AV) (vs : List V), KT (AO σ'.η) σ'.H (AO (σ'.η.turn σ.η l e2)) σ'.H := fun e2 hb2 _ _ => by rw [AO_turn he1 hb2]; exact .refl _ _
      have hlvt : ∀ e2 : Lv, (∀ i x, i ≠ l → σ.η.lv[i]? = some x → (σ'.η.turn σ.η l e2).lv[i]? = some x) := fun e2 i x hi hx => by
        show (σ'.η.lv.set l e2)[i]? = _
        rw [List.getElem?_set, if_neg (fun x => hi x.symm)]; exact hs.lv.at_ _ _ hx
      have hself : ∀ e2 : Lv, (σ'.η.turn σ.η l e2).lv[l]? = some e2 := fun e2 => by
        show (σ'.η.lv.set l e2)[l]? = _
        rw [List.getElem?_set_self (by omega)]
      have hWW : Side σ.η W σ.H σ'.H := fun k ek wk ty kn cs hk hwk hc => hs.side k ek wk ty kn cs hk (by rw [hW, List.getElem?_append_left (List.getElem?_eq_some_iff.1 hwk).1]; exact hwk) hc
      cases k with
      | zero =>
        have hOK : OK C σ'.st { sH with fr := sH.fr.set it (.fin l), win := W ++ [[]], zs := Z ++ [none] } { σ' with η := σ'.η.turn σ.η l ⟨e.b, 0, 0⟩, vs := [] } := by
          refine OK.turn (e2 := ⟨e.b, 0, 0⟩) hh h2 hs hW hWl hW2 hz hz2 hZ hw0 hWs hev hlive he1 rfl (hnext ⟨e.b, 0, 0⟩ (.fin l) rfl (fun a ha => ?_)) ⟨rfl, ty, .row, bl, b1, rfl, by simp, fun o v hv => by simp at hv⟩ none (fun z hz => by cases hz)
          obtain ⟨e', q1, rfl⟩ := ha
          rw [he1] at q1; cases q1
          refine ⟨n', by show σ'.η.ln[l]? = _; rw [hs.ln]; exact hlN, ?_⟩
          rw [hej, show j + 1 = n' by omega]
        obtain ⟨σ1, r3, h3, s3', st3⟩ := hexit { σ' with η := σ'.η.turn σ.η l ⟨e.b, 0, 0⟩, vs := [] } hOK
        right
        refine ⟨σ1, us ++ [packV σ'.vs], RU.loop (RUs.code hr) (RU.loopx r3 (by simp)), by rw [st3]; exact h3, ⟨s3'.rb.trans hs.rb, fun i x hi hx => s3'.lv.at_ _ _ (hlvt _ i x (by omega) hx), ?_, s3'.av, (hs.kt.trans (hmv ⟨e.b, 0, 0⟩ rfl [] [])).trans s3'.kt, ?_⟩, ⟨_, s3'.lv.at_ _ _ (hself _), heb⟩, ?_⟩
        · have : σ1.η.ln = σ.η.ln := s3'.ln.trans hs.ln
          rw [this]; exact .refl _
        · intro k ek wk ty' kn cs hk hwk hc
          have hkl : k < l := by have := (List.getElem?_eq_some_iff.1 hwk).1; omega
          obtain ⟨cs1, f1, f2, f3⟩ := hWW k ek wk ty' kn cs hk hwk hc
          obtain ⟨cs2, g1, g2, g3⟩ := s3'.side k ek wk ty' kn cs1 (hlvt _ k ek (by omega) hk) (by
            show (W ++ [[]])[k]? = some wk
            rw [List.getElem?_append_left (List.getElem?_eq_some_iff.1 hwk).1]; exact hwk) f1
          exact ⟨cs2, g1, g2.trans f2, fun p hp => (g3 p hp).trans (f3 p hp)⟩
        · have hj1 : j + 1 = n' := by omega
          rw [hj1] at hacc'
          unfold Acc at hacc' ⊢
          rw [st3]
          cases hst' : σ'.st with
          | none => rw [hst'] at hacc'; exact hacc'
          | some r' =>
            rw [hst'] at hacc'
            refine ⟨hacc'.1, fun q x hq => ?_⟩
            obtain ⟨ty0, bl0, d1, d2, d3⟩ := hacc'.2 q x hq
            obtain ⟨cs2, g1, g2, g3⟩ := s3'.side l ⟨e.b, 0, 0⟩ [] ty0 .row bl0 (hself _) (by show (W ++ [[]])[l]? = _; rw [← hWl]; simp) (by rw [← heb] at d1; exact d1)
            have : cs2 = bl0 := List.ext_getElem? fun p => g3 p (.inr (by simp))
            subst this
            refine ⟨ty0, cs2, by rw [← heb]; exact g1, d2, Rep.kt ?_ d3⟩
            exact (hmv ⟨e.b, 0, 0⟩ rfl [] []).trans s3'.kt
      | succ k =>
        have hOK : OK C σ'.st { sH with fr := sH.fr.set it (.idx l), win := W ++ [w0], zs := Z ++ [some w0] } { σ' with η := σ'.η.turn σ.η l ⟨e.b, (j + 1) * w0.length, j + 1⟩, vs := [] } := by
          refine OK.turn (e2 := ⟨e.b, (j + 1) * w0.length, j + 1⟩) hh h2 hs hW hWl hW2 hz hz2 hZ hw0 hWs hev hlive he1 rfl (hnext ⟨e.b, (j + 1) * w0.length, j + 1⟩ (.idx l) rfl (fun a ha => ?_)) ⟨rfl, ty, .row, bl, b1, rfl, ?_, fun o v hv => ?_⟩ (some w0) (fun z hz => ⟨by cases hz; rfl, rfl, by show e.j ≤ j + 1; omega⟩)
          · obtain ⟨e', q1, rfl⟩ := ha
            rw [he1] at q1; cases q1
            refine ⟨_, n', hself _, by show σ'.η.ln[l]? = _; rw [hs.ln]; exact hlN, by rw [hej], by show j + 1 < n'; omega, hN31⟩
          · have := mul_next (sz := w0.length) (show j + 1 < n' by omega)
            rw [b3, ← hw1]
            exact this
          · obtain ⟨a, a1, a2, a3⟩ := b4 (j + 1) (by omega) (by omega) o v hv
            rw [List.all_eq_true] at hw0
            exact ⟨a, by rw [hw1]; exact a1, a2, den_con (hw0 v (List.mem_of_getElem? hv)) a3⟩
        have hsH : { sH with fr := sH.fr.set it (.idx l), win := W ++ [w0], zs := Z ++ [some w0] } = sH := by
          have : sH.fr.set it (.idx l) = sH.fr := by
            apply List.ext_getElem?
            intro t
            rw [List.getElem?_set]
            split
            · rename_i h; subst h; first | exact hidx.symm | (rw [if_pos hit]; exact hidx.symm)
            · rfl
          rw [this, ← hW, ← hz]
        rw [hsH] at hOK
        have hacc2 : Acc C (nodes pl) nb n' w0.length r1 { σ' with η := σ'.η.turn σ.η l ⟨e.b, (j + 1) * w0.length, j + 1⟩, vs := [] } (us ++ [packV σ'.vs]) (j + 1) := by
          unfold Acc at hacc' ⊢
          show (match σ'.st with | some r => _ | none => _)
          cases hst' : σ'.st with
          | none => rw [hst'] at hacc'; exact hacc'
          | some r' =>
            rw [hst'] at hacc'
            refine ⟨hacc'.1, fun q x hq => ?_⟩
            obtain ⟨ty0, bl0, d1, d2, d3⟩ := hacc'.2 q x hq
            exact ⟨ty0, bl0, d1, d2, Rep.kt (hmv ⟨e.b, (j + 1) * w0.length, j + 1⟩ rfl [] []) d3⟩
        rcases loop_sound hbody hexit hW hWl hW2 hz hz2 hZ hw0 hWs hev hlive hpl hit hnx hidx hsame hcalm k (j + 1) _ _ (by omega) hOK (by simp [Env.turn, hlen]) (by show σ'.η.ln.length = _; rw [hs.ln]; exact hln) (by show σ'.η.ln[l]? = _; rw [hs.ln]; exact hlN) hN31 ⟨⟨e.b, (j + 1) * w0.length, j + 1⟩, hself _, rfl, heb⟩ hacc2 with
          ⟨fr', H', q1, q2, q3⟩ | ⟨σ1, us', q1, q2, q3, q4, q5⟩
        · exact .inl ⟨fr', H', RU.loop (RUs.code hr) q1, q2, q3⟩
        · refine .inr ⟨σ1, us', RU.loop (RUs.code hr) q1, q2, ⟨q3.rb.trans hs.rb, fun i x hi hx => q3.lv i x hi (hlvt _ i x (by omega) hx), ?_, q3.av, (hs.kt.trans (hmv ⟨e.b, (j + 1) * w0.length, j + 1⟩ rfl [] [])).trans q3.kt, ?_⟩, q4, q5⟩
          · have h1 := q3.ln
            exact ⟨fun i x hx => h1.at_ i x (by show σ'.η.ln[i]? = _; rw [hs.ln]; exact hx)⟩
          · intro k' ek wk ty' kn cs hk hwk hc
            have hkl : k' < l := by have := (List.getElem?_eq_some_iff.1 hwk).1; omega
            obtain ⟨cs1, f1, f2, f3⟩ := hWW k' ek wk ty' kn cs hk hwk hc
            obtain ⟨cs2, g1, g2, g3⟩ := q3.side k' ek wk ty' kn cs1 (hlvt _ k' ek (by omega) hk) hwk f1
            exact ⟨cs2, g1, g2.trans f2, fun p hp => (g3 p hp).trans (f3 p hp)⟩
    · left
      refine ⟨fr', H', RU.loopx (RUs.code hr) (by simp), hres, ?_⟩
      have : many (dec C.flex (nodes pl)) (j + 1) r1 = none := by
        unfold Acc at hacc
        cases hst : σ.st with
        | none => rw [hst] at hacc; exact many_none hacc 1
        | some r =>
          rw [hst] at hacc hno
          simp only [Option.bind_some] at hno
          rw [many_snoc, hacc.1]
          simp only [Option.bind_some, dec_nodes, places_evs _ hpl, hno, Option.map_none]
      have h := many_none this k
      rw [show j + 1 + k = N by omega] at h
      exact h
end Go.Proofs.YtiifcfngbbhgoagDoor.Rd

namespace Go.Proofs.YtiifcfngbbhgoagDoor.Rd
open Go Go.Proofs.YtiifcfngbbhgoagDoor.Ax Go.Proofs.YtiifcfngbbhgoagDoor.Wire
set_option maxRecDepth 100000
theorem storeS_evs {t : TypeId} {a v : SV} {s s1 : SS} (h : storeS t a v s = some s1) : s1.evs = s.evs := by
  unfold storeS at h
  split at h
  · split at h
    · split at h
      · simp at h; subst h; rfl
      · cases h
    · cases h
  · cases h
def InlEv (inl : Inl) : Prop := ∀ f args s s1, inl f args s = some s1 → s1.evs = s.evs
theorem opS_evs {C : Cfg} {mode : Option Bool} {inl : Inl} (hI : InlEv inl) {o : Oper} {s s1 : SS} (hs : opS C mode inl o s = some s1) : ∃ l, s1.evs = s.evs ++ l := by
  have hp : ∀ (s : SS) d v, (s.put d v).evs = s.evs := fun s d v => (put_fields s d v).2.2.1
  unfold opS at hs
  · split at hs
    · split at hs
      · simp only [Option.map_eq_some_iff] at hs
        obtain ⟨s2, h2, rfl⟩ := hs
        exact ⟨[], by rw [hp, storeS_evs h2]; simp⟩
      · cases hs
    · split at hs
      · split at hs
        · simp at hs; subst hs; exact ⟨_, hp _ _ _⟩
        · cases hs
      · split at hs
        · simp at hs; subst hs; exact ⟨_, hp _ _ _⟩
        · cases hs
      · split at hs
        · split at hs
          · simp at hs; subst hs; exact ⟨[], by rw [hp]; simp⟩
          · cases hs
        · cases hs
      · split at hs
        · split at hs
          · simp at hs; subst hs; exact ⟨[], by rw [hp]; simp⟩
          · cases hs
        · cases hs
      · split at hs
        · simp only [Option.map_eq_some_iff] at hs
          obtain ⟨s2, h2, rfl⟩ := hs
          exact ⟨[], by rw [hp, hI _ _ _ _ h2]; simp⟩
        · cases hs
      · cases hs
    · split at hs
      · split at hs
        · split at hs
          · split at hs
            · simp at hs; subst hs; exact ⟨[], by rw [hp]; simp⟩
            · simp at hs; subst hs; exact ⟨[], by rw [hp]; simp⟩
          · cases hs
        · cases hs
      · cases hs
    · split at hs
      · split at hs
        · split at hs
          · split at hs
            · split at hs
              · simp at hs; subst hs; exact ⟨[], by rw [hp]; simp⟩
              · cases hs
            · cases hs
          · cases hs
        · cases hs
      · cases hs
    · simp only [Option.map_eq_some_iff] at hs
      obtain ⟨v, _, rfl⟩ := hs
      exact ⟨[], by rw [hp]; simp⟩
theorem opsS_evs {C : Cfg} {mode : Option Bool} {inl : Inl} (hI : InlEv inl) {ops : List Oper} : ∀ (l : List Oper) {s s1 : SS}, opsS C mode inl ops l s = some s1 → ∃ l, s1.evs = s.evs ++ l
  | [], s, s1, h => by simp [opsS] at h; subst h; exact ⟨[], by simp⟩
  | o :: l, s, s1, h => by
    unfold opsS at h
    split at h
    · cases h2 : opS C mode inl o s with
      | none => rw [h2] at h; cases h
      | some s2 =>
        rw [h2] at h
        obtain ⟨a, ha⟩ := opS_evs hI h2
        obtain ⟨b, hb⟩ := opsS_evs hI l h
        exact ⟨a ++ b, by rw [hb, ha, List.append_assoc]⟩
    · obtain ⟨b, hb⟩ := opsS_evs hI l h
      exact ⟨b, by rw [hb, (put_fields _ _ _).2.2.1]⟩
    · cases h
theorem inlS_evs (C : Cfg) (n : Nat) : InlEv (inlS C n) := by
  cases n with
  | zero =>
    intro f args s s1 h
    simp [inlS] at h
  | succ n =>
    intro f args s s1 h
    have h : inlStep C (inlS C n) f args s = some s1 := h
    unfold inlStep at h
    split at h
    · split at h
      · split at h
        · split at h
          · split at h
            · simp at h; subst h; rfl
            · cases h
          · cases h
        · cases h
      · cases h
    · cases h
theorem Pre.eq {α : Type} {a b : List α} (h : Pre a b) (hl : b.length = a.length) : b = a := by
  apply List.ext_getElem?
  intro i
  by_cases hi : i < a.length
  · have : a[i]? = some a[i] := by simp [hi]
    rw [this]; exact h.at_ _ _ this
  · rw [List.getElem?_eq_none (by omega), List.getElem?_eq_none (by omega)]
theorem Step.env {C : Cfg} {st0 st1 : Option B} {s s' : SS} {σ σ' : Sta} (h : Step s s' σ σ') (h0 : OK C st0 s σ) (h1 : OK C st1 s' σ') (hw : s'.win.length = s.win.length) (he : s'.evs = s.evs) : σ'.η = σ.η := by
  have e1 := h.lv.eq (by rw [← h1.win.1, ← h0.win.1, hw])
  have e2 := h.av.eq (by rw [h1.avl, h0.avl, h.base, he])
  have e3 := h.ln
  have e4 := h.lq
  have e5 := h.rb
  cases hη' : σ'.η
  cases hη : σ.η
  rw [hη', hη] at e1 e2 e3 e4 e5
  simp at e1 e2 e3 e4 e5
  subst e1 e2 e3 e4 e5
  rfl
theorem inlS_ok {C : Cfg} (hC : Prims C) (n : Nat) : InlOK C (inlS C n) := by
  induction n with
  | zero =>
    intro f l o s s1 h
    simp [inlS] at h
  | succ n ih =>
    intro f l o s s1 h st0 σ x hok hx
    have h : inlStep C (inlS C n) f [.ptr l o] s = some s1 := h
    unfold inlStep at h
    split at h
    · rename_i fn hfn
      split at h
      · rename_i c hc
        split at h
        · rename_i hres
          split at h
          · rename_i xx s' xx' s'' h1 h2
            split at h
            · rename_i hcond
              obtain ⟨c1, rfl, rfl, c4, c5, c6, c7, c8, c9, c10⟩ := hcond
              simp at h; subst h
              have hfr : FR σ.η ([SV.ptr l o] ++ List.replicate (fn.ntmps - 1) .u) ([x] ++ List.replicate (fn.ntmps - 1) (.t [])) := by
                refine ⟨by simp, fun t v a hv ha => ?_⟩
                cases t with
                | zero => simp at hv ha; subst hv; subst ha; exact hx
                | succ t =>
                  simp [List.getElem?_replicate] at hv
                  rw [← hv.2]; trivial
              have hok2 : OK C st0 { s with fr := [SV.ptr l o] ++ List.replicate (fn.ntmps - 1) .u } { σ with fr := [x] ++ List.replicate (fn.ntmps - 1) (.t []) } :=
                ⟨hfr, hok.win, hok.ln, hok.nd, hok.room, hok.rd, hok.rbl, hok.avl, hok.one, hok.wid, hok.zl, hok.zer, hok.lvj, hok.run, hok.rep⟩
              obtain ⟨σ1, r, q2, q3, q4⟩ : ∃ σ1, RU P NS c ([x] ++ List.replicate (fn.ntmps - 1) (.t [])) σ.H (xx'.ax, σ1.fr, σ1.H) ∧ OK C st0 s'' σ1 ∧ Step { s with fr := [SV.ptr l o] ++ List.replicate (fn.ntmps - 1) .u } s'' { σ with fr := [x] ++ List.replicate (fn.ntmps - 1) (.t []) } σ1 ∧ σ1.st = σ.st := by
                cases hst : σ.st.isSome with
                | true =>
                  obtain ⟨σ1, r, q2, q3, q4⟩ := runS_sound hC ih _ c h1 hok2 (fun m hm => by cases hm; exact hst)
                  exact ⟨σ1, r, q2, q3, (q4 (by simp)).1⟩
                | false =>
                  obtain ⟨σ1, r, q2, q3, q4⟩ := runS_sound hC ih _ c h2 hok2 (fun m hm => by cases hm; exact hst)
                  exact ⟨σ1, r, q2, q3, (q4 (by simp)).1⟩
              have hη0 := Step.env q3 hok2 q2 c4 c5
              have hη : σ1.η = σ.η := hη0
              refine ⟨{ σ1 with fr := σ.fr }, ?_, rfl, ⟨?_, q2.win, q2.ln, q2.nd, q2.room, fun hr => q2.rd (c9.trans hr), q2.rbl, ?_, q2.one, ?_, ?_, ?_, ?_, ?_, ?_⟩, ⟨q3.rb, q3.lv, q3.ln, q3.lq, q3.av, q3.kt, q3.side, rfl, q3.wl, ⟨[], by simp⟩, rfl, rfl, rfl, q3.rbk⟩, rfl, q4⟩
              · have hr0 : fn.results.toList = [] := by
                  have : fn.results = #[] := Array.size_eq_zero_iff.1 hres
                  rw [this]
                have := CA.go (P := P) (f := f) (fn := fn) (c := c) (args := [x]) (H := σ.H) (H1 := σ1.H) (x := xx'.ax) (vs := []) hfn hc (by rcases c1 with rfl | rfl <;> simp [XS.ax]) ⟨σ1.fr, r, by rw [hr0]; rfl⟩ (NS_none c10 _ _)
                exact this
              · show FR σ1.η s.fr σ.fr
                rw [hη]; exact hok.fr
              · have := q2.avl; rw [c5, c8] at this; exact this
              · have := q2.wid; rw [c5, c8] at this; exact this
              · have := q2.zl; rw [c6] at this; exact this
              · have := q2.zer; rw [c6] at this; exact this
              · have := q2.lvj; rw [c7] at this; exact this
              · have := q2.run; rw [c5] at this; exact this
              · have := q2.rep; rw [c5, c8] at this; exact this
            · cases h
          · cases h
        · cases h
      · cases h
    · cases h
theorem lenOp_spec {C : Cfg} {L r : List Oper} {d : Nat} {x : Operand} (h : lenOp C L = some (d, x, r)) : ∃ f args ats ty pos af, L = ⟨some d, .call { callee := .value (.func f), args := args, argTypes := ats }, ty, pos, af, none⟩ :: r ∧ C.prim.lookup f = some (.len C.flex) ∧ args.toList = [x] := by
  unfold lenOp at h
  split at h
  · rename_i d' f args ats ty pos af r'
    split at h
    · rename_i fx x' hl ha
      split at h
      · rename_i e; subst e
        simp at h
        obtain ⟨rfl, rfl, rfl⟩ := h
        exact ⟨f, args, ats, ty, pos, af, rfl, hl, ha⟩
      · cases h
    · cases h
  · cases h
end Go.Proofs.YtiifcfngbbhgoagDoor.Rd

