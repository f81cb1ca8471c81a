import Derived.Test.YtopfghmpaobnnaaDoorQSxSound
/-
  THE CHECKER is sound, lists and all.
-/
namespace Go.Proofs.YtopfghmpaobnnaaDoor.Rd
set_option linter.constructorNameAsVariable false
set_option linter.unusedVariables false
set_option linter.unusedSimpArgs false
open Go Go.Proofs.YtopfghmpaobnnaaDoor.Ax Go.Proofs.YtopfghmpaobnnaaDoor.Wire
set_option linter.unusedVariables false
set_option linter.unusedSimpArgs false
set_option maxRecDepth 100000

theorem chkSeg_evs {C : Cfg} {rec : List Code → SS → Option SS} (hr : ∀ cs s s', rec cs s = some s' → ∃ l, s'.evs = s.evs ++ l) {s s' : SS} {d : Nat} {x : Operand} {r ops : List Oper} {rest : List Code} (h : chkSeg C rec s d x r ops rest = some s') : ∃ l, s'.evs = s.evs ++ l := by
  unfold chkSeg at h
  split at h
  · simp only at h
    split at h
    · split at h
      · split at h
        · split at h
          · split at h
            · split at h
              · split at h
                · obtain ⟨l, hl⟩ := hr _ _ _ h
                  exact ⟨_, by rw [hl, List.append_assoc]⟩
                · cases h
              · cases h
            · cases h
          · cases h
        · cases h
      · cases h
    · cases h
  · cases h
theorem chk_evs {C : Cfg} (n : Nat) : ∀ cs s s', chk C n cs s = some s' → ∃ l, s'.evs = s.evs ++ l := by
  induction n with
  | zero => intro cs s s' h; cases h
  | succ n ih =>
    intro cs s s' h
    have h : chkStep C (chk C n) cs s = some s' := h
    unfold chkStep at h
    split at h
    · simp at h; subst h; exact ⟨[], by simp⟩
    · split at h
      · exact chkSeg_evs ih h
      · cases h2 : opsS C none (inlS C 6) _ _ s with
        | none => rw [h2] at h; cases h
        | some s2 =>
          rw [h2] at h
          simp only [Option.bind_some] at h
          obtain ⟨a, ha⟩ := opsS_evs (inlS_evs C 6) _ h2
          obtain ⟨b, hb⟩ := ih _ _ _ h
          exact ⟨a ++ b, by rw [hb, ha, List.append_assoc]⟩
    · split at h
      · exact ih _ _ _ h
      · exact ih _ _ _ h
      · cases h
    · exact ih _ _ _ h
    · cases h

theorem Outcome.cons {C : Cfg} {c : Code} {rest : List Code} {st0 : Option B} {s s1 s' : SS} {σ σ1 : Sta} (h : RU P NS c σ.fr σ.H (.normal, σ1.fr, σ1.H)) (st : Step s s1 σ σ1) (k : Outcome C rest st0 s1 s' σ1) : Outcome C (c :: rest) st0 s s' σ := by
  rcases k with ⟨σ', h1, h2, h3⟩ | ⟨fr', H', h1, h2, h3⟩
  · exact .inl ⟨σ', RUs.cons h h1, h2, st.trans h3⟩
  · exact .inr ⟨fr', H', RUs.cons h h1, h2, h3⟩
theorem Outcome.flat {C : Cfg} {c d : Code} {rest : List Code} {st0 : Option B} {s s' : SS} {σ : Sta} (hn : ∀ fr1 H1, RU P NS c σ.fr σ.H (.normal, fr1, H1) → RU P NS d σ.fr σ.H (.normal, fr1, H1)) (hr : ∀ fr1 H1, RU P NS c σ.fr σ.H (.ret, fr1, H1) → RU P NS d σ.fr σ.H (.ret, fr1, H1))
    (k : Outcome C (flat c ++ rest) st0 s s' σ) : Outcome C (d :: rest) st0 s s' σ := by
  rcases k with ⟨σ', h1, h2, h3⟩ | ⟨fr', H', h1, h2, h3⟩
  · rcases RUs.split h1 with ⟨fr1, H1, p1, p2⟩ | ⟨p1, _⟩
    · exact .inl ⟨σ', RUs.cons (hn _ _ (RUs.code p1)) p2, h2, h3⟩
    · exact absurd rfl p1
  · rcases RUs.split h1 with ⟨fr1, H1, p1, p2⟩ | ⟨_, p2⟩
    · exact .inr ⟨fr', H', RUs.cons (hn _ _ (RUs.code p1)) p2, h2, h3⟩
    · exact .inr ⟨fr', H', RUs.stop (hr _ _ (RUs.code p2)) (by simp), h2, h3⟩

theorem Step.lnl {C : Cfg} {st1 : Option B} {s s' : SS} {σ σ' : Sta} (h : Step s s' σ σ') (h1 : OK C st1 s' σ') (hl : σ.η.ln.length = σ.η.lv.length) : σ'.η.ln.length = σ'.η.lv.length := by
  have a := h1.ln
  have b : σ.η.lv.length ≤ σ'.η.lv.length := by
    by_cases hz : σ.η.lv.length = 0
    · omega
    · have hx : σ.η.lv[σ.η.lv.length - 1]? = some σ.η.lv[σ.η.lv.length - 1] := by simp
      have := (List.getElem?_eq_some_iff.1 (h.lv.at_ _ _ hx)).1
      omega
  rw [h.ln] at a ⊢
  omega
theorem OK.run_none {C : Cfg} {st0 : Option B} {s : SS} {σ : Sta} (h : OK C st0 s σ) {e : Ev} (hd : σ.st.bind (e.dec C.flex) = none) : st0.bind (runE C.flex (s.evs ++ [e])) = none := by
  have hrun := h.run
  cases hst : σ.st with
  | none =>
    rw [hst] at hrun
    cases st0 with
    | none => rfl
    | some bs =>
      simp only [Option.bind_some] at hrun ⊢
      rw [runE_snoc, hrun]; rfl
  | some r =>
    rw [hst] at hrun hd
    obtain ⟨bs0, rfl, hr⟩ := hrun
    simp only [Option.bind_some] at hd ⊢
    rw [runE_snoc, hr]; simp [hd]
theorem run_more {flex : Bool} {st0 : Option B} {a : List Ev} (h : st0.bind (runE flex a) = none) (b : List Ev) : st0.bind (runE flex (a ++ b)) = none := by
  cases st0 with
  | none => rfl
  | some bs => exact runE_more h b
theorem OK.st_nil {C : Cfg} {st0 : Option B} {s : SS} {σ : Sta} (h : OK C st0 s σ) (he : s.evs = []) : σ.st = st0 := by
  have hrun := h.run
  rw [he] at hrun
  cases hst : σ.st with
  | none =>
    rw [hst] at hrun
    cases st0 with
    | none => rfl
    | some bs => simp [runE] at hrun
  | some r =>
    rw [hst] at hrun
    obtain ⟨bs0, rfl, hr⟩ := hrun
    simp [runE] at hr
    rw [hr.2]

/-- Behind a list. -/
theorem OK.list {C : Cfg} {st0 stX : Option B} {s sX : SS} {σ σX : Sta} (h : OK C st0 s σ) (hX : OK C stX sX σX) (mv : Mv s.win σ σX) (hlv : σ.η.ln.length = σ.η.lv.length) (hw : sX.win.take s.win.length = s.win) (hz : sX.zs.take s.win.length = s.zs) (hry : sX.rdy = true) (hry0 : s.rdy = true)
    (hzc : (s.zs.all fun z => (z.getD []).all fun v => v.con.isSome) = true) (hst : (s.win.all fun w => w.all SV.still) = true) {sz : Nat} {null : Bool} {f : F} {y : AV} (hy1 : y.cells.length = 1) (hy2 : y.cells.all AV.one = true)
    (hres : match σ.st.bind ((Ev.list sz null f).dec C.flex) with | none => σX.st = none | some (v, r) => σX.st = some r ∧ RepE (AO σ.η) σX.H (.list sz null f) v y) {fr : SF} (hfr : FR { σ.η with av := σ.η.av ++ [y] } fr σX.fr) (hfl : fr.length = s.fr.length) :
    ∃ vs, OK C st0 { s with fr := fr, evs := s.evs ++ [.list sz null f] } { σX with η := { σ.η with av := σ.η.av ++ [y] }, vs := vs } ∧
      Step s { s with fr := fr, evs := s.evs ++ [.list sz null f] } σ { σX with η := { σ.η with av := σ.η.av ++ [y] }, vs := vs } := by
  have hAO : ∀ i, AO σX.η i → AO σ.η i := fun i hi => by
    unfold AO at hi ⊢
    intro hm
    apply hi
    rw [List.mem_cons] at hm ⊢
    rcases hm with rfl | hm
    · exact .inl mv.rb.symm
    · obtain ⟨e, he, rfl⟩ := List.mem_map.1 hm
      obtain ⟨k, hk⟩ := List.mem_iff_getElem?.1 he
      have hkl := (List.getElem?_eq_some_iff.1 hk).1
      exact .inr (List.mem_map.2 ⟨e, List.mem_of_getElem? (mv.lv k e (by rw [h.win.1]; exact hkl) hk), rfl⟩)
  have hkt : KT (AO σ.η) σ.H (AO σ.η) σX.H := mv.kt.trans (KT.sub hAO _)
  have hktX : KT (AO σX.η) σX.H (AO σ.η) σX.H := KT.sub hAO _
  have hmono : ∀ v a, v.still = true → ∀ a0, den σ.η v a0 → den σX.η v a → den { σ.η with av := σ.η.av ++ [y] } v a := fun v a hv a0 d0 d => den_still (η := σ.η) (η' := σX.η) (η2 := { σ.η with av := σ.η.av ++ [y] }) hv mv.av (.app _ _) d0 d
  have hlvX : ∀ l e, σ.η.lv[l]? = some e → σX.η.lv[l]? = some e := fun l e he => mv.lv l e (by rw [h.win.1]; exact (List.getElem?_eq_some_iff.1 he).1) he
  have hwX : ∀ l w, s.win[l]? = some w → sX.win[l]? = some w := fun l w hl => by
    rw [← hw, List.getElem?_take] at hl
    split at hl
    · exact hl
    · cases hl
  have hzX : ∀ l (w : Option SF), s.zs[l]? = some w → sX.zs[l]? = some w := fun l w hl => by
    rw [← hz, List.getElem?_take] at hl
    split at hl
    · exact hl
    · cases hl
  refine ⟨match σ.st.bind ((Ev.list sz null f).dec C.flex) with | none => [] | some (v, _) => σ.vs ++ [v], ⟨hfr, ⟨h.win.1, fun l e w he hwl => ?_⟩, h.ln, h.nd, ?_, fun _ => ?_, Nat.lt_of_lt_of_le h.rbl hkt.1, by simp [h.avl]; omega, fun n a hn => ?_, fun i e' a he' ha => ?_, h.zl, fun l e w z he hwl hzl => ?_, h.lvj, ?_, fun hsome i e' v a he' hv ha => ?_⟩,
    ⟨rfl, .refl _, rfl, rfl, .app _ _, hkt, mv.side, rfl, fun l w hl => ⟨w, hl, rfl⟩, ⟨_, rfl⟩, hfl, rfl, rfl, fun hr => by rw [hry0] at hr; cases hr⟩⟩
  · obtain ⟨q1, ty', kn', cs', q2, q3, q4, q5⟩ := hX.win.2 l e w (hlvX l e he) (hwX l w hwl)
    obtain ⟨_, _, _, _, _, _, _, p5⟩ := h.win.2 l e w he hwl
    rw [List.all_eq_true] at hst
    have hws := hst w (List.mem_of_getElem? hwl)
    rw [List.all_eq_true] at hws
    refine ⟨q1, ty', kn', cs', q2, q3, q4, fun o v hv => ?_⟩
    obtain ⟨a, a1, a2, a3⟩ := q5 o v hv
    obtain ⟨a0, _, _, d0⟩ := p5 o v hv
    exact ⟨a, a1, a2, hmono v a (hws v (List.mem_of_getElem? hv)) a0 d0 a3⟩
  · exact Room.kt h.room hkt (AO_rb σ.η) (fun i hi => h.room.new i (Nat.le_trans hkt.1 hi))
  · have := hX.rd hry
    rw [mv.rb] at this
    exact rdAt_kt this hktX rfl
  · have hn' : (σ.η.av ++ [y])[n]? = some a := hn
    by_cases hlt : n < σ.η.av.length
    · rw [List.getElem?_append_left hlt] at hn'; exact h.one n a hn'
    · have := (List.getElem?_eq_some_iff.1 hn').1
      simp at this
      obtain rfl : n = σ.η.av.length := by omega
      simp at hn'; subst hn'; exact hy2
  · have ha' : (σ.η.av ++ [y])[s.base + i]? = some a := ha
    have he2 : (s.evs ++ [Ev.list sz null f])[i]? = some e' := he'
    by_cases hlt : i < s.evs.length
    · rw [List.getElem?_append_left (by rw [h.avl]; omega)] at ha'
      rw [List.getElem?_append_left hlt] at he2
      exact h.wid i e' a he2 ha'
    · have := (List.getElem?_eq_some_iff.1 he2).1
      simp at this
      obtain rfl : i = s.evs.length := by omega
      rw [← h.avl] at ha'
      simp at ha' he2
      subst ha'; subst he2; exact hy1
  · obtain ⟨z1, ty', bl', n', q2, q3, q4, q5⟩ := hX.zer l e w z (hlvX l e he) (hwX l w hwl) (hzX l _ hzl)
    have hl2 : l < σ.η.ln.length := by rw [hlv]; exact (List.getElem?_eq_some_iff.1 he).1
    have hln : σ.η.ln[l]? = some n' := by
      have hx : σ.η.ln[l]? = some σ.η.ln[l] := by simp [hl2]
      have := mv.ln.at_ _ _ hx
      rw [q3] at this
      rw [hx, this]
    refine ⟨z1, ty', bl', n', q2, hln, q4, fun q hq hqn o v hv => ?_⟩
    obtain ⟨a, a1, a2, a3⟩ := q5 q hq hqn o v hv
    rw [List.all_eq_true] at hzc
    have := hzc _ (List.mem_of_getElem? hzl)
    simp only [Option.getD_some, List.all_eq_true] at this
    exact ⟨a, a1, a2, den_con (this v (List.mem_of_getElem? hv)) a3⟩
  · show (match σX.st with | some r => _ | none => _)
    cases hd : σ.st.bind ((Ev.list sz null f).dec C.flex) with
    | none =>
      rw [hd] at hres
      simp only at hres
      rw [hres]
      exact h.run_none hd
    | some p =>
      obtain ⟨v, r⟩ := p
      rw [hd] at hres
      obtain ⟨h1, _⟩ := hres
      rw [h1]
      have hrun := h.run
      cases hs2 : σ.st with
      | none => rw [hs2] at hd; cases hd
      | some r0 =>
        rw [hs2] at hrun hd
        obtain ⟨bs0, e0, hr⟩ := hrun
        simp only [Option.bind_some] at hd
        refine ⟨bs0, e0, ?_⟩
        rw [runE_snoc, hr]; simp [hd]
  · have ha' : (σ.η.av ++ [y])[s.base + i]? = some a := ha
    have he2 : (s.evs ++ [Ev.list sz null f])[i]? = some e' := he'
    cases hd : σ.st.bind ((Ev.list sz null f).dec C.flex) with
    | none =>
      rw [hd] at hres
      have hs3 : σX.st.isSome = true := hsome
      simp only at hres
      rw [hres] at hs3; cases hs3
    | some p =>
      obtain ⟨v1, r1⟩ := p
      rw [hd] at hres
      obtain ⟨h1, hrep⟩ := hres
      have hvl : σ.vs.length = s.evs.length ∧ σ.st.isSome = true := by
        have hrun := h.run
        cases hs2 : σ.st with
        | none => rw [hs2] at hd; cases hd
        | some r =>
          rw [hs2] at hrun
          obtain ⟨bs0, _, hr⟩ := hrun
          exact ⟨runE_length hr, rfl⟩
      have hv2 : (σ.vs ++ [v1])[i]? = some v := by
        have hv3 : (match σ.st.bind ((Ev.list sz null f).dec C.flex) with | none => [] | some (v, _) => σ.vs ++ [v])[i]? = some v := hv
        rw [hd] at hv3; exact hv3
      by_cases hlt : i < s.evs.length
      · rw [List.getElem?_append_left (by rw [h.avl]; omega)] at ha'
        rw [List.getElem?_append_left hlt] at he2
        rw [List.getElem?_append_left (by omega)] at hv2
        exact RepE.kt hkt (h.rep hvl.2 i e' v a he2 hv2 ha')
      · have := (List.getElem?_eq_some_iff.1 he2).1
        simp at this
        obtain rfl : i = s.evs.length := by omega
        rw [← h.avl] at ha'
        rw [← hvl.1] at hv2
        simp at ha' he2 hv2
        subst ha'; subst he2; subst hv2; exact hrep
end Go.Proofs.YtopfghmpaobnnaaDoor.Rd

