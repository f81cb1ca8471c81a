/-
  THE CHECKER is sound, lists and all.
-/
import Derived.Test.YtiifcfngbbhgoagDoorQSxBox
set_option linter.constructorNameAsVariable false
set_option linter.unusedVariables false
set_option linter.unusedSimpArgs false
namespace Go.Proofs.YtiifcfngbbhgoagDoor.Rd
open Go Go.Proofs.YtiifcfngbbhgoagDoor.Ax Go.Proofs.YtiifcfngbbhgoagDoor.Wire
set_option maxRecDepth 100000
theorem chkSeg_evs {C : Cfg} {rec : List Code → SS → Option SS} (hr : ∀ cs s s', rec cs s = some s' → ∃ l, s'.evs = s.evs ++ l) {s s' : SS} {d : Nat} {x : Operand} {r ops : List Oper} {rest : List Code} (h : chkSeg C rec s d x r ops rest = some s') : ∃ l, s'.evs = s.evs ++ l := by
  unfold chkSeg at h
  split at h
  · simp only at h
    split at h
    · split at h
      · split at h
        · split at h
          · split at h
            · split at h
              · split at h
                · obtain ⟨l, hl⟩ := hr _ _ _ h
                  exact ⟨_, by rw [hl, List.append_assoc]⟩
                · cases h
              · cases h
            · cases h
          · cases h
        · cases h
      · cases h
    · cases h
  · cases h
theorem chk_evs {C : Cfg} (n : Nat) : ∀ cs s s', chk C n cs s = some s' → ∃ l, s'.evs = s.evs ++ l := by
  induction n with
  | zero => intro cs s s' h; cases h
  | succ n ih =>
    intro cs s s' h
    have h : chkStep C (chk C n) cs s = some s' := h
    unfold chkStep at h
    split at h
    · simp at h; subst h; exact ⟨[], by simp⟩
    · split at h
      · exact chkSeg_evs ih h
      · split at h
        · rename_i s2 rest2 hb2
          obtain ⟨a, ha⟩ := boxM_evs (inlS_evs C 6) hb2
          obtain ⟨b, hb⟩ := ih _ _ _ h
          exact ⟨a ++ b, by rw [hb, ha, List.append_assoc]⟩
        · split at h
          · rename_i s2 rest2 hb2
            obtain ⟨a, ha⟩ := boxPM_evs hb2
            obtain ⟨b, hb⟩ := ih _ _ _ h
            exact ⟨a ++ b, by rw [hb, ha, List.append_assoc]⟩
          · cases h2 : opsS C none (inlS C 6) _ _ s with
            | none => rw [h2] at h; cases h
            | some s2 =>
              rw [h2] at h
              simp only [Option.bind_some] at h
              obtain ⟨a, ha⟩ := opsS_evs (inlS_evs C 6) _ h2
              obtain ⟨b, hb⟩ := ih _ _ _ h
              exact ⟨a ++ b, by rw [hb, ha, List.append_assoc]⟩
    · split at h
      · exact ih _ _ _ h
      · exact ih _ _ _ h
      · cases h
    · exact ih _ _ _ h
    · cases h
theorem Outcome.cons {C : Cfg} {c : Code} {rest : List Code} {st0 : Option B} {s s1 s' : SS} {σ σ1 : Sta} (h : RU P NS c σ.fr σ.H (.normal, σ1.fr, σ1.H)) (st : Step s s1 σ σ1) (k : Outcome C rest st0 s1 s' σ1) : Outcome C (c :: rest) st0 s s' σ := by
  rcases k with ⟨σ', h1, h2, h3⟩ | ⟨fr', H', h1, h2, h3⟩
  · exact .inl ⟨σ', RUs.cons h h1, h2, st.trans h3⟩
  · exact .inr ⟨fr', H', RUs.cons h h1, h2, h3⟩
theorem Outcome.cons2 {C : Cfg} {c d : Code} {rest : List Code} {st0 : Option B} {s s1 s' : SS} {σ σ1 : Sta} {fr1 : List AV} {H1 : Heap} (h : RU P NS c σ.fr σ.H (.normal, fr1, H1)) (h2 : RU P NS d fr1 H1 (.normal, σ1.fr, σ1.H)) (st : Step s s1 σ σ1) (k : Outcome C rest st0 s1 s' σ1) : Outcome C (c :: d :: rest) st0 s s' σ := by
  rcases k with ⟨σ', h1, h3, h4⟩ | ⟨fr', H', h1, h3, h4⟩
  · exact .inl ⟨σ', RUs.cons h (RUs.cons h2 h1), h3, st.trans h4⟩
  · exact .inr ⟨fr', H', RUs.cons h (RUs.cons h2 h1), h3, h4⟩
theorem Outcome.via {C : Cfg} {cs rest : List Code} {st0 : Option B} {s s1 s' : SS} {σ σ1 : Sta} (h : ∀ x fr' H', RUs rest σ1.fr σ1.H (x, fr', H') → RUs cs σ.fr σ.H (x, fr', H')) (st : Step s s1 σ σ1) (k : Outcome C rest st0 s1 s' σ1) : Outcome C cs st0 s s' σ := by
  rcases k with ⟨σ', h1, h2, h3⟩ | ⟨fr', H', h1, h2, h3⟩
  · exact .inl ⟨σ', h _ _ _ h1, h2, st.trans h3⟩
  · exact .inr ⟨fr', H', h _ _ _ h1, h2, h3⟩
theorem Outcome.flat {C : Cfg} {c d : Code} {rest : List Code} {st0 : Option B} {s s' : SS} {σ : Sta} (hn : ∀ fr1 H1, RU P NS c σ.fr σ.H (.normal, fr1, H1) → RU P NS d σ.fr σ.H (.normal, fr1, H1)) (hr : ∀ fr1 H1, RU P NS c σ.fr σ.H (.ret, fr1, H1) → RU P NS d σ.fr σ.H (.ret, fr1, H1))
    (k : Outcome C (flat c ++ rest) st0 s s' σ) : Outcome C (d :: rest) st0 s s' σ := by
  rcases k with ⟨σ', h1, h2, h3⟩ | ⟨fr', H', h1, h2, h3⟩
  · rcases RUs.split h1 with ⟨fr1, H1, p1, p2⟩ | ⟨p1, _⟩
    · exact .inl ⟨σ', RUs.cons (hn _ _ (RUs.code p1)) p2, h2, h3⟩
    · exact absurd rfl p1
  · rcases RUs.split h1 with ⟨fr1, H1, p1, p2⟩ | ⟨_, p2⟩
    · exact .inr ⟨fr', H', RUs.cons (hn _ _ (RUs.code p1)) p2, h2, h3⟩
    · exact .inr ⟨fr', H', RUs.stop (hr _ _ (RUs.code p2)) (by simp), h2, h3⟩
theorem Step.lnl {C : Cfg} {st1 : Option B} {s s' : SS} {σ σ' : Sta} (h : Step s s' σ σ') (h1 : OK C st1 s' σ') (hl : σ.η.ln.length = σ.η.lv.length) : σ'.η.ln.length = σ'.η.lv.length := by
  have a := h1.ln
  have b : σ.η.lv.length ≤ σ'.η.lv.length := by
    by_cases hz : σ.η.lv.length = 0
    · omega
    · have hx : σ.η.lv[σ.η.lv.length - 1]? = some σ.η.lv[σ.η.lv.length - 1] := by simp
      have := (List.getElem?_eq_some_iff.1 (h.lv.at_ _ _ hx)).1
      omega
  rw [h.ln] at a ⊢
  omega
theorem OK.run_none {C : Cfg} {st0 : Option B} {s : SS} {σ : Sta} (h : OK C st0 s σ) {e : Ev} (hd : σ.st.bind (e.dec C.flex) = none) : st0.bind (runE C.flex (s.evs ++ [e])) = none := by
  have hrun := h.run
  cases hst : σ.st with
  | none =>
    rw [hst] at hrun
    cases st0 with
    | none => rfl
    | some bs =>
      simp only [Option.bind_some] at hrun ⊢
      rw [runE_snoc, hrun]; rfl
  | some r =>
    rw [hst] at hrun hd
    obtain ⟨bs0, rfl, hr⟩ := hrun
    simp only [Option.bind_some] at hd ⊢
    rw [runE_snoc, hr]; simp [hd]
theorem run_more {flex : Bool} {st0 : Option B} {a : List Ev} (h : st0.bind (runE flex a) = none) (b : List Ev) : st0.bind (runE flex (a ++ b)) = none := by
  cases st0 with
  | none => rfl
  | some bs => exact runE_more h b
theorem OK.st_nil {C : Cfg} {st0 : Option B} {s : SS} {σ : Sta} (h : OK C st0 s σ) (he : s.evs = []) : σ.st = st0 := by
  have hrun := h.run
  rw [he] at hrun
  cases hst : σ.st with
  | none =>
    rw [hst] at hrun
    cases st0 with
    | none => rfl
    | some bs => simp [runE] at hrun
  | some r =>
    rw [hst] at hrun
    obtain ⟨bs0, rfl, hr⟩ := hrun
    simp [runE] at hr
    rw [hr.2]
theorem OK.list {C : Cfg} {st0 stX : Option B} {s sX : SS} {σ σX : Sta} (h : OK C st0 s σ) (hX : OK C stX sX σX) (mv : Mv s.win σ σX) (hlv : σ.η.ln.length = σ.η.lv.length) (hw : sX.win.take s.win.length = s.win) (hz : sX.zs.take s.win.length = s.zs) (hry : sX.rdy = true) (hry0 : s.rdy = true)
    (hzc : (s.zs.all fun z => (z.getD []).all fun v => v.con.isSome) = true) (hst : (s.win.all fun w => w.all SV.still) = true) {sz : Nat} {null : Bool} {f : F} {y : AV} (hy1 : y.cells.length = 1) (hy2 : y.cells.all AV.one = true)
    (hres : match σ.st.bind ((Ev.list sz null f).dec C.flex) with | none => σX.st = none | some (v, r) => σX.st = some r ∧ RepE (AO σ.η) σX.H (.list sz null f) v y) {fr : SF} (hfr : FR { σ.η with av := σ.η.av ++ [y] } fr σX.fr) (hfl : fr.length = s.fr.length) :
    ∃ vs, OK C st0 { s with fr := fr, evs := s.evs ++ [.list sz null f] } { σX with η := { σ.η with av := σ.η.av ++ [y] }, vs := vs } ∧
      Step s { s with fr := fr, evs := s.evs ++ [.list sz null f] } σ { σX with η := { σ.η with av := σ.η.av ++ [y] }, vs := vs } := by
  have hAO : ∀ i, AO σX.η i → AO σ.η i := fun i hi => by
    unfold AO at hi ⊢
    intro hm
    apply hi
    rw [List.mem_cons] at hm ⊢
    rcases hm with rfl | hm
    · exact .inl mv.rb.symm
    · obtain ⟨e, he, rfl⟩ := List.mem_map.1 hm
      obtain ⟨k, hk⟩ := List.mem_iff_getElem?.1 he
      have hkl := (List.getElem?_eq_some_iff.1 hk).1
      exact .inr (List.mem_map.2 ⟨e, List.mem_of_getElem? (mv.lv k e (by rw [h.win.1]; exact hkl) hk), rfl⟩)
  have hkt : KT (AO σ.η) σ.H (AO σ.η) σX.H := mv.kt.trans (KT.sub hAO _)
  have hktX : KT (AO σX.η) σX.H (AO σ.η) σX.H := KT.sub hAO _
  have hmono : ∀ v a, v.still = true → ∀ a0, den σ.η v a0 → den σX.η v a → den { σ.η with av := σ.η.av ++ [y] } v a := fun v a hv a0 d0 d => den_still (η := σ.η) (η' := σX.η) (η2 := { σ.η with av := σ.η.av ++ [y] }) hv mv.av (.app _ _) d0 d
  have hlvX : ∀ l e, σ.η.lv[l]? = some e → σX.η.lv[l]? = some e := fun l e he => mv.lv l e (by rw [h.win.1]; exact (List.getElem?_eq_some_iff.1 he).1) he
  have hwX : ∀ l w, s.win[l]? = some w → sX.win[l]? = some w := fun l w hl => by
    rw [← hw, List.getElem?_take] at hl
    split at hl
    · exact hl
    · cases hl
  have hzX : ∀ l (w : Option SF), s.zs[l]? = some w → sX.zs[l]? = some w := fun l w hl => by
    rw [← hz, List.getElem?_take] at hl
    split at hl
    · exact hl
    · cases hl
  refine ⟨match σ.st.bind ((Ev.list sz null f).dec C.flex) with | none => [] | some (v, _) => σ.vs ++ [v], ⟨hfr, ⟨h.win.1, fun l e w he hwl => ?_⟩, h.ln, h.nd, ?_, fun _ => ?_, Nat.lt_of_lt_of_le h.rbl hkt.1, by simp [h.avl]; omega, fun n a hn => ?_, fun i e' a he' ha => ?_, h.zl, fun l e w z he hwl hzl => ?_, h.lvj, ?_, fun hsome i e' v a he' hv ha => ?_⟩,
    ⟨rfl, .refl _, rfl, rfl, .app _ _, hkt, mv.side, rfl, fun l w hl => ⟨w, hl, rfl⟩, ⟨_, rfl⟩, hfl, rfl, rfl, fun hr => by rw [hry0] at hr; cases hr⟩⟩
  · obtain ⟨q1, ty', kn', cs', q2, q3, q4, q5⟩ := hX.win.2 l e w (hlvX l e he) (hwX l w hwl)
    obtain ⟨_, _, _, _, _, _, _, p5⟩ := h.win.2 l e w he hwl
    rw [List.all_eq_true] at hst
    have hws := hst w (List.mem_of_getElem? hwl)
    rw [List.all_eq_true] at hws
    refine ⟨q1, ty', kn', cs', q2, q3, q4, fun o v hv => ?_⟩
    obtain ⟨a, a1, a2, a3⟩ := q5 o v hv
    obtain ⟨a0, _, _, d0⟩ := p5 o v hv
    exact ⟨a, a1, a2, hmono v a (hws v (List.mem_of_getElem? hv)) a0 d0 a3⟩
  · exact Room.kt h.room hkt (AO_rb σ.η) (fun i hi => h.room.new i (Nat.le_trans hkt.1 hi))
  · have := hX.rd hry
    rw [mv.rb] at this
    exact rdAt_kt this hktX rfl
  · have hn' : (σ.η.av ++ [y])[n]? = some a := hn
    by_cases hlt : n < σ.η.av.length
    · rw [List.getElem?_append_left hlt] at hn'; exact h.one n a hn'
    · have := (List.getElem?_eq_some_iff.1 hn').1
      simp at this
      obtain rfl : n = σ.η.av.length := by omega
      simp at hn'; subst hn'; exact hy2
  · have ha' : (σ.η.av ++ [y])[s.base + i]? = some a := ha
    have he2 : (s.evs ++ [Ev.list sz null f])[i]? = some e' := he'
    by_cases hlt : i < s.evs.length
    · rw [List.getElem?_append_left (by rw [h.avl]; omega)] at ha'
      rw [List.getElem?_append_left hlt] at he2
      exact h.wid i e' a he2 ha'
    · have := (List.getElem?_eq_some_iff.1 he2).1
      simp at this
      obtain rfl : i = s.evs.length := by omega
      rw [← h.avl] at ha'
      simp at ha' he2
      subst ha'; subst he2; exact hy1
  · obtain ⟨z1, ty', bl', n', q2, q3, q4, q5⟩ := hX.zer l e w z (hlvX l e he) (hwX l w hwl) (hzX l _ hzl)
    have hl2 : l < σ.η.ln.length := by rw [hlv]; exact (List.getElem?_eq_some_iff.1 he).1
    have hln : σ.η.ln[l]? = some n' := by
      have hx : σ.η.ln[l]? = some σ.η.ln[l] := by simp [hl2]
      have := mv.ln.at_ _ _ hx
      rw [q3] at this
      rw [hx, this]
    refine ⟨z1, ty', bl', n', q2, hln, q4, fun q hq hqn o v hv => ?_⟩
    obtain ⟨a, a1, a2, a3⟩ := q5 q hq hqn o v hv
    rw [List.all_eq_true] at hzc
    have := hzc _ (List.mem_of_getElem? hzl)
    simp only [Option.getD_some, List.all_eq_true] at this
    exact ⟨a, a1, a2, den_con (this v (List.mem_of_getElem? hv)) a3⟩
  · show (match σX.st with | some r => _ | none => _)
    cases hd : σ.st.bind ((Ev.list sz null f).dec C.flex) with
    | none =>
      rw [hd] at hres
      simp only at hres
      rw [hres]
      exact h.run_none hd
    | some p =>
      obtain ⟨v, r⟩ := p
      rw [hd] at hres
      obtain ⟨h1, _⟩ := hres
      rw [h1]
      have hrun := h.run
      cases hs2 : σ.st with
      | none => rw [hs2] at hd; cases hd
      | some r0 =>
        rw [hs2] at hrun hd
        obtain ⟨bs0, e0, hr⟩ := hrun
        simp only [Option.bind_some] at hd
        refine ⟨bs0, e0, ?_⟩
        rw [runE_snoc, hr]; simp [hd]
  · have ha' : (σ.η.av ++ [y])[s.base + i]? = some a := ha
    have he2 : (s.evs ++ [Ev.list sz null f])[i]? = some e' := he'
    cases hd : σ.st.bind ((Ev.list sz null f).dec C.flex) with
    | none =>
      rw [hd] at hres
      have hs3 : σX.st.isSome = true := hsome
      simp only at hres
      rw [hres] at hs3; cases hs3
    | some p =>
      obtain ⟨v1, r1⟩ := p
      rw [hd] at hres
      obtain ⟨h1, hrep⟩ := hres
      have hvl : σ.vs.length = s.evs.length ∧ σ.st.isSome = true := by
        have hrun := h.run
        cases hs2 : σ.st with
        | none => rw [hs2] at hd; cases hd
        | some r =>
          rw [hs2] at hrun
          obtain ⟨bs0, _, hr⟩ := hrun
          exact ⟨runE_length hr, rfl⟩
      have hv2 : (σ.vs ++ [v1])[i]? = some v := by
        have hv3 : (match σ.st.bind ((Ev.list sz null f).dec C.flex) with | none => [] | some (v, _) => σ.vs ++ [v])[i]? = some v := hv
        rw [hd] at hv3; exact hv3
      by_cases hlt : i < s.evs.length
      · rw [List.getElem?_append_left (by rw [h.avl]; omega)] at ha'
        rw [List.getElem?_append_left hlt] at he2
        rw [List.getElem?_append_left (by omega)] at hv2
        exact RepE.kt hkt (h.rep hvl.2 i e' v a he2 hv2 ha')
      · have := (List.getElem?_eq_some_iff.1 he2).1
        simp at this
        obtain rfl : i = s.evs.length := by omega
        rw [← h.avl] at ha'
        rw [← hvl.1] at hv2
        simp at ha' he2 hv2
        subst ha'; subst he2; subst hv2; exact hrep
end Go.Proofs.YtiifcfngbbhgoagDoor.Rd

namespace Go.Proofs.YtiifcfngbbhgoagDoor.Rd
open Go Go.Proofs.YtiifcfngbbhgoagDoor.Ax Go.Proofs.YtiifcfngbbhgoagDoor.Wire
set_option maxRecDepth 100000
theorem FR.havoc {η : Env} : ∀ (ds : List Nat) {sf : SF} {fr : List AV}, FR η sf fr → FR η (ds.foldl (fun fr t => fr.set t .u) sf) fr
  | [], sf, fr, h => h
  | t :: r, sf, fr, h => by
    refine FR.havoc r ⟨by simp [h.1], fun u v a hv ha => ?_⟩
    rw [List.getElem?_set] at hv
    split at hv
    · split at hv
      · cases hv; trivial
      · cases hv
    · exact h.2 u v a hv ha
theorem havoc_length : ∀ (ds : List Nat) (sf : SF), (ds.foldl (fun fr t => fr.set t SV.u) sf).length = sf.length
  | [], sf => rfl
  | t :: r, sf => by simp only [List.foldl_cons]; rw [havoc_length r]; simp
theorem FR.set_at {η : Env} {sf : SF} {fr : List AV} (h : FR η sf fr) {t : Nat} {v : SV} (hv : ∀ a, fr[t]? = some a → den η v a) : FR η (sf.set t v) fr := by
  refine ⟨by simp [h.1], fun u x a hx ha => ?_⟩
  rw [List.getElem?_set] at hx
  split at hx
  · rename_i e; subst e
    split at hx
    · cases hx; exact hv a ha
    · cases hx
  · exact h.2 u x a hx ha
theorem sameF_spec : ∀ {a b : SF}, sameF a b = true → ∀ (t : Nat) (v : SV), a[t]? = some v → v = .u ∨ b[t]? = some v := by
  intro a b h t v hv
  unfold sameF at h
  rw [Bool.and_eq_true] at h
  obtain ⟨hl, ha⟩ := h
  have hl : a.length = b.length := by simpa using hl
  have ht := (List.getElem?_eq_some_iff.1 hv).1
  rw [List.all_eq_true] at ha
  have hb : b[t]? = some b[t] := by simp
  have := ha (v, b[t]) (by
    rw [List.mem_iff_getElem?]
    exact ⟨t, by rw [List.getElem?_zip_eq_some]; exact ⟨hv, hb⟩⟩)
  simp only [Bool.or_eq_true, beq_iff_eq] at this
  rcases this with h | h
  · exact .inl h
  · exact .inr (by rw [hb, h])
theorem take_drop_one {α : Type} {l W : List α} {x : α} {n : Nat} (h1 : l.take n = W) (h2 : l.drop n = [x]) : l = W ++ [x] := by
  rw [← h1, ← h2, List.take_append_drop]
theorem list_dec (flex : Bool) (sz : Nat) (null : Bool) (f : F) (r : B) : (Ev.list sz null f).dec flex r = (rdL flex r).bind fun (l, bs) => if null && l < 0 then some (V.nul, bs) else (many (dec flex f) l.toNat bs).map fun (vs, bs) => (V.l vs, bs) := rfl
theorem chkSeg_sound {C : Cfg} (hC : Prims C) {rec : List Code → SS → Option SS} (he : ∀ cs s s', rec cs s = some s' → ∃ l, s'.evs = s.evs ++ l)
    (ih : ∀ cs s s', rec cs s = some s' → ∀ st0 σ, OK C st0 s σ → σ.η.ln.length = σ.η.lv.length → Outcome C cs st0 s s' σ)
    {s s' : SS} {d : Nat} {x : Operand} {r : List Oper} {ops : Array Oper} {id0 : Nat} {rest : List Code} (hl : lenOp C ops.toList = some (d, x, r)) (h : chkSeg C rec s d x r ops.toList rest = some s')
    {st0 : Option B} {σ : Sta} (ok : OK C st0 s σ) (hlv : σ.η.ln.length = σ.η.lv.length) : Outcome C (.region id0 ops false :: rest) st0 s s' σ := by
  obtain ⟨f, args, ats, ty, pos, af, hops, hlk, hargs⟩ := lenOp_spec hl
  have hI := inlS_ok hC 6
  unfold chkSeg at h
  split at h
  rotate_left
  · cases h
  rename_i hc0
  obtain ⟨hx, hfq, hwq, hzc, hst, hry⟩ := hc0
  simp only at h
  split at h
  rotate_left
  · cases h
  rename_i s1 idb b tail hs1 hdrop
  split at h
  rotate_left
  · cases h
  rename_i sb s0 sn sp it hrb hr0 hrn hrp hit
  split at h
  rotate_left
  · cases h
  rename_i w0 hw0
  split at h
  rotate_left
  · cases h
  rename_i s2 j s4 j' s3 hbody hex hex'
  split at h
  rotate_left
  · cases h
  rename_i w1 hw1
  split at h
  rotate_left
  · cases h
  rename_i pl hpl
  split at h
  rotate_left
  · cases h
  rename_i hc
  obtain ⟨a1, rfl, a3, a4, a5, a6, a7, a8, a9, a10, a11, a12, a13, a14, a15, a16, a17, rfl, rfl, a20, a21, len3, len0, lenn, ry3, ry0, ryn, hbn⟩ := hc
  obtain ⟨xa, e1, rfl⟩ := evS_sound ok.fr hx
  obtain ⟨lv, H1, st1, ca, rd1, hl1, hk, hres⟩ := len_both (hC _ _ hlk rfl) ok.room (ok.rd hry)
  obtain ⟨okL, mvL⟩ := ok.len (n := lv) rd1 hl1 hk hfq hwq hzc hlv d
  obtain ⟨σ1, os1, ok1, step1, _⟩ := opsS_sound hC hI (ops := ops) r hs1 okL (fun m hm => by cases hm)
  have hreg : RU P NS (.region id0 ops false) σ.fr σ.H (.normal, σ1.fr, σ1.H) := by
    refine RU.region ?_
    rw [hops]
    exact One.os (o := ⟨some d, .call { callee := .value (.func f), args := args, argTypes := ats }, ty, pos, af, none⟩) rfl (.call rfl (evl1 hargs e1) ca) os1
  have hst1 : σ1.st = st1 := ok1.st_nil a15
  have mv1 : Mv s.win σ σ1 := mvL.trans (fun l w hw => ⟨w, hw, rfl⟩) step1.mv
  have hlq : σ1.η.lq = lv := step1.lq
  have hln1 : σ1.η.ln = σ.η.ln ++ [lv.toNat] := step1.ln
  have hrest : rest = rest.takeWhile (fun c => !isLoop c) ++ (.block j' (.loop b) :: tail) := by rw [← hdrop, List.takeWhile_append_dropWhile]
  have hwlen : σ.η.lv.length = s.win.length := ok.win.1.symm
  have hE := he _ _ _ h
  have hf1 : s1.fr.length = s.fr.length := by have := step1.frl; simpa using this
  have fin : ∀ {stX : Option B} {sX : SS} {σX : Sta} {y : AV} {fr2 : SF}, fr2 = joinF s.win.length (s.base + s.evs.length) (zvOf s.win.length (s.base + s.evs.length) s3.fr s0.fr sn.fr) (zmOf s.win.length (s.base + s.evs.length) s3.fr s0.fr sn.fr) s3.fr s0.fr sn.fr →
      OK C stX sX σX → Mv s.win σ σX → sX.win.take s.win.length = s.win → sX.zs.take s.win.length = s.zs → sX.rdy = true → y.cells.length = 1 → y.cells.all AV.one = true →
      (match σ.st.bind ((Ev.list w0.length (nullOf s.win.length (s.base + s.evs.length) s3.fr s0.fr sn.fr) (nodes pl)).dec C.flex) with | none => σX.st = none | some (v, r) => σX.st = some r ∧ RepE (AO σ.η) σX.H (.list w0.length (nullOf s.win.length (s.base + s.evs.length) s3.fr s0.fr sn.fr) (nodes pl)) v y) →
      ∀ K : SV, ((sX.fr = s3.fr ∧ K = .row s.win.length) ∨ (sX.fr = s0.fr ∧ K = (zvOf s.win.length (s.base + s.evs.length) s3.fr s0.fr sn.fr)) ∨ (sX.fr = sn.fr ∧ K = (zmOf s.win.length (s.base + s.evs.length) s3.fr s0.fr sn.fr))) → s3.fr.length = s.fr.length → s0.fr.length = s.fr.length → sn.fr.length = s.fr.length →
      (∀ a, den σX.η K a → y = a) →
      RUs (rest.takeWhile (fun c => !isLoop c) ++ [.block j' (.loop b)]) σ1.fr σ1.H (.normal, σX.fr, σX.H) → Outcome C (.region id0 ops false :: rest) st0 s s' σ := by
    intro stX sX σX y fr2 hfr2 okX mvX hwX hzX hryX hy1 hy2 hresX K hsel l3 l0 ln' hk1 hrun
    subst hfr2
    have hselen : sX.fr.length = s.fr.length := by rcases hsel with ⟨e, _⟩ | ⟨e, _⟩ | ⟨e, _⟩ <;> rw [e] <;> assumption
    have hFR : FR { σ.η with av := σ.η.av ++ [y] } (joinF s.win.length (s.base + s.evs.length) (zvOf s.win.length (s.base + s.evs.length) s3.fr s0.fr sn.fr) (zmOf s.win.length (s.base + s.evs.length) s3.fr s0.fr sn.fr) s3.fr s0.fr sn.fr) σX.fr := by
      refine FR.join (sel := sX.fr) hsel okX.fr (by omega) (by omega) (by omega) (fun a ha => ?_) (fun v a hh hd => ?_)
      · rw [← hk1 a ha, ← ok.avl]; simp
      · refine den_low (η := σX.η) (η2 := { σ.η with av := σ.η.av ++ [y] }) hh mvX.rb.symm (fun k e hkl hke => ?_) (fun k e hkl hke => ?_) (fun k e hkl hke => ?_) hd
        · have hx : σ.η.lv[k]? = some (σ.η.lv[k]'(by omega)) := by simp
          have := mvX.lv k _ hkl hx
          rw [hke] at this
          show σ.η.lv[k]? = some e
          rw [hx, this]
        · have hx : σ.η.ln[k]? = some (σ.η.ln[k]'(by omega)) := by simp
          have := mvX.ln.at_ k _ hx
          rw [hke] at this
          show σ.η.ln[k]? = some e
          rw [hx, this]
        · have hx : σ.η.av[k]? = some (σ.η.av[k]'(by rw [ok.avl]; omega)) := by simp
          have := mvX.av.at_ k _ hx
          rw [hke] at this
          show (σ.η.av ++ [y])[k]? = some e
          rw [List.getElem?_append_left (by rw [ok.avl]; omega), hx, this]
    obtain ⟨vs, okF, stepF⟩ := ok.list okX mvX hlv hwX hzX hryX hry hzc hst hy1 hy2 hresX hFR (by rw [joinF_length _ _ _ _ _ _ _ s.fr.length l3 l0 ln'])
    rcases ih _ _ _ h st0 _ okF hlv with ⟨σ', q1, q2, q3⟩ | ⟨fr', H', q1, q2, q3⟩
    · refine .inl ⟨σ', RUs.cons hreg ?_, q2, stepF.trans q3⟩
      rw [hrest, show rest.takeWhile (fun c => !isLoop c) ++ (Code.block j' (.loop b) :: tail) = (rest.takeWhile (fun c => !isLoop c) ++ [.block j' (.loop b)]) ++ tail by simp]
      have := RUs.app hrun q1
      simpa using this
    · refine .inr ⟨fr', H', RUs.cons hreg ?_, q2, q3⟩
      rw [hrest, show rest.takeWhile (fun c => !isLoop c) ++ (Code.block j' (.loop b) :: tail) = (rest.takeWhile (fun c => !isLoop c) ++ [.block j' (.loop b)]) ++ tail by simp]
      have := RUs.app hrun q1
      simpa using this
  have ok1s : ∀ v : SV, (∀ a, den σ1.η .lq a → den σ1.η v a) → OK C st1 { s1 with fr := substF v s1.fr } σ1 := fun v hv => ok1.fr_to (ok1.fr.subst hv)
  have hsub : ∀ v, (substF v s1.fr).length = s.fr.length := fun v => by simp [substF, hf1]
  have hzlen : s.zs.length = s.win.length := ok.zl
  cases hst2 : st1 with
  | none =>
    have hd : σ.st.bind (rdL C.flex) = none ∧ (lv = 0 ∨ lv < 0) := by
      split at hres
      · rename_i hd; exact ⟨hd, hres.2⟩
      · rw [hst2] at hres; cases hres.1
    obtain ⟨hd, hlv0⟩ := hd
    have hend : ∃ σb : Sta, RUs (rest.takeWhile (fun c => !isLoop c)) σ1.fr σ1.H (.ret, σb.fr, σb.H) ∧ σb.fr[C.res]? = some .e := by
      rcases hlv0 with rfl | hneg
      · obtain ⟨σb, q1, q2, q3, q4⟩ := runL_sound hC hI _ hrb (ok1s (.i .i32 0) (fun a ha => by
          have ha : a = .i .i32 σ1.η.lq := ha
          rw [ha, hlq]; rfl)) (fun m hm => by cases hm; rw [hst1, hst2]; rfl)
        obtain ⟨a, ha, hav⟩ := FR.at_ q2.fr a1
        have hav : a = .e := hav
        subst hav
        exact ⟨σb, q1, ha⟩
      · unfold badN at hbn
        split at hbn
        rotate_left
        · cases hbn
        rename_i sb2 hrb2
        obtain ⟨σb, q1, q2, q3, q4⟩ := runL_sound hC hI _ hrb2 (ok1s .neg (fun a ha => by
          have ha : a = .i .i32 σ1.η.lq := ha
          exact ⟨lv, by rw [ha, hlq], hneg⟩)) (fun m hm => by cases hm; rw [hst1, hst2]; rfl)
        obtain ⟨a, ha, hav⟩ := FR.at_ q2.fr (of_decide_eq_true hbn)
        have hav : a = .e := hav
        subst hav
        exact ⟨σb, q1, ha⟩
    obtain ⟨σb, q1, ha⟩ := hend
    refine .inr ⟨σb.fr, σb.H, RUs.cons hreg (by rw [hrest]; exact RUs.appx _ q1 (by simp)), ha, ?_⟩
    obtain ⟨more, hm⟩ := hE
    rw [hm]
    refine run_more (ok.run_none ?_) more
    cases hs : σ.st with
    | none => rfl
    | some r0 =>
      rw [hs] at hd
      simp only [Option.bind_some] at hd ⊢
      rw [list_dec, hd]; rfl
  | some r1 =>
    have hd : ∃ r0, σ.st = some r0 ∧ rdL C.flex r0 = some (lv, r1) := by
      split at hres
      · rw [hst2] at hres; cases hres.1
      · rename_i v r hd
        obtain ⟨h1, rfl⟩ := hres
        rw [hst2] at h1; cases h1
        cases hs : σ.st with
        | none => rw [hs] at hd; cases hd
        | some r0 => rw [hs] at hd; exact ⟨r0, rfl, hd⟩
    obtain ⟨r0, hs0, hrd⟩ := hd
    obtain ⟨hin, hle⟩ := rdL_ok hrd
    have hin2 : lv < 2147483648 := by have := hin.2; simpa using this
    have hdec : ∀ null : Bool, σ.st.bind ((Ev.list w0.length null (nodes pl)).dec C.flex) = if null && lv < 0 then some (V.nul, r1) else (many (dec C.flex (nodes pl)) lv.toNat r1).map fun (vs, bs) => (V.l vs, bs) := fun null => by
      rw [hs0]
      simp only [Option.bind_some]
      rw [list_dec, hrd]; rfl
    rcases Int.lt_trichotomy lv 0 with hneg | hzero | hpos
    · -- below 0
      obtain ⟨σn, q1, q2, q3, q4⟩ := runL_sound hC hI _ hrn (ok1s .neg (fun a ha => by
        have ha : a = .i .i32 σ1.η.lq := ha
        exact ⟨lv, by rw [ha, hlq], hneg⟩)) (fun m hm => by cases hm; rw [hst1, hst2]; rfl)
      have q4 := q4 (by simp)
      have hl0 := q3.frl
      refine fin (y := if fullOf s.win.length (s.base + s.evs.length) s3.fr s0.fr sn.fr then .sn else .s0) rfl q2 (mv1.trans step1.wl q3.mv) (by rw [a9]; simp) (by rw [a12, ← hzlen]; simp) ryn (by split <;> rfl) (by split <;> rfl) ?_ _ (.inr (.inr ⟨rfl, rfl⟩)) len3 len0 lenn (fun a ha => ?_) q1
      · rw [hdec]
        have hn0 : lv.toNat = 0 := by omega
        by_cases hnl : nullOf s.win.length (s.base + s.evs.length) s3.fr s0.fr sn.fr = true
        · rw [hnl]
          simp only [Bool.true_and, hneg, decide_true, if_true]
          refine ⟨by rw [q4.1, hst1, hst2], rfl, ?_⟩
          unfold fullOf
          rw [hnl]; rfl
        · have hnl : nullOf s.win.length (s.base + s.evs.length) s3.fr s0.fr sn.fr = false := by simpa using hnl
          rw [hnl, hn0]
          simp only [Bool.false_and, Bool.false_eq_true, if_false, many, Option.map_some]
          refine ⟨by rw [q4.1, hst1, hst2], .inl ⟨rfl, ?_⟩⟩
          split
          · exact .inl rfl
          · exact .inr ⟨rfl, rfl⟩
      · unfold zmOf at ha
        split at ha
        · rename_i hn; rw [if_pos hn]; exact ha.symm
        · rename_i hn; rw [if_neg hn]; exact ha.symm
    · -- none
      subst hzero
      obtain ⟨σz, q1, q2, q3, q4⟩ := runL_sound hC hI _ hr0 (ok1s (.i .i32 0) (fun a ha => by
        have ha : a = .i .i32 σ1.η.lq := ha
        rw [ha, hlq]; rfl)) (fun m hm => by cases hm; rw [hst1, hst2]; rfl)
      have q4 := q4 (by simp)
      refine fin (y := if nullOf s.win.length (s.base + s.evs.length) s3.fr s0.fr sn.fr || fullOf s.win.length (s.base + s.evs.length) s3.fr s0.fr sn.fr then .sn else .s0) rfl q2 (mv1.trans step1.wl q3.mv) (by rw [a8]; simp) (by rw [a11, ← hzlen]; simp) ry0 (by split <;> rfl) (by split <;> rfl) ?_ _ (.inr (.inl ⟨rfl, rfl⟩)) len3 len0 lenn (fun a ha => ?_) q1
      · rw [hdec]
        simp only [Int.lt_irrefl, decide_false, Bool.and_false, Bool.false_eq_true, if_false, Int.toNat_zero, many, Option.map_some]
        refine ⟨by rw [q4.1, hst1, hst2], .inl ⟨rfl, ?_⟩⟩
        split
        · exact .inl rfl
        · rename_i hn
          exact .inr ⟨by simp at hn; exact hn.1, rfl⟩
      · unfold zvOf at ha
        split at ha
        · rename_i hn; rw [if_pos hn]; exact ha.symm
        · rename_i hn; rw [if_neg hn]; exact ha.symm
    · -- some
      have hN : ((lv.toNat : Nat) : Int) = lv := by omega
      have hln2 : σ1.η.ln[s.win.length]? = some lv.toNat := by rw [hln1, ← hwlen, ← hlv]; simp
      obtain ⟨σp, q1, q2, q3, q4⟩ := runL_sound hC hI _ hrp (ok1s (.len s.win.length) (fun a ha => by
        have ha : a = .i .i32 σ1.η.lq := ha
        exact ⟨lv.toNat, hln2, by rw [ha, hlq, hN], by omega, by omega⟩)) (fun m hm => by cases hm; rw [hst1, hst2]; rfl)
      have q4 := q4 (by simp)
      have hpe : sp.evs = [] := by rw [q4.2]; exact a15
      have hpst : σp.st = some r1 := by rw [q4.1, hst1, hst2]
      have hpw : sp.win = s.win ++ [w0] := take_drop_one a7 hw0
      have hpw2 : s2.win = s.win ++ [w1] := take_drop_one a6 hw1
      have hpl1 : σp.η.lv.length = s.win.length + 1 := by rw [← q2.win.1, hpw]; simp
      have hpln : σp.η.ln = σ1.η.ln := q3.ln
      have hpl2 : σp.η.ln.length = s.win.length + 1 := by rw [hpln, hln1, ← hwlen, ← hlv]; simp
      have hpN : σp.η.ln[s.win.length]? = some lv.toNat := by rw [hpln]; exact hln2
      have he0 : σp.η.lv[s.win.length]? = some (σp.η.lv[s.win.length]'(by omega)) := by simp
      generalize σp.η.lv[s.win.length]'(by omega) = e at he0
      have hplive : sp.live = s.win.length := by
        have h1 : sp.live = s1.live := q3.live
        have h2 : s1.live = s.win.length := step1.live
        rw [h1, h2]
      have hej : e.j = 0 := q2.lvj _ e (by rw [hplive]; exact Nat.le_refl _) he0
      have hpbase : sp.base = s.base + s.evs.length := by
        have h1 : sp.base = s1.base := q3.base
        have h2 : s1.base = s.base + s.evs.length := step1.base
        rw [h1, h2]
      have hpf : sp.fr.length = s.fr.length := by have h1 := q3.frl; have h1 : sp.fr.length = (substF (SV.len s.win.length) s1.fr).length := h1; rw [h1, hsub]
      have hitl : it < sp.fr.length := (List.getElem?_eq_some_iff.1 a3).1
      have hFRh : FR σp.η (headF s.win.length it b sp.fr) σp.fr := by
        refine FR.set_at (FR.havoc _ q2.fr) (fun a ha => ?_)
        have := q2.fr.2 it _ a a3 ha
        have hz : a = .i .i32 0 := this
        exact ⟨e, lv.toNat, he0, hpN, by rw [hz, hej]; rfl, by rw [hej]; omega, by omega⟩
      have okH : OK C σp.st { sp with fr := headF s.win.length it b sp.fr, live := s.win.length + 1 } σp :=
        ⟨hFRh, q2.win, q2.ln, q2.nd, q2.room, q2.rd, q2.rbl, q2.avl, q2.one, q2.wid, q2.zl, q2.zer, fun l e hle he => q2.lvj l e (by rw [hplive]; exact Nat.le_trans (Nat.le_succ _) hle) he, by rw [hpst]; have := q2.run; rw [hpst, hst2] at this; exact this, q2.rep⟩
      have hhl : (headF s.win.length it b sp.fr).length = sp.fr.length := by unfold headF; rw [List.length_set, havoc_length]
      have hidx : (headF s.win.length it b sp.fr)[it]? = some (.idx s.win.length) := by
        unfold headF
        rw [List.getElem?_set_self (by rw [havoc_length]; exact hitl)]
      have hother : ∀ t (v : SV), t ≠ it → (headF s.win.length it b sp.fr)[t]? = some v → ((headF s.win.length it b sp.fr).set it .u)[t]? = some v := fun t v ht hv => by rw [List.getElem?_set, if_neg (fun x => ht x.symm)]; exact hv
      have hmvp : Mv s.win σ σp := mv1.trans step1.wl q3.mv
      rcases loop_sound (C := C) (sH := { sp with fr := headF s.win.length it b sp.fr, live := s.win.length + 1 }) (s2 := s2) (s3 := s3) (b := b) (it := it) (id := j') (l := s.win.length) (W := s.win) (Z := s.zs) (w0 := w0) (w1 := w1) (pl := pl) (nb := e.b) (N := lv.toNat) (r1 := r1)
        (fun σ2 ok2 hl2 => ih _ _ _ hbody _ σ2 ok2 hl2)
        (fun σ2 ok2 => by
          cases hs : σ2.st.isSome with
          | true =>
            obtain ⟨σ3, p1, p2, p3, p4⟩ := runS_sound hC hI _ b hex ok2 (fun m hm => by cases hm; exact hs)
            exact ⟨σ3, p1, p2, p3, (p4 (by simp)).1⟩
          | false =>
            obtain ⟨σ3, p1, p2, p3, p4⟩ := runS_sound hC hI _ b hex' ok2 (fun m hm => by cases hm; exact hs)
            exact ⟨σ3, p1, p2, p3, (p4 (by simp)).1⟩)
        hpw rfl hpw2 a20 a14 hzc a21 hst hpe rfl (by show places w1 sp.base s2.evs = some pl; rw [hpbase]; exact hpl) (by show it < (headF s.win.length it b sp.fr).length; rw [hhl]; exact hitl) a4 hidx
        (fun t v ht hv => sameF_spec a5 t v (hother t v ht hv)) (fun t v ht hv => by
          rw [List.all_eq_true] at a16
          exact a16 v (List.mem_of_getElem? (hother t v ht hv)))
        (lv.toNat - 1) 0 σp [] (by omega) okH hpl1 hpl2 hpN (by omega) ⟨e, he0, hej, rfl⟩ (by
          unfold Acc
          rw [hpst]
          exact ⟨rfl, fun q x hq => by simp at hq⟩) with ⟨fr', H', p1, p2, p3⟩ | ⟨σ', us, p1, p2, p3, ⟨e', p4, p5⟩, p6⟩
      · refine .inr ⟨fr', H', RUs.cons hreg (by rw [hrest]; exact RUs.app q1 (RUs.stop (RU.blockR p1) (by simp))), p2, ?_⟩
        obtain ⟨more, hm⟩ := hE
        rw [hm]
        refine run_more (ok.run_none ?_) more
        rw [hdec, p3]
        have : decide (lv < 0) = false := by simp; omega
        simp [this]
      · have hnb : AO σ.η e.b := by
          intro hm
          rw [List.mem_cons] at hm
          rw [← p5] at hm
          rcases hm with hm | hm
          · have := nd_rb p2.nd p4
            rw [p3.rb, hmvp.rb] at this
            exact this hm
          · obtain ⟨ek, hek, hb⟩ := List.mem_map.1 hm
            obtain ⟨k, hkk⟩ := List.mem_iff_getElem?.1 hek
            have hkl : k < s.win.length := by rw [← hwlen]; exact (List.getElem?_eq_some_iff.1 hkk).1
            have := nd_lv p2.nd (p3.lv k ek hkl (hmvp.lv k ek hkl hkk)) p4 hb
            omega
        have hmvE : Mv s.win σ σ' := hmvp.trans (fun l w hw => ⟨w, hw, rfl⟩) p3
        have hAO : ∀ i, AO σ'.η i → AO σ.η i := fun i hi hm => by
          apply hi
          rw [List.mem_cons] at hm ⊢
          rcases hm with rfl | hm
          · exact .inl hmvE.rb.symm
          · obtain ⟨e2, he2, rfl⟩ := List.mem_map.1 hm
            obtain ⟨k, hk⟩ := List.mem_iff_getElem?.1 he2
            exact .inr (List.mem_map.2 ⟨e2, List.mem_of_getElem? (hmvE.lv k e2 (by rw [← hwlen]; exact (List.getElem?_eq_some_iff.1 hk).1) hk), rfl⟩)
        refine fin (y := .sl e.b 0 lv.toNat) rfl p2 hmvE a10 a13 ry3 rfl rfl ?_ (.row s.win.length) (.inl ⟨rfl, rfl⟩) len3 len0 lenn (fun a ha => ?_) (RUs.app q1 (RUs.cons (RU.block0 p1) rfl))
        · rw [hdec]
          have hd0 : decide (lv < 0) = false := by simp; omega
          simp only [hd0, Bool.and_false, Bool.false_eq_true, if_false]
          unfold Acc at p6
          cases hs : σ'.st with
          | none => rw [hs] at p6; rw [p6]; rfl
          | some r2 =>
            rw [hs] at p6
            obtain ⟨p7, p8⟩ := p6
            rw [p7]
            have hul := many_length _ p7
            refine ⟨rfl, .inr ?_⟩
            have hu0 : 0 < us.length := by omega
            obtain ⟨ty1, bl, t1, t2, t3⟩ := p8 0 us[0] (by simp)
            refine ⟨e.b, ty1, bl, hu0, hnb, by rw [hul], t1, by rw [t2, hul], fun q x hq => ?_⟩
            obtain ⟨ty2, bl2, u1, u2, u3⟩ := p8 q x hq
            rw [t1] at u1; cases u1
            exact Rep.kt (KT.sub hAO _) u3
        · obtain ⟨e2, n2, h1, h2, rfl⟩ := ha
          rw [p4] at h1; cases h1
          have : σ'.η.ln[s.win.length]? = some lv.toNat := p3.ln.at_ _ _ hpN
          rw [this] at h2; cases h2
          rw [p5]
theorem chk_sound {C : Cfg} (hC : Prims C) (n : Nat) : ∀ cs s s', chk C n cs s = some s' → ∀ st0 σ, OK C st0 s σ → σ.η.ln.length = σ.η.lv.length → Outcome C cs st0 s s' σ := by
  induction n with
  | zero => intro cs s s' h; cases h
  | succ n ih =>
    intro cs s s' h st0 σ ok hlv
    have h : chkStep C (chk C n) cs s = some s' := h
    unfold chkStep at h
    split at h
    · simp at h; subst h
      exact .inl ⟨σ, rfl, ok, .refl _ _⟩
    · split at h
      · rename_i hl
        exact chkSeg_sound hC (chk_evs n) ih hl h ok hlv
      · split at h
        · rename_i s2 rest2 hb2
          have hk := ih _ _ _ h
          obtain ⟨d, fr1, H1, σ2, rfl, r1, r2, q2, q3⟩ := boxM_sound hC (inlS_ok hC 6) hb2 ok
          exact Outcome.cons2 r1 r2 q3 (hk st0 σ2 q2 (q3.lnl q2 hlv))
        · split at h
          · rename_i s2 rest2 hb2
            have hk := ih _ _ _ h
            obtain ⟨σ2, q2, q3, r1⟩ := boxPM_sound hC hb2 ok
            exact Outcome.via r1 q3 (hk st0 σ2 q2 (q3.lnl q2 hlv))
          · cases h2 : opsS C none (inlS C 6) _ _ _ with
            | none => rw [h2] at h; cases h
            | some s2 =>
              rw [h2] at h
              simp only [Option.bind_some] at h
              obtain ⟨σ2, q1, q2, q3, _⟩ := opsS_sound hC (inlS_ok hC 6) _ h2 ok (fun m hm => by cases hm)
              exact Outcome.cons (RU.region q1) q3 (ih _ _ _ h st0 σ2 q2 (q3.lnl q2 hlv))
    · split at h
      · rename_i hc
        obtain ⟨xa, e1, rfl⟩ := evS_sound ok.fr hc
        exact Outcome.flat (fun _ _ hr => RU.condT e1 hr) (fun _ _ hr => RU.condT e1 hr) (ih _ _ _ h st0 σ ok hlv)
      · rename_i hc
        obtain ⟨xa, e1, rfl⟩ := evS_sound ok.fr hc
        exact Outcome.flat (fun _ _ hr => RU.condF e1 hr) (fun _ _ hr => RU.condF e1 hr) (ih _ _ _ h st0 σ ok hlv)
      · cases h
    · exact Outcome.flat (fun _ _ hr => RU.blockN hr) (fun _ _ hr => RU.blockR hr) (ih _ _ _ h st0 σ ok hlv)
    · cases h
end Go.Proofs.YtiifcfngbbhgoagDoor.Rd

namespace Go.Proofs.YtiifcfngbbhgoagDoor.Rd
open Go Go.Proofs.YtiifcfngbbhgoagDoor.Ax Go.Proofs.YtiifcfngbbhgoagDoor.Wire
set_option maxRecDepth 100000
def psIs : List (Nat × Operand) → Nat → Bool
  | [(0, .tmp a')], a => a' == a
  | _, _ => false
def mkOp : List Oper → Option (Nat × Nat × Nat)
  | [⟨some a, .move (.tmp 1), _, _, _, none⟩, ⟨some b, .build t ps, _, _, _, none⟩, ⟨some c, .alloc t', _, _, _, none⟩, ⟨none, .store t'' (.tmp c') (.tmp b'), _, _, _, none⟩] =>
    if t = tR ∧ t' = tR ∧ t'' = tR ∧ c' = c ∧ b' = b ∧ psIs ps.toList a = true ∧ a ≠ b ∧ b ≠ c then some (a, b, c) else none
  | _ => none
def oneRes : List ResultVar → Option Nat
  | [.tmp t] => some t
  | _ => none
def topS (ntmps : Nat) (w0 : SF) : SS := { fr := [.ptr 0 0, .pt 0, .b false] ++ List.replicate (ntmps - 3) .u, win := [w0], zs := [none], live := 1, base := 1, evs := [], rdy := false }
noncomputable def chkTopB (C : Cfg) (go : List Code → SS → Option SS) (fn : Func) (w0 : SF) : Option (List (Ev × Nat) × SF) :=
  match fn.body with
  | some c =>
    let l := flat c
    match l.drop 2, runL C (some true) (inlS C 6) fuelI (l.take 2) (topS fn.ntmps w0) with
    | .region _ ops false :: rest, some (.normal, s1) => match mkOp ops.toList with
      | some (a, b, r) =>
        let body := rest.take (rest.length - 2)
        let tl := rest.drop (rest.length - 2)
        if s1.fr[1]? = some (.pt 0) ∧ s1.evs = [] ∧ s1.win.length = 1 ∧ a < s1.fr.length ∧ b < s1.fr.length ∧ r < s1.fr.length ∧ s1.zs = [none] ∧ s1.rdy = false ∧ s1.fr.contains .rd = false ∧ (s1.win.all fun w => w.all SV.still) = true ∧ oneRes fn.results.toList = some C.res then
          match go body { s1 with fr := ((s1.fr.set a .u).set b .u).set r .rd, rdy := true } with
          | some s2 => match runL C (some true) (inlS C 6) fuelI tl s2, runL C (some false) (inlS C 6) fuelI tl s2, s2.win with
            | some (.ret, sg), some (.ret, sb), [w] => if sg.fr[C.res]? = some (.z .n) ∧ sb.fr[C.res]? = some (.z .e) ∧ sg.win = s2.win ∧ (w.all SV.still) = true then (places w 1 s2.evs).map fun pl => (pl, w) else none
            | _, _, _ => none
          | none => none
        else none
      | none => none
    | _, _ => none
  | none => none
noncomputable def chkTop (C : Cfg) (fn : Func) (w0 : SF) : Option (List (Ev × Nat) × SF) := chkTopB C (chk C 400) fn w0
end Go.Proofs.YtiifcfngbbhgoagDoor.Rd

