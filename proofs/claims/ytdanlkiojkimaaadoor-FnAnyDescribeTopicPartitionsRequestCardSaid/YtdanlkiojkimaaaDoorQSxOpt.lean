/-
  THE CHECKER, where a part may be missing: a number ahead of it is -1 then. First, where it is missing.
-/
import Derived.Test.YtdanlkiojkimaaaDoorQSxVer
set_option linter.constructorNameAsVariable false
set_option linter.unusedVariables false
set_option linter.unusedSimpArgs false
namespace Go.Proofs.YtdanlkiojkimaaaDoor.Rd
open Go Go.Proofs.YtdanlkiojkimaaaDoor.Ax Go.Proofs.YtdanlkiojkimaaaDoor.Wire
set_option maxRecDepth 100000
noncomputable def presS (C : Cfg) (m : Bool) (v : SV) (ops : List Oper) (s : SS) : Option SS :=
  match splitI C .i8 ops with
  | some (pre, d, f, x, post) => match opsS C none (inlS C 6) ops pre s with
    | some s1 => if evS s1.fr x = some .rd ∧ s1.rdy = true ∧ s1.evs = s.evs then opsS C (some m) (inlS C 6) ops post ({ s1 with evs := s1.evs ++ [Ev.leaf .i8 false] }.put (some d) v) else none
    | none => none
  | none => none
def SV.flat : SV → Bool
  | .i _ _ | .nm _ => true
  | _ => false
def numO8 (st : Option B) : Int := match st.bind (rdI 1) with
  | some (k, _) => k
  | none => 0
theorem flat_den {η η' : Env} {v : SV} (h : v.flat = true) {a : AV} (d : den η v a) : den η' v a := by
  cases v <;> first | exact d | cases h
theorem presS_sound {C : Cfg} (hC : Prims C) (hN : ∀ f, C.prim.lookup f = some (.leaf .i8 false none) → RdN f .i8 (rdI 1)) {ops : Array Oper} {i : Nat} {m : Bool} {v : SV} (hv : v.flat = true) {s s' : SS} (hs : presS C m v ops.toList s = some s') {st0 : Option B} {σ : Sta} (h : OK C st0 s σ)
    (hm : (σ.st.bind (rdI 1)).isSome = m) (hn : ∀ η, den η v (.i .i8 (numO8 σ.st))) :
    ∃ σ', RU P NS (.region i ops false) σ.fr σ.H (.normal, σ'.fr, σ'.H) ∧ OK C st0 s' σ' ∧ Step s s' σ σ' ∧ σ'.st.isSome = m := by
  have hI := inlS_ok hC 6
  unfold presS at hs
  split at hs
  rotate_left
  · cases hs
  rename_i pre d f x post hsp
  split at hs
  rotate_left
  · cases hs
  rename_i s1 hpre
  split at hs
  rotate_left
  · cases hs
  rename_i hc
  obtain ⟨hx, hry, hev⟩ := hc
  obtain ⟨args, ats, ty, pos, af, hl, hlk, ha⟩ := splitI_spec hsp
  obtain ⟨q, hq⟩ := big_slot pre
  obtain ⟨σ1, w1, w2, w3, _⟩ := opsS_walk hC hI (ops := ops) (q := q) pre hpre (hq q (Nat.le_refl _)) h
  obtain ⟨xa, e1, rfl⟩ := evS_sound w2.fr hx
  have hst : σ1.st = σ.st := by
    have a := h.run
    have b := w2.run
    rw [hev] at b
    cases h1 : σ.st with
    | none =>
      cases h2 : σ1.st with
      | none => rfl
      | some r2 =>
        rw [h1] at a; rw [h2] at b
        obtain ⟨bs0, rfl, hr⟩ := b
        simp only [Option.bind_some] at a
        rw [a] at hr; cases hr
    | some r1 =>
      rw [h1] at a
      obtain ⟨bs0, rfl, hr⟩ := a
      cases h2 : σ1.st with
      | none =>
        rw [h2] at b
        simp only [Option.bind_some] at b
        rw [b] at hr; cases hr
      | some r2 =>
        rw [h2] at b
        obtain ⟨bs1, hb1, hr2⟩ := b
        cases hb1
        rw [hr] at hr2
        simp only [Option.some.injEq, Prod.mk.injEq] at hr2
        rw [hr2.2]
  obtain ⟨n, H1, st1, c, r, hl1, hk, hres⟩ := num_both (hN f hlk) w2.room (w2.rd hry)
  rw [hst] at hres
  have hnn : n = numO8 σ.st := by
    unfold numO8
    split at hres
    · rename_i hd; rw [hd]; exact hres.2
    · rename_i k r' hd; rw [hd]; exact hres.2
  have hsm : st1.isSome = m := by
    rw [← hm]
    split at hres
    · rename_i hd; rw [hd, hres.1]; rfl
    · rename_i k r' hd; rw [hd, hres.1]; rfl
  subst hnn
  have hd8 : ∀ r0, (Ev.leaf .i8 false).dec C.flex r0 = (rdI 1 r0).map fun (n, r) => (V.i n, r) := fun _ => rfl
  obtain ⟨p1, p2⟩ := w2.read hry (e := .leaf .i8 false) (y := .i .i8 (numO8 σ.st)) (H1 := H1) (nn1 := true) (st1 := st1) (vs1 := match σ1.st.bind (rdI 1) with | none => [] | some (v, _) => σ1.vs ++ [V.i v]) rfl rfl r hl1 hk (by
    rw [hst]
    cases h1 : σ.st with
    | none => rw [h1] at hres; exact hres.1
    | some bs =>
      rw [h1] at hres
      simp only [Option.bind_some, hd8] at hres ⊢
      cases hd : rdI 1 bs with
      | none => rw [hd] at hres; exact hres.1
      | some z =>
        obtain ⟨k, r'⟩ := z
        rw [hd] at hres
        refine ⟨hres.1, rfl, ?_⟩
        rw [hres.2]; rfl)
  have g1 := p1.put (v := v) (a := .i .i8 (numO8 σ.st)) (hn _) (some d)
  have g2 := p2.put (some d) v (.i .i8 (numO8 σ.st))
  obtain ⟨σ2, o1, o2, o3, o4⟩ := opsS_sound hC hI (ops := ops) post hs g1 (fun m' hm' => by cases hm'; exact hsm)
  refine ⟨σ2, ?_, o2, (w3.trans g2).trans o3, by rw [(o4 (by simp)).1]; exact hsm⟩
  refine RU.region ?_
  rw [hl]
  refine w1 _ _ ?_
  exact One.os rfl (.call rfl (evl1 ha e1) c) o1
noncomputable def presD (C : Cfg) (m : Bool) (v : SV) (ops ops2 : List Oper) (s : SS) : Option SS := (presS C m v ops s).bind fun s1 => opsS C (some m) (inlS C 6) ops2 ops2 s1
theorem presD_sound {C : Cfg} (hC : Prims C) (hN : ∀ f, C.prim.lookup f = some (.leaf .i8 false none) → RdN f .i8 (rdI 1)) {ops ops2 : Array Oper} {i i2 : Nat} {m : Bool} {v : SV} (hv : v.flat = true) {s s' : SS} (hs : presD C m v ops.toList ops2.toList s = some s') {st0 : Option B} {σ : Sta} (h : OK C st0 s σ)
    (hm : (σ.st.bind (rdI 1)).isSome = m) (hn : ∀ η, den η v (.i .i8 (numO8 σ.st))) :
    ∃ σ', RUs [.region i ops false, .region i2 ops2 false] σ.fr σ.H (.normal, σ'.fr, σ'.H) ∧ OK C st0 s' σ' ∧ Step s s' σ σ' ∧ σ'.st.isSome = m := by
  unfold presD at hs
  cases h1 : presS C m v ops.toList s with
  | none => rw [h1] at hs; cases hs
  | some s1 =>
    rw [h1] at hs
    simp only [Option.bind_some] at hs
    obtain ⟨σ1, r1, r2, r3, r4⟩ := presS_sound hC hN (i := i) hv h1 h hm hn
    obtain ⟨σ2, o1, o2, o3, o4⟩ := opsS_sound hC (inlS_ok hC 6) (ops := ops2) ops2.toList hs r2 (fun m' hm' => by cases hm'; exact r4)
    exact ⟨σ2, RUs.cons r1 (RUs.cons (RU.region o1) rfl), o2, r3.trans o3, by rw [(o4 (by simp)).1]; exact r4⟩
def isSkip : Code → Bool
  | .skip => true
  | _ => false
theorem isSkip_spec {c : Code} (h : isSkip c = true) : c = .skip := by
  unfold isSkip at h
  split at h
  · rfl
  · cases h
def findP (C : Cfg) : List Code → Option (List Code × Nat × Array Oper × Nat × Array Oper × Operand × Code × List Code)
  | [] => none
  | .region id ops false :: .region id2 ops2 false :: .cond c a b :: rest => if (splitI C .i8 ops.toList).isSome = true ∧ isSkip b = true then some ([], id, ops, id2, ops2, c, a, rest) else (findP C (.region id2 ops2 false :: .cond c a b :: rest)).map fun (p, x) => (.region id ops false :: p, x)
  | c :: rest => (findP C rest).map fun (p, x) => (c :: p, x)
theorem findP_spec {C : Cfg} : ∀ {l p rest : List Code} {id id2 : Nat} {ops ops2 : Array Oper} {c : Operand} {a : Code}, findP C l = some (p, id, ops, id2, ops2, c, a, rest) → l = p ++ .region id ops false :: .region id2 ops2 false :: .cond c a .skip :: rest := by
  intro l
  induction l with
  | nil => intro p rest id id2 ops ops2 c a h; cases h
  | cons x l ih =>
    intro p rest id id2 ops ops2 c a h
    have more : ∀ {x : Code} {l : List Code}, (∀ {p rest : List Code} {id id2 : Nat} {ops ops2 : Array Oper} {c : Operand} {a : Code}, findP C l = some (p, id, ops, id2, ops2, c, a, rest) → l = p ++ .region id ops false :: .region id2 ops2 false :: .cond c a .skip :: rest) →
        ((findP C l).map fun (p, y) => (x :: p, y)) = some (p, id, ops, id2, ops2, c, a, rest) → x :: l = p ++ .region id ops false :: .region id2 ops2 false :: .cond c a .skip :: rest := by
      intro x l ih h
      simp only [Option.map_eq_some_iff] at h
      obtain ⟨⟨p', y⟩, h1, h2⟩ := h
      simp only [Prod.mk.injEq] at h2
      obtain ⟨rfl, rfl⟩ := h2
      rw [ih h1]; rfl
    unfold findP at h
    split at h
    · rename_i h0; cases h0
    · rename_i id' ops' id2' ops2' c' a' b' rest' h0
      cases h0
      split at h
      · rename_i hc
        obtain ⟨_, hb⟩ := hc
        simp only [Option.some.injEq, Prod.mk.injEq] at h
        obtain ⟨rfl, rfl, rfl, rfl, rfl, rfl, rfl, rfl⟩ := h
        rw [isSkip_spec hb]; rfl
      · exact more ih h
    · rename_i h0
      cases h0
      exact more ih h
def joinSF : SF → SF → SF
  | x :: a, y :: b => (if x = y then x else .u) :: joinSF a b
  | _, _ => []
theorem joinSF_length : ∀ {a b : SF}, a.length = b.length → (joinSF a b).length = a.length
  | [], [], _ => rfl
  | x :: a, y :: b, h => by simp [joinSF, joinSF_length (by simpa using h : a.length = b.length)]
  | [], _ :: _, h => by simp at h
  | _ :: _, [], h => by simp at h
theorem joinSF_get : ∀ {a b : SF} {t : Nat} {v : SV}, (joinSF a b)[t]? = some v → v = .u ∨ (a[t]? = some v ∧ b[t]? = some v)
  | x :: a, y :: b, 0, v, h => by
    simp [joinSF] at h
    subst h
    split
    · rename_i e; subst e; exact .inr ⟨by simp, by simp⟩
    · exact .inl rfl
  | x :: a, y :: b, t + 1, v, h => by
    have := joinSF_get (a := a) (b := b) (t := t) (v := v) (by simpa [joinSF] using h)
    simpa using this
  | [], _, t, v, h => by simp [joinSF] at h
  | _ :: _, [], t, v, h => by simp [joinSF] at h
theorem FR.joinL {η : Env} {a b : SF} {fr : List AV} (h : FR η a fr) (hl : a.length = b.length) : FR η (joinSF a b) fr :=
  ⟨by rw [joinSF_length hl]; exact h.1, fun t v x hv hx => by
    rcases joinSF_get hv with rfl | ⟨h1, _⟩
    · trivial
    · exact h.2 t v x h1 hx⟩
theorem FR.joinR {η : Env} {a b : SF} {fr : List AV} (h : FR η b fr) (hl : a.length = b.length) : FR η (joinSF a b) fr :=
  ⟨by rw [joinSF_length hl, hl]; exact h.1, fun t v x hv hx => by
    rcases joinSF_get hv with rfl | ⟨_, h1⟩
    · trivial
    · exact h.2 t v x h1 hx⟩
noncomputable def goA (C : Cfg) (evs1 : List Ev) (cs : List Code) (s : SS) : Option SS :=
  match findP C cs with
  | some (p1, _, ops, _, ops2, c, _, p3) => match chk C 400 p1 s with
    | some s1 => match presD C true (.i .i8 (-1)) ops.toList ops2.toList s1, presD C false (.i .i8 0) ops.toList ops2.toList s1 with
      | some sT, some sF => if s1.evs = evs1 ∧ evS sT.fr c = some (.b false) ∧ evS sF.fr c = some (.b false) ∧ sF = { sT with fr := sF.fr } ∧ sT.fr.length = sF.fr.length then chk C 400 p3 { sT with fr := joinSF sT.fr sF.fr } else none
      | _, _ => none
    | none => none
  | none => none
theorem Outcome.pre {C : Cfg} : ∀ {a b : List Code} {st0 : Option B} {s s1 s' : SS} {σ σ1 : Sta}, RUs a σ.fr σ.H (.normal, σ1.fr, σ1.H) → Step s s1 σ σ1 → Outcome C b st0 s1 s' σ1 → Outcome C (a ++ b) st0 s s' σ := by
  intro a b st0 s s1 s' σ σ1 h st k
  rcases k with ⟨σ2, k1, k2, k3⟩ | ⟨fr', H', k1, k2, k3⟩
  · exact .inl ⟨σ2, RUs.app h k1, k2, st.trans k3⟩
  · exact .inr ⟨fr', H', RUs.app h k1, k2, k3⟩
theorem step_fr {s : SS} {σ : Sta} {sf : SF} (h : sf.length = s.fr.length) : Step s { s with fr := sf } σ σ := ⟨rfl, .refl _, rfl, rfl, .refl _, .refl _ _, .refl _ _ _, rfl, fun l w h => ⟨w, h, rfl⟩, ⟨[], by simp⟩, h, rfl, rfl, fun _ => rfl⟩
theorem presS_evs {C : Cfg} {m : Bool} {v : SV} {ops : List Oper} {s s' : SS} (h : presS C m v ops s = some s') : ∃ l, s'.evs = s.evs ++ l := by
  unfold presS at h
  split at h
  rotate_left
  · cases h
  split at h
  rotate_left
  · cases h
  split at h
  rotate_left
  · cases h
  rename_i hc
  obtain ⟨b, hb⟩ := opsS_evs (inlS_evs C 6) _ h
  refine ⟨[Ev.leaf .i8 false] ++ b, ?_⟩
  rw [hb, (put_fields _ _ _).2.2.1, hc.2.2, List.append_assoc]
theorem presD_evs {C : Cfg} {m : Bool} {v : SV} {ops ops2 : List Oper} {s s' : SS} (h : presD C m v ops ops2 s = some s') : ∃ l, s'.evs = s.evs ++ l := by
  unfold presD at h
  cases h1 : presS C m v ops s with
  | none => rw [h1] at h; cases h
  | some s1 =>
    rw [h1] at h
    simp only [Option.bind_some] at h
    obtain ⟨a, ha⟩ := presS_evs h1
    obtain ⟨b, hb⟩ := opsS_evs (inlS_evs C 6) _ h
    exact ⟨a ++ b, by rw [hb, ha, List.append_assoc]⟩
theorem goA_sound {C : Cfg} (hC : Prims C) (hN : ∀ f, C.prim.lookup f = some (.leaf .i8 false none) → RdN f .i8 (rdI 1)) {evs1 : List Ev} {bs : B} (hp : ∀ vs r, runE C.flex evs1 bs = some (vs, r) → ∀ k r', rdI 1 r = some (k, r') → k = -1) :
    ∀ cs s s', goA C evs1 cs s = some s' → ∀ σ, OK C (some bs) s σ → σ.η.ln.length = σ.η.lv.length → Outcome C cs (some bs) s s' σ := by
  intro cs s s' h σ ok hl
  unfold goA at h
  split at h
  rotate_left
  · cases h
  rename_i p1 id ops id2 ops2 c a p3 hf
  split at h
  rotate_left
  · cases h
  rename_i s1 h1
  split at h
  rotate_left
  · cases h
  rename_i sT sF hT hF
  split at h
  rotate_left
  · cases h
  rename_i hc
  obtain ⟨c0, c1, c2, c3, c4⟩ := hc
  rw [findP_spec hf]
  rcases chk_sound hC 400 _ _ _ h1 (some bs) σ ok hl with ⟨σ1, q1, q2, q3⟩ | ⟨fr', H', q1, q2, q3⟩
  · have l1 := q3.lnl q2 hl
    have fin : ∀ {s2 : SS} {σ2 : Sta}, RUs [.region id ops false, .region id2 ops2 false] σ1.fr σ1.H (.normal, σ2.fr, σ2.H) → OK C (some bs) s2 σ2 → Step s1 s2 σ1 σ2 → evS s2.fr c = some (.b false) → FR σ2.η (joinSF sT.fr sF.fr) σ2.fr → s2 = { sT with fr := s2.fr } → s2.fr.length = (joinSF sT.fr sF.fr).length →
        Outcome C (p1 ++ .region id ops false :: .region id2 ops2 false :: .cond c a .skip :: p3) (some bs) s s' σ := by
      intro s2 σ2 r1 r2 r3 r4 r5 r6 r7
      obtain ⟨xa, e1, rfl⟩ := evS_sound r2.fr r4
      have r2' : OK C (some bs) { s2 with fr := joinSF sT.fr sF.fr } σ2 := r2.fr_to r5
      have e6 : ({ s2 with fr := joinSF sT.fr sF.fr } : SS) = { sT with fr := joinSF sT.fr sF.fr } := by rw [r6]
      have r3' : Step s2 { s2 with fr := joinSF sT.fr sF.fr } σ2 σ2 := step_fr r7.symm
      rw [e6] at r2' r3'
      have l2 := r3.lnl r2 l1
      refine Outcome.pre q1 q3 (Outcome.pre (a := [.region id ops false, .region id2 ops2 false]) r1 r3 (Outcome.cons (RU.condF e1 RU.skip) r3' ?_))
      exact chk_sound hC 400 _ _ _ h (some bs) σ2 r2' l2
    have hjl := joinSF_length (a := sT.fr) (b := sF.fr) c4
    cases hb : σ1.st.bind (rdI 1) with
    | none =>
      obtain ⟨σ2, r1, r2, r3, _⟩ := presD_sound hC hN (i := id) (i2 := id2) (v := .i .i8 0) rfl hF q2 (by rw [hb]; rfl) (fun η => by
        show AV.i .i8 (numO8 σ1.st) = .i .i8 0
        unfold numO8; rw [hb])
      exact fin r1 r2 r3 c2 (r2.fr.joinR c4) c3 (by rw [hjl, c4])
    | some z =>
      obtain ⟨k, r'⟩ := z
      have hk : k = -1 := by
        cases hst : σ1.st with
        | none => rw [hst] at hb; cases hb
        | some r0 =>
          rw [hst] at hb
          simp only [Option.bind_some] at hb
          have hrun := q2.run
          rw [hst] at hrun
          obtain ⟨bs0, hb0, hrun⟩ := hrun
          cases hb0
          rw [c0] at hrun
          exact hp _ _ hrun _ _ hb
      subst hk
      obtain ⟨σ2, r1, r2, r3, _⟩ := presD_sound hC hN (i := id) (i2 := id2) (v := .i .i8 (-1)) rfl hT q2 (by rw [hb]; rfl) (fun η => by
        show AV.i .i8 (numO8 σ1.st) = .i .i8 (-1)
        unfold numO8; rw [hb])
      exact fin r1 r2 r3 c1 (r2.fr.joinL c4) rfl (by rw [hjl])
  · obtain ⟨l1, e1⟩ := presD_evs hT
    obtain ⟨l2, e2⟩ := chk_evs 400 _ _ _ h
    refine .inr ⟨fr', H', RUs.appx _ q1 (by simp), q2, ?_⟩
    have e2 : s'.evs = sT.evs ++ l2 := e2
    rw [e2, e1, List.append_assoc]
    exact run_more q3 _
end Go.Proofs.YtdanlkiojkimaaaDoor.Rd

namespace Go.Proofs.YtdanlkiojkimaaaDoor.Rd
open Go Go.Proofs.YtdanlkiojkimaaaDoor.Ax Go.Proofs.YtdanlkiojkimaaaDoor.Wire
set_option maxRecDepth 100000
def Env.more (η : Env) (b : Nat) : Env := { η with lv := η.lv ++ [⟨b, 0, 0⟩], ln := η.ln ++ [0] }
theorem OK.newVar {C : Cfg} {st0 : Option B} {s : SS} {σ : Sta} (h : OK C st0 s σ) {e : TypeId} {z : AV} (hz : z.cells.all AV.one = true) :
    OK C st0 { s with win := s.win ++ [z.cells.map ofA], zs := s.zs ++ [none] } { σ with η := σ.η.more σ.H.length, H := σ.H ++ [.cells e .vr z.cells] } ∧ KT (AO σ.η) σ.H (AO (σ.η.more σ.H.length)) (σ.H ++ [.cells e .vr z.cells]) := by
  have hlt : ∀ (l : Nat) (e' : Lv), σ.η.lv[l]? = some e' → e'.b < σ.H.length := fun l e' he' => by
    have hl : l < s.win.length := by have := (List.getElem?_eq_some_iff.1 he').1; have := h.win.1; omega
    obtain ⟨_, ty, kn, cs, q, _⟩ := h.win.2 l e' s.win[l] he' (by simp [hl])
    exact (List.getElem?_eq_some_iff.1 q).1
  have hAO : ∀ i, AO (σ.η.more σ.H.length) i ↔ AO σ.η i ∧ i ≠ σ.H.length := fun i => by
    simp [AO, Env.more, not_or, and_assoc]
  have hkt : KT (AO σ.η) σ.H (AO (σ.η.more σ.H.length)) (σ.H ++ [.cells e .vr z.cells]) := by
    have := KT.new (AO σ.η) σ.H [.cells e .vr z.cells]
    exact ⟨this.1, fun i b a x => ⟨(hAO i).2 (this.2 i b a x).1, (this.2 i b a x).2⟩⟩
  have hm : ∀ v a, den σ.η v a → den (σ.η.more σ.H.length) v a := fun v a d => den_mono (η := σ.η) (η' := σ.η.more σ.H.length) rfl (.app _ _) (.app _ _) (.refl _) (fun _ => rfl) d
  have hat : ∀ {i : Nat} {b : Blk}, σ.H[i]? = some b → (σ.H ++ [.cells e .vr z.cells])[i]? = some b := fun h => (Grows.app σ.H _).at h
  refine ⟨⟨h.fr.mono fun v _ a => hm v a, ⟨by simp [h.win.1, Env.more], fun l e' w he' hw => ?_⟩, ?_, ?_, ?_, fun hr => rdAt_kt (h.rd hr) hkt (by show (σ.H ++ [Blk.cells e .vr z.cells])[σ.η.rb]? = σ.H[σ.η.rb]?; rw [List.getElem?_append_left h.rbl]), by have := h.rbl; show σ.η.rb < _; simp; omega, h.avl, h.one, h.wid, by simp [h.zl], fun l e' w z' he' hw hz' => ?_, fun l e' hl he' => ?_, h.run, fun hst i ev vv aa q1 q2 q3 => RepE.kt hkt (h.rep hst i ev vv aa q1 q2 q3)⟩, hkt⟩
  · have he2 : (σ.η.lv ++ [⟨σ.H.length, 0, 0⟩])[l]? = some e' := he'
    have hw2 : (s.win ++ [z.cells.map ofA])[l]? = some w := hw
    by_cases hl : l < σ.η.lv.length
    · rw [List.getElem?_append_left hl] at he2
      rw [List.getElem?_append_left (by rw [h.win.1]; exact hl)] at hw2
      obtain ⟨q1, ty', kn', cs', q2, q3, q4, q5⟩ := h.win.2 _ _ _ he2 hw2
      exact ⟨q1, ty', kn', cs', hat q2, q3, q4, fun o v hv => by obtain ⟨a, a1, a2, a3⟩ := q5 o v hv; exact ⟨a, a1, a2, hm _ _ a3⟩⟩
    · have hl2 := (List.getElem?_eq_some_iff.1 he2).1
      simp at hl2
      obtain rfl : l = σ.η.lv.length := by omega
      simp at he2
      subst he2
      rw [← h.win.1] at hw2
      simp at hw2
      subst hw2
      refine ⟨by simp, e, .vr, z.cells, by simp, rfl, by simp, fun o v hv => ?_⟩
      simp only [List.getElem?_map, Option.map_eq_some_iff] at hv
      obtain ⟨c, hc, rfl⟩ := hv
      refine ⟨c, by rw [Nat.zero_add]; exact hc, ?_, den_ofA c⟩
      rw [List.all_eq_true] at hz
      exact hz c (List.mem_of_getElem? hc)
  · have := h.ln
    simp [Env.more]; omega
  · have hrb := h.rbl
    have nd := h.nd
    show (σ.η.rb :: (σ.η.lv ++ [(⟨σ.H.length, 0, 0⟩ : Lv)]).map Lv.b).Nodup
    rw [List.nodup_cons] at nd ⊢
    simp only [List.map_append, List.map_cons, List.map_nil, List.mem_append, List.mem_singleton]
    refine ⟨fun hx => ?_, ?_⟩
    · rcases hx with hx | hx
      · exact nd.1 hx
      · omega
    · rw [List.nodup_append]
      refine ⟨nd.2, by simp, fun a ha b hb => ?_⟩
      simp at hb
      obtain ⟨e', he', rfl⟩ := List.mem_map.1 ha
      obtain ⟨l, hl⟩ := List.mem_iff_getElem?.1 he'
      have := hlt l e' hl
      omega
  · have R := h.room
    exact Room.kt R hkt (AO_rb _) (fun i hi => (hAO i).2 ⟨R.new i (by simp at hi; omega), by simp at hi; omega⟩)
  · have he2 : (σ.η.lv ++ [⟨σ.H.length, 0, 0⟩])[l]? = some e' := he'
    have hw2 : (s.win ++ [z.cells.map ofA])[l]? = some w := hw
    have hz2 : (s.zs ++ [none])[l]? = some (some z') := hz'
    by_cases hl : l < σ.η.lv.length
    · rw [List.getElem?_append_left hl] at he2
      rw [List.getElem?_append_left (by rw [h.win.1]; exact hl)] at hw2
      rw [List.getElem?_append_left (by rw [h.zl, h.win.1]; exact hl)] at hz2
      obtain ⟨z1, ty', bl', n', q2, q3, q4, q5⟩ := h.zer _ _ _ _ he2 hw2 hz2
      exact ⟨z1, ty', bl', n', hat q2, (Pre.app σ.η.ln [0]).at_ _ _ q3, q4, fun q hq hqn o v hv => by obtain ⟨a, a1, a2, a3⟩ := q5 q hq hqn o v hv; exact ⟨a, a1, a2, hm _ _ a3⟩⟩
    · have hl2 := (List.getElem?_eq_some_iff.1 he2).1
      simp at hl2
      obtain rfl : l = σ.η.lv.length := by omega
      rw [← h.win.1, ← h.zl] at hz2
      simp at hz2
  · have he2 : (σ.η.lv ++ [⟨σ.H.length, 0, 0⟩])[l]? = some e' := he'
    by_cases hl3 : l < σ.η.lv.length
    · rw [List.getElem?_append_left hl3] at he2
      exact h.lvj l e' hl he2
    · have hl2 := (List.getElem?_eq_some_iff.1 he2).1
      simp at hl2
      obtain rfl : l = σ.η.lv.length := by omega
      simp at he2
      subst he2; rfl
def splitN : List Oper → Option (List Oper × Nat × TypeId × List Oper)
  | [] => none
  | ⟨some q, .alloc T, _, _, _, none⟩ :: r => some ([], q, T, r)
  | o :: r => (splitN r).map fun (a, b) => (o :: a, b)
theorem splitN_spec : ∀ {l pre post : List Oper} {q : Nat} {T : TypeId}, splitN l = some (pre, q, T, post) → ∃ ty pos af, l = pre ++ ⟨some q, .alloc T, ty, pos, af, none⟩ :: post := by
  intro l
  induction l with
  | nil => intro pre post q T h; cases h
  | cons o r ih =>
    intro pre post q T h
    have more : ((splitN r).map fun (a, b) => (o :: a, b)) = some (pre, q, T, post) → ∃ ty pos af, o :: r = pre ++ ⟨some q, .alloc T, ty, pos, af, none⟩ :: post := by
      intro h
      simp only [Option.map_eq_some_iff] at h
      obtain ⟨⟨a, b⟩, h1, h2⟩ := h
      simp only [Prod.mk.injEq] at h2
      obtain ⟨rfl, rfl⟩ := h2
      obtain ⟨ty, pos, af, e⟩ := ih h1
      exact ⟨ty, pos, af, by rw [e]; rfl⟩
    unfold splitN at h
    split at h
    · rename_i h0; cases h0
    · rename_i h0
      cases h0
      simp only [Option.some.injEq, Prod.mk.injEq] at h
      obtain ⟨rfl, rfl, rfl, rfl⟩ := h
      exact ⟨_, _, _, rfl⟩
    · rename_i h0
      cases h0
      exact more h
noncomputable def newS (C : Cfg) (ops : List Oper) (s : SS) : Option SS :=
  match splitN ops with
  | some (pre, q, T, post) => match opsS C none (inlS C 6) ops pre s, zerosS T with
    | some sA, some zs => if sA.win.length = s.win.length then opsS C none (inlS C 6) ops post { sA with win := sA.win ++ [zs], zs := sA.zs ++ [none], fr := sA.fr.set q (.ptr sA.win.length 0) } else none
    | _, _ => none
  | none => none
structure Grew (s s' : SS) (σ σ' : Sta) (cb : Nat) : Prop where
  rb : σ'.η.rb = σ.η.rb
  lv : Pre (σ.η.lv ++ [⟨cb, 0, 0⟩]) σ'.η.lv
  lnl : σ'.η.ln.length = σ.η.ln.length + 1
  kt : KT (AO σ.η) σ.H (AO σ'.η) σ'.H
  side : Side σ.η s.win σ.H σ'.H
  base : s'.base = s.base
  wl : Wl s.win s'.win
  av : Pre σ.η.av σ'.η.av
  evs : ∃ l, s'.evs = s.evs ++ l
  cbl : σ.H.length ≤ cb
  new : ∃ T cs w, σ'.H[cb]? = some (.cells T .vr cs) ∧ s'.win[σ.η.lv.length]? = some w ∧ cs.length = w.length
theorem Grew.step {s s1 s' : SS} {σ σ1 σ' : Sta} {cb : Nat} (h : Grew s s1 σ σ1 cb) (k : Step s1 s' σ1 σ') : Grew s s' σ σ' cb where
  rb := k.rb.trans h.rb
  lv := h.lv.trans k.lv
  lnl := by rw [k.ln]; exact h.lnl
  kt := h.kt.trans k.kt
  base := k.base.trans h.base
  av := h.av.trans k.av
  cbl := h.cbl
  new := by
    obtain ⟨T, cs, w, a, b, c⟩ := h.new
    obtain ⟨w2, w3, w4⟩ := k.wl _ w b
    obtain ⟨cs2, d1, d2, _⟩ := k.side _ ⟨cb, 0, 0⟩ w T .vr cs (h.lv.at_ _ _ (by simp)) b a
    exact ⟨T, cs2, w2, d1, w3, by rw [d2, c, w4]⟩
  wl := fun l w hw => by
    obtain ⟨w1, h1, h2⟩ := h.wl l w hw
    obtain ⟨w2, h3, h4⟩ := k.wl l w1 h1
    exact ⟨w2, h3, h4.trans h2⟩
  evs := by
    obtain ⟨a, ha⟩ := h.evs
    obtain ⟨b, hb⟩ := k.evs
    exact ⟨a ++ b, by rw [hb, ha, List.append_assoc]⟩
  side := fun l e w ty kn cs he hw hc => by
    obtain ⟨cs1, c1, c2, c3⟩ := h.side l e w ty kn cs he hw hc
    obtain ⟨w1, w2, w3⟩ := h.wl l w hw
    have hl := (List.getElem?_eq_some_iff.1 he).1
    obtain ⟨cs2, d1, d2, d3⟩ := k.side l e w1 ty kn cs1 (h.lv.at_ _ _ (by rw [List.getElem?_append_left hl]; exact he)) w2 c1
    exact ⟨cs2, d1, d2.trans c2, fun p hp => (d3 p (by rw [w3]; exact hp)).trans (c3 p hp)⟩
theorem Step.grew {s s1 s' : SS} {σ σ1 σ' : Sta} {cb : Nat} (h : Step s s1 σ σ1) (k : Grew s1 s' σ1 σ' cb) (hl : σ1.η.lv = σ.η.lv) : Grew s s' σ σ' cb where
  rb := k.rb.trans h.rb
  lv := by have := k.lv; rwa [hl] at this
  lnl := by rw [k.lnl, h.ln]
  kt := h.kt.trans k.kt
  base := k.base.trans h.base
  av := h.av.trans k.av
  cbl := Nat.le_trans h.kt.1 k.cbl
  new := by have := k.new; rwa [hl] at this
  wl := fun l w hw => by
    obtain ⟨w1, h1, h2⟩ := h.wl l w hw
    obtain ⟨w2, h3, h4⟩ := k.wl l w1 h1
    exact ⟨w2, h3, h4.trans h2⟩
  evs := by
    obtain ⟨a, ha⟩ := h.evs
    obtain ⟨b, hb⟩ := k.evs
    exact ⟨a ++ b, by rw [hb, ha, List.append_assoc]⟩
  side := fun l e w ty kn cs he hw hc => by
    obtain ⟨cs1, c1, c2, c3⟩ := h.side l e w ty kn cs he hw hc
    obtain ⟨w1, w2, w3⟩ := h.wl l w hw
    obtain ⟨cs2, d1, d2, d3⟩ := k.side l e w1 ty kn cs1 (h.lv.at_ _ _ he) w2 c1
    exact ⟨cs2, d1, d2.trans c2, fun p hp => (d3 p (by rw [w3]; exact hp)).trans (c3 p hp)⟩
theorem newS_sound {C : Cfg} (hC : Prims C) {ops : Array Oper} {i : Nat} {s s' : SS} (hs : newS C ops.toList s = some s') {st0 : Option B} {σ : Sta} (h : OK C st0 s σ) (hll : σ.η.ln.length = σ.η.lv.length) :
    ∃ σ' cb, RU P NS (.region i ops false) σ.fr σ.H (.normal, σ'.fr, σ'.H) ∧ OK C st0 s' σ' ∧ Grew s s' σ σ' cb ∧ σ'.η.ln.length = σ'.η.lv.length := by
  have hI := inlS_ok hC 6
  unfold newS at hs
  split at hs
  rotate_left
  · cases hs
  rename_i pre q T post hsp
  split at hs
  rotate_left
  · cases hs
  rename_i sA zs hpre hzs
  split at hs
  rotate_left
  · cases hs
  rename_i hwin
  obtain ⟨ty, pos, af, hl⟩ := splitN_spec hsp
  obtain ⟨b, hb⟩ := big_slot pre
  obtain ⟨σ1, w1, w2, w3, _⟩ := opsS_walk hC hI (ops := ops) (q := b) pre hpre (hb b (Nat.le_refl _)) h
  obtain ⟨z, hz, rfl, hz1⟩ := zerosS_some hzs
  have hlv : σ1.η.lv = σ.η.lv := w3.lv.eq (by rw [← w2.win.1, ← h.win.1, hwin])
  obtain ⟨g1, g2⟩ := w2.newVar (e := T) hz1
  have hl0 : σ1.η.lv.length = sA.win.length := w2.win.1.symm
  have hden : den (σ1.η.more σ1.H.length) (.ptr sA.win.length 0) (.p σ1.H.length 0) := ⟨⟨σ1.H.length, 0, 0⟩, by rw [← hl0]; simp [Env.more], rfl⟩
  have g3 := g1.put (v := .ptr sA.win.length 0) (a := .p σ1.H.length 0) hden (some q)
  obtain ⟨σ2, o1, o2, o3, _⟩ := opsS_sound hC hI (ops := ops) post hs g3 (fun m hm => by cases hm)
  have gr : Grew sA { sA with win := sA.win ++ [z.cells.map ofA], zs := sA.zs ++ [none], fr := sA.fr.set q (.ptr sA.win.length 0) } σ1 { σ1 with η := σ1.η.more σ1.H.length, H := σ1.H ++ [.cells T .vr z.cells], fr := putA σ1.fr (some q) (.p σ1.H.length 0) } σ1.H.length :=
    ⟨rfl, .refl _, by simp [Env.more], g2, fun l e w ty kn cs he hw hc => ⟨cs, (Grows.app σ1.H _).at hc, rfl, fun _ _ => rfl⟩, rfl, fun l w hw => ⟨w, by show (sA.win ++ [_])[l]? = _; rw [List.getElem?_append_left (List.getElem?_eq_some_iff.1 hw).1]; exact hw, rfl⟩, .refl _, ⟨[], by simp⟩, Nat.le_refl _, T, z.cells, z.cells.map ofA, by simp, by show (sA.win ++ [z.cells.map ofA])[σ1.η.lv.length]? = _; rw [hl0]; simp, by simp⟩
  have gA := w3.grew (gr.step o3) hlv
  refine ⟨σ2, σ1.H.length, ?_, o2, gA, ?_⟩
  · refine RU.region ?_
    rw [hl]
    refine w1 _ _ ?_
    exact One.os rfl (.pure rfl (op_alloc hz hz1)) o1
  · have hw2 : σ2.η.lv.length = σ1.η.lv.length + 1 := by
      have l1 := o3.lnl o2 (by show (σ1.η.more σ1.H.length).ln.length = (σ1.η.more σ1.H.length).lv.length; have := w3.lnl w2 hll; simp [Env.more]; exact this)
      rw [← l1, o3.ln]
      have := w3.lnl w2 hll
      simp [Env.more]; exact this
    have := w3.lnl w2 hll
    rw [w3.ln] at this
    rw [gA.lnl, hw2, this]
noncomputable def goP (C : Cfg) (evs1 : List Ev) (cs : List Code) (s : SS) : Option (SS × SS) :=
  match findP C cs with
  | some (p1, _, ops, _, ops2, c, a, p3) => match chk C 400 p1 s with
    | some s1 => match presD C true (.nm .i8) ops.toList ops2.toList s1, presD C false (.i .i8 0) ops.toList ops2.toList s1, flat a with
      | some sT, some sF, .region _ opsN false :: a' => if s1.evs = evs1 ∧ evS sT.fr c = some (.b true) ∧ evS sF.fr c = some (.b false) ∧ s1.win.length = s.win.length ∧ sT.evs = evs1 ++ [Ev.leaf .i8 false] ∧ sF.evs = evs1 ++ [Ev.leaf .i8 false] then
        match newS C opsN.toList sT with
        | some sC => match chk C 400 (a' ++ p3) sC, chk C 400 p3 sF with
          | some sE, some sB => some (sB, sE)
          | _, _ => none
        | none => none
        else none
      | _, _, _ => none
    | none => none
  | none => none
def OutP (C : Cfg) (evs1 : List Ev) (cs : List Code) (bs : B) (s sB sE : SS) (σ : Sta) : Prop :=
  (∃ fr' H', RUs cs σ.fr σ.H (.ret, fr', H') ∧ fr'[C.res]? = some .e ∧ runE C.flex sE.evs bs = none) ∨
  (∃ σ', RUs cs σ.fr σ.H (.normal, σ'.fr, σ'.H) ∧ OK C (some bs) sB σ' ∧ Step s sB σ σ' ∧ σ'.st = none ∧ runE C.flex sE.evs bs = none) ∨
  (∃ σ' cb, RUs cs σ.fr σ.H (.normal, σ'.fr, σ'.H) ∧ OK C (some bs) sE σ' ∧ Grew s sE σ σ' cb)
theorem goP_sound {C : Cfg} (hC : Prims C) (hN : ∀ f, C.prim.lookup f = some (.leaf .i8 false none) → RdN f .i8 (rdI 1)) {evs1 : List Ev} {bs : B} (hp : ∀ vs r, runE C.flex evs1 bs = some (vs, r) → ∀ k r', rdI 1 r = some (k, r') → k ≠ -1) :
    ∀ cs s sB sE, goP C evs1 cs s = some (sB, sE) → ∀ σ, OK C (some bs) s σ → σ.η.ln.length = σ.η.lv.length → OutP C evs1 cs bs s sB sE σ := by
  intro cs s sB sE h σ ok hl
  unfold goP at h
  split at h
  rotate_left
  · cases h
  rename_i p1 id ops id2 ops2 c a p3 hf
  split at h
  rotate_left
  · cases h
  rename_i s1 h1
  split at h
  rotate_left
  · cases h
  rename_i sT sF idN opsN a' hT hF hfa
  split at h
  rotate_left
  · cases h
  rename_i hc
  obtain ⟨c0, c1, c2, c3, c4, c5⟩ := hc
  split at h
  rotate_left
  · cases h
  rename_i sC hnew
  split at h
  rotate_left
  · cases h
  rename_i sE' sB' hE hB
  simp only [Option.some.injEq, Prod.mk.injEq] at h
  obtain ⟨rfl, rfl⟩ := h
  obtain ⟨lC, eC⟩ : ∃ l, sC.evs = sT.evs ++ l := by
    unfold newS at hnew
    split at hnew
    rotate_left
    · cases hnew
    split at hnew
    rotate_left
    · cases hnew
    rename_i hpre hz
    split at hnew
    rotate_left
    · cases hnew
    obtain ⟨a1, e1⟩ := opsS_evs (inlS_evs C 6) _ hpre
    obtain ⟨a2, e2⟩ := opsS_evs (inlS_evs C 6) _ hnew
    exact ⟨a1 ++ a2, by rw [e2]; show _ ++ a2 = _; rw [e1, List.append_assoc]⟩
  obtain ⟨lE, eE⟩ := chk_evs 400 _ _ _ hE
  have evE : sE'.evs = evs1 ++ ([Ev.leaf .i8 false] ++ (lC ++ lE)) := by rw [eE, eC, c4]; simp [List.append_assoc]
  rw [findP_spec hf]
  rcases chk_sound hC 400 _ _ _ h1 (some bs) σ ok hl with ⟨σ1, q1, q2, q3⟩ | ⟨fr', H', q1, q2, q3⟩
  · have l1 := q3.lnl q2 hl
    have hlv1 : σ1.η.lv = σ.η.lv := q3.lv.eq (by rw [← q2.win.1, ← ok.win.1, c3])
    cases hb : σ1.st.bind (rdI 1) with
    | none =>
      have hnone : runE C.flex (evs1 ++ [Ev.leaf .i8 false]) bs = none := by
        have hrun := q2.run
        rw [c0] at hrun
        cases hst : σ1.st with
        | none =>
          rw [hst] at hrun
          simp only [Option.bind_some] at hrun
          rw [runE_snoc, hrun]; rfl
        | some r0 =>
          rw [hst] at hrun hb
          obtain ⟨bs0, hb0, hrun⟩ := hrun
          cases hb0
          simp only [Option.bind_some] at hb
          have hd8 : (Ev.leaf .i8 false).dec C.flex r0 = (rdI 1 r0).map fun (n, r) => (V.i n, r) := rfl
          rw [runE_snoc, hrun]
          simp [hd8, hb]
      have hEn : runE C.flex sE'.evs bs = none := by
        rw [evE, ← List.append_assoc]
        exact runE_more hnone _
      obtain ⟨σ2, r1, r2, r3, r4⟩ := presD_sound hC hN (i := id) (i2 := id2) (v := .i .i8 0) rfl hF q2 (by rw [hb]; rfl) (fun η => by
        show AV.i .i8 (numO8 σ1.st) = .i .i8 0
        unfold numO8; rw [hb])
      obtain ⟨xa, e1, rfl⟩ := evS_sound r2.fr c2
      have l2 := r3.lnl r2 l1
      rcases chk_sound hC 400 _ _ _ hB (some bs) σ2 r2 l2 with ⟨σ3, k1, k2, k3⟩ | ⟨fr', H', k1, k2, k3⟩
      · refine .inr (.inl ⟨σ3, RUs.app q1 (RUs.app (b := .cond c a .skip :: p3) r1 (RUs.cons (RU.condF e1 RU.skip) k1)), k2, (q3.trans r3).trans k3, ?_, hEn⟩)
        obtain ⟨lB, eB⟩ := chk_evs 400 _ _ _ hB
        cases hst : σ3.st with
        | none => rfl
        | some r3' =>
          have hrun := k2.run
          rw [hst] at hrun
          obtain ⟨bs0, hb0, hrun⟩ := hrun
          cases hb0
          rw [eB, c5] at hrun
          rw [runE_more hnone] at hrun; cases hrun
      · exact .inl ⟨fr', H', RUs.app q1 (RUs.app (b := .cond c a .skip :: p3) r1 (RUs.cons (RU.condF e1 RU.skip) k1)), k2, hEn⟩
    | some z =>
      obtain ⟨k, r'⟩ := z
      have hk : k ≠ -1 := by
        cases hst : σ1.st with
        | none => rw [hst] at hb; cases hb
        | some r0 =>
          rw [hst] at hb
          simp only [Option.bind_some] at hb
          have hrun := q2.run
          rw [hst] at hrun
          obtain ⟨bs0, hb0, hrun⟩ := hrun
          cases hb0
          rw [c0] at hrun
          exact hp _ _ hrun _ _ hb
      obtain ⟨σ2, r1, r2, r3, _⟩ := presD_sound hC hN (i := id) (i2 := id2) (v := .nm .i8) rfl hT q2 (by rw [hb]; rfl) (fun η => ⟨numO8 σ1.st, rfl, by unfold numO8; rw [hb]; exact hk⟩)
      obtain ⟨xa, e1, rfl⟩ := evS_sound r2.fr c1
      have l2 := r3.lnl r2 l1
      obtain ⟨σ3, cb, n1, n2, n3, n4⟩ := newS_sound hC (i := idN) hnew r2 l2
      have hlv2 : σ2.η.lv = σ1.η.lv := r3.lv.eq (by rw [← l2, ← l1, r3.ln])
      have gr := (q3.trans r3).grew n3 (hlv2.trans hlv1)
      have split2 : ∀ {x : AX} {fr4 : List AV} {H4 : Heap}, RUs (a' ++ p3) σ3.fr σ3.H (x, fr4, H4) → x = .normal ∨ x = .ret → RUs (.cond c a .skip :: p3) σ2.fr σ2.H (x, fr4, H4) := by
        intro x fr4 H4 hr hx
        rcases RUs.split hr with ⟨fr5, H5, h5, h6⟩ | ⟨h5, h6⟩
        · exact RUs.cons (RU.condT e1 (RUs.code (by rw [hfa]; exact RUs.cons n1 h5))) h6
        · exact RUs.stop (RU.condT e1 (RUs.code (by rw [hfa]; exact RUs.cons n1 h6))) h5
      rcases chk_sound hC 400 _ _ _ hE (some bs) σ3 n2 n4 with ⟨σ4, k1, k2, k3⟩ | ⟨fr', H', k1, k2, k3⟩
      · exact .inr (.inr ⟨σ4, cb, RUs.app q1 (RUs.app (b := .cond c a .skip :: p3) r1 (split2 k1 (.inl rfl))), k2, gr.step k3⟩)
      · exact .inl ⟨fr', H', RUs.app q1 (RUs.app (b := .cond c a .skip :: p3) r1 (split2 k1 (.inr rfl))), k2, by simpa using k3⟩
  · refine .inl ⟨fr', H', RUs.appx _ q1 (by simp), q2, ?_⟩
    rw [evE]
    simp only [Option.bind_some] at q3
    rw [c0] at q3
    exact runE_more q3 _
end Go.Proofs.YtdanlkiojkimaaaDoor.Rd

