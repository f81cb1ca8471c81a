import Derived.Test.YtopfghmpaobnnaaDoorQWxLoop
/-
  THE WRITING CODE's CHECKER is sound, for a whole function.
-/
namespace Go.Proofs.YtopfghmpaobnnaaDoor.Rd
set_option linter.constructorNameAsVariable false
set_option linter.unusedVariables false
set_option linter.unusedSimpArgs false
open Go Go.Proofs.YtopfghmpaobnnaaDoor.Ax Go.Proofs.YtopfghmpaobnnaaDoor.Wire
set_option linter.unusedVariables false
set_option linter.unusedSimpArgs false
set_option maxRecDepth 100000

theorem headW_get {l it : Nat} {b : Code} {o c : Nat} {fr : WF} {t : Nat} {v : WV} (ht : t ≠ it) (h : (headW l it b o c fr)[t]? = some v) : (t = o ∧ v = .out c) ∨ v = .u ∨ (fr[t]? = some v ∧ ∀ k, v ≠ .out k) := by
  unfold headW at h
  rw [List.getElem?_set, if_neg (fun e => ht e.symm), List.getElem?_set] at h
  split at h
  · rename_i e
    split at h
    · cases h; exact .inl ⟨e.symm, rfl⟩
    · cases h
  · have key : ∀ (ds : List Nat) (fr : WF), ((ds.foldl (fun fr t => fr.set t WV.u) fr)[t]?) = some v → v = .u ∨ fr[t]? = some v := by
      intro ds
      induction ds with
      | nil => intro fr h; exact .inr h
      | cons d ds ih =>
        intro fr h
        rcases ih _ h with h | h
        · exact .inl h
        · rw [List.getElem?_set] at h
          split at h
          · split at h
            · cases h; exact .inl rfl
            · cases h
          · exact .inr h
    simp only [List.getElem?_map, Option.map_eq_some_iff] at h
    obtain ⟨w, hw, rfl⟩ := h
    by_cases hu : noOut w = .u
    · exact .inr (.inl hu)
    · have hwn : noOut w = w ∧ ∀ k, w ≠ .out k := by
        cases w <;> first | exact ⟨rfl, fun k => by simp⟩ | exact absurd rfl hu
      obtain ⟨e1, e2⟩ := hwn
      rw [e1] at hu ⊢
      have key2 : ∀ (ds : List Nat) (fr : WF), ((ds.foldl (fun fr t => fr.set t WV.u) fr)[t]?) = some w → w = .u ∨ fr[t]? = some w := by
        intro ds
        induction ds with
        | nil => intro fr h; exact .inr h
        | cons d ds ih =>
          intro fr h
          rcases ih _ h with h | h
          · exact .inl h
          · rw [List.getElem?_set] at h
            split at h
            · split at h
              · cases h; exact .inl rfl
              · cases h
            · exact .inr h
      rcases key2 _ _ hw with h | h
      · exact absurd h hu
      · exact .inr (.inr ⟨h, e2⟩)
theorem headW_length (l it : Nat) (b : Code) (o c : Nat) (fr : WF) : (headW l it b o c fr).length = fr.length := by
  unfold headW
  have : ∀ (ds : List Nat) (fr : WF), (ds.foldl (fun fr t => fr.set t WV.u) fr).length = fr.length := by
    intro ds
    induction ds with
    | nil => intro fr; rfl
    | cons d ds ih => intro fr; simp only [List.foldl_cons]; rw [ih]; simp
  simp [this]
theorem headW_it {l it : Nat} {b : Code} {o c : Nat} {fr : WF} (h : it < fr.length) : (headW l it b o c fr)[it]? = some (.idx l) := by
  have hl := headW_length l it b o c fr
  unfold headW at hl ⊢
  rw [List.length_set] at hl
  rw [List.getElem?_set_self (by rw [hl]; exact h)]

theorem chkW_sound {C : Cfg} {prim : List (FuncId × WPrim)} (hP : WPrims C prim) {H0 : Heap} {L0 : Nat} (n : Nat) : ∀ cs s s', chkW C prim n cs s = some s' → ∀ o0 σ, WOK C H0 L0 o0 s σ → ∃ σ', RUs cs σ.fr σ.H (.normal, σ'.fr, σ'.H) ∧ WOK C H0 L0 o0 s' σ' ∧ WStep L0 s s' σ σ' := by
  induction n with
  | zero => intro cs s s' h; cases h
  | succ n ih =>
    intro cs s s' h o0 σ ok
    have h : chkWStep C prim (chkW C prim n) cs s = some s' := h
    have flatc : ∀ {c d : Code} {rest : List Code} {s s' : WS} {σ : WSta}, (∀ fr1 H1, RU P NS c σ.fr σ.H (.normal, fr1, H1) → RU P NS d σ.fr σ.H (.normal, fr1, H1)) → (∃ σ', RUs (flat c ++ rest) σ.fr σ.H (.normal, σ'.fr, σ'.H) ∧ WOK C H0 L0 o0 s' σ' ∧ WStep L0 s s' σ σ') → ∃ σ', RUs (d :: rest) σ.fr σ.H (.normal, σ'.fr, σ'.H) ∧ WOK C H0 L0 o0 s' σ' ∧ WStep L0 s s' σ σ' := by
      intro c d rest s s' σ hn ⟨σ', h1, h2, h3⟩
      rcases RUs.split h1 with ⟨fr1, H1, p1, p2⟩ | ⟨p1, _⟩
      · exact ⟨σ', RUs.cons (hn _ _ (RUs.code p1)) p2, h2, h3⟩
      · exact absurd rfl p1
    unfold chkWStep at h
    split at h
    · simp at h; subst h
      exact ⟨σ, rfl, ok, .refl _ _ _⟩
    · rename_i idr ops rest h0
      cases h2 : opsW C prim ops.toList ops.toList s with
      | none => rw [h2] at h; cases h
      | some s2 =>
        rw [h2] at h
        simp only [Option.bind_some] at h
        obtain ⟨σ2, q1, q2, q3⟩ := opsW_sound hP (ops := ops) _ h2 ok
        obtain ⟨σ3, w1, w2, w3⟩ := ih _ _ _ h o0 σ2 q2
        exact ⟨σ3, RUs.cons (RU.region q1) w1, w2, q3.trans w3⟩
    · split at h
      · rename_i hc
        obtain ⟨xa, e1, rfl⟩ := evW_sound ok.fr hc
        exact flatc (fun _ _ hr => RU.condT e1 hr) (ih _ _ _ h o0 σ ok)
      · rename_i hc
        obtain ⟨xa, e1, rfl⟩ := evW_sound ok.fr hc
        exact flatc (fun _ _ hr => RU.condF e1 hr) (ih _ _ _ h o0 σ ok)
      · cases h
    · rename_i id b rest h0
      split at h
      rotate_left
      · cases h
      rename_i o null it sz null' f o' hpd hit hpl
      simp only at h
      split at h
      rotate_left
      · cases h
      rename_i s2 j s3 hb hx
      split at h
      rotate_left
      · cases h
      rename_i hc
      obtain ⟨rfl, rfl, rfl, c4, c5, c6, c7, c8, c9, c10, c11, c12, c13, c14, c15, c16, c17, c18, c19, c20, c21, c22, c23, c24, c25, c26⟩ := hc
      obtain ⟨e, pl, vs, t1, t2, t3, t4⟩ := ok.top3
      rw [t4] at hpl
      have hsd := ok.said _ e pl vs t1 t2 t3
      obtain ⟨v, x, kk, v1, hx1, hlr, hoe, hsl, hk31, hmat⟩ := said_list hsd hpl
      obtain ⟨p, p1, p2⟩ := ok.bytes e pl vs t1 t2 t3
      rw [hpd] at p1
      simp only [pendB, hx1, hsl, Option.bind_some, Option.map_some, Option.some.injEq] at p1
      have henc := encs_take C.flex hpl v1
      have hfit := encs_fit C.flex pl vs (s.k + 1)
      have hbnd := ok.bound pl vs t2 t3
      -- the elements
      have hus : ∃ us : List V, kk = us.length ∧ Ev.enc C.flex (.list sz null' f) v = p ++ us.flatMap (enc C.flex f) ∧ (∀ y ∈ us, Wire.ok C.flex f y) ∧ (0 < us.length → ∃ nb ty bl, x = .sl nb 0 us.length ∧ nb < L0 ∧ H0[nb]? = some (.cells ty .row bl) ∧ bl.length = us.length * sz ∧ ∀ (j : Nat) (y : V), us[j]? = some y → Rep (fun i => i < L0) H0 f y ((bl.drop (j * sz)).take sz)) := by
        cases v with
        | l us =>
          obtain ⟨rfl, hz⟩ := hmat
          refine ⟨us, rfl, ?_, hoe.2, fun hu => ?_⟩
          · show cnt C.flex 4 us.length ++ us.flatMap (enc C.flex f) = _
            rw [← p1]
            cases hn : null' with
            | false => rfl
            | true => rw [hz hn]; rfl
          · rcases hlr with ⟨rfl, _⟩ | ⟨nb, ty, bl, a0, a1, a2, a3, a4, a5⟩
            · simp at hu
            · exact ⟨nb, ty, bl, a2, a1, a3, a4, a5⟩
        | nul =>
          obtain ⟨_, hn, rfl⟩ := hmat
          simp [slen] at hsl
          subst hsl
          refine ⟨[], rfl, ?_, fun y hy => by simp at hy, fun hu => by simp at hu⟩
          rw [← p1, hn]
          show cnt0 C.flex 4 = _
          simp [isS0]
        | _ => exact hlr.elim
      obtain ⟨us, rfl, hev, huok, hurep⟩ := hus
      have hll : s.lv.length = σ.lv.length := ok.lvl
      have hsame : ∀ t v, t ≠ it → (headW s.lv.length it b (outSlot s.cur s.fr) s.cur s.fr)[t]? = some v → v = .u ∨ s2.fr[t]? = some (renW s.cur s2.cur v) := by
        intro t v ht hv
        have hv2 : ((headW s.lv.length it b (outSlot s.cur s.fr) s.cur s.fr).set it .u)[t]? = some v := by rw [List.getElem?_set, if_neg (fun e => ht e.symm)]; exact hv
        rw [List.all_eq_true] at c17
        have hlt := (List.getElem?_eq_some_iff.1 hv).1
        have hb2 : s2.fr[t]? = some (s2.fr[t]'(by rw [c16]; exact hlt)) := by simp
        have := c17 (v, s2.fr[t]'(by rw [c16]; exact hlt)) (by
          rw [List.mem_iff_getElem?]
          exact ⟨t, by rw [List.getElem?_zip_eq_some]; exact ⟨hv2, hb2⟩⟩)
        simp only [Bool.or_eq_true, beq_iff_eq] at this
        rcases this with h | h
        · exact .inl h
        · exact .inr (by rw [hb2, h])
      have hcalm : ∀ t v, t ≠ it → (headW s.lv.length it b (outSlot s.cur s.fr) s.cur s.fr)[t]? = some v → v.calm s.lv.length = true := by
        intro t v ht hv
        have hv2 : ((headW s.lv.length it b (outSlot s.cur s.fr) s.cur s.fr).set it .u)[t]? = some v := by rw [List.getElem?_set, if_neg (fun e => ht e.symm)]; exact hv
        rw [List.all_eq_true] at c18
        exact c18 v (List.mem_of_getElem? hv2)
      have hob : σ.bs.length + (us.flatMap (enc C.flex f)).length + 8 ≤ 1099511627776 := by
        rw [henc, List.length_append, hev, List.length_append] at hfit
        rw [p2]
        simp only [List.length_append]
        omega
      obtain ⟨σ3, w1, ⟨E, wE⟩, w2, w3, w4⟩ := loopW_sound (b := b) (it := it) (id := j) (o := o') (sz := sz) (l := s.lv.length) (f := f) (s2 := s2) (s3 := s3) ok rfl c5
        (fun o1 σ1 ok1 => ih _ _ _ hb o1 σ1 ok1) (fun o1 σ1 ok1 => exitW_sound hx ok1) (headW_it c10) c11 c12 c13 c14 c15 c16 c21 c20 c22 hsame hcalm t1 hx1 hsl hk31 hurep huok (ob := σ.bs) hob
        us.length 0 σ.fr σ.H σ.out σ.bs (by omega) (fun E hE1 hE2 => by
          refine ⟨by rw [List.length_set, headW_length]; exact ok.fr.1, fun t v a hv ha => ?_⟩
          rw [List.getElem?_set] at hv
          by_cases ht : it = t
          · subst ht
            rw [if_pos rfl] at hv
            have ha0 : a = .i .i64 0 := ok.fr.2 it _ a c7 ha
            have hE' : (σ.lv ++ [E])[s.lv.length]? = some E := by rw [hll]; simp
            split at hv
            · cases hv
              split
              · rename_i hu
                obtain ⟨g1, g2⟩ := hE1 hu
                exact ⟨E, hE', by rw [ha0, g1]; rfl, by rw [g1, g2]; exact hu, by rw [g2]; omega⟩
              · rename_i hu
                exact ⟨E, hE', by rw [ha0, hE2 (by omega), show us.length = 0 by omega]; rfl⟩
            · cases hv
          · rw [if_neg ht] at hv
            rcases headW_get (fun e => ht e.symm) hv with ⟨rfl, rfl⟩ | rfl | ⟨h1, h2⟩
            · exact fun _ => ok.fr.2 _ _ a c8 ha rfl
            · trivial
            · exact denW_pre [E] (ok.fr.2 t v a h1 ha)) ok.keep ok.out (by simp)
      have okT : WOK C H0 L0 o0 { s with fr := s3.fr.map (lowW s.lv.length), pend := none, k := s.k + 1 } { fr := σ3.fr, H := σ3.H, lv := σ.lv, out := σ3.out, bs := σ3.bs, vs := σ.vs } := by
        refine ⟨⟨by simp [w2.fr.1], fun t v a hv ha => ?_⟩, ok.lvl, ok.exl, ok.vsl, ok.pos, ok.lv, ok.up, ok.said, ok.ver, w2.keep, ok.l0, w2.out, fun e' pl' vs' r1 r2 r3 => ?_, ok.bound⟩
        · simp only [List.getElem?_map, Option.map_eq_some_iff] at hv
          obtain ⟨v', hv', rfl⟩ := hv
          unfold lowW
          split
          · rename_i hcm
            have d := w2.fr.2 t v' a hv' ha
            rw [wE, c19] at d
            exact denW_lv (fun k hk => by rw [List.getElem?_append_left (by rw [← hll]; exact hk)]) hcm d
          · trivial
        · have r1 : σ.lv[s.top]? = some e' := r1
          have r2 : s.exp[s.top]? = some pl' := r2
          have r3 : σ.vs[s.top]? = some vs' := r3
          rw [t1] at r1; cases r1
          rw [t2] at r2; cases r2
          rw [t3] at r3; cases r3
          refine ⟨[], rfl, ?_⟩
          show σ3.bs = _
          rw [w4, henc, hev, p2]
          simp
      obtain ⟨σ4, x1, x2, x3⟩ := ih _ _ _ h o0 _ okT
      refine ⟨σ4, RUs.cons (RU.block0 w1) x1, x2, ⟨x3.lv, x3.vs, x3.slv, x3.exp, x3.ver, ?_, w3.trans x3.keep⟩⟩
      have hfl3 : s3.fr.length = s.fr.length := c26
      have := x3.frl
      simp [hfl3] at this
      exact this
    · exact flatc (fun _ _ hr => RU.blockN hr) (ih _ _ _ h o0 σ ok)
    · cases h

theorem chkWTop_sound {C : Cfg} {prim : List (FuncId × WPrim)} (hP : WPrims C prim) {fn : Func} {f : FuncId} {sz : Nat} {ver : Option Int} {pl : List (Ev × Nat)} (h : chkWTop C prim fn sz ver pl = true) (hf : P.funcs[f]? = some fn) {H : Heap} {mb : Nat} {ty : TypeId} {kn : Kn} {cs : List AV} {vs : List V}
    (hm : H[mb]? = some (.cells ty kn cs)) (hsz : cs.length = sz) (hver : ∀ n, ver = some n → cs[0]? = some (.i .i16 n)) (hsaid : Said C.flex (fun i => i < H.length) H cs pl vs) (hbd : (encs C.flex pl vs).length + 8 ≤ 1099511627776) :
    ∃ out H', CA P NS f [.p mb 0, .s0] H (out, H') ∧ OutAt H.length H' out (encs C.flex pl vs) ∧ WKeep H.length H H' := by
  unfold chkWTop at h
  split at h
  rotate_left
  · cases h
  rename_i code hcode
  simp only at h
  split at h
  rotate_left
  · cases h
  rename_i s hlast hchk
  simp only [decide_eq_true_eq] at h
  obtain ⟨c1, c2, c3, c4, c5, c6, c7⟩ := h
  have hmb := (List.getElem?_eq_some_iff.1 hm).1
  have ok : WOK C H H.length [] { fr := [.ptr 0 0, .out 0] ++ List.replicate (fn.ntmps - 2) .u, lv := [(0, sz)], ver := ver, cur := 0, pend := none, exp := [pl], k := 0 } { fr := [.p mb 0, .s0] ++ List.replicate (fn.ntmps - 2) (.t []), H := H, lv := [⟨mb, 0, sz, cs, 0, 0, 1⟩], out := .s0, bs := [], vs := [vs] } := by
    refine ⟨⟨by simp, fun t v a hv ha => ?_⟩, rfl, rfl, rfl, by simp, fun l e he => ?_, fun l p e hp he => ?_, fun l e pl' vs' he hpl hvs => ?_, fun n hn => ⟨_, rfl, hver n hn⟩, .refl _ _, Nat.le_refl _, .inl ⟨rfl, rfl⟩, fun e pl' vs' he hpl hvs => ?_, fun pl' vs' hpl hvs => ?_⟩
    · match t, hv, ha with
      | 0, hv, ha => simp at hv ha; subst hv; subst ha; exact ⟨_, rfl, Nat.zero_lt_one, rfl⟩
      | 1, hv, ha => simp at hv ha; subst hv; subst ha; exact fun _ => rfl
      | t + 2, hv, ha =>
        simp [List.getElem?_replicate] at hv
        rw [← hv.2]; trivial
    · cases l with
      | zero =>
        simp at he
        subst he
        exact ⟨rfl, fun _ => ⟨hsz, hmb, ty, kn, cs, hm, by simp [hsz], by simp [← hsz]⟩⟩
      | succ l => simp at he
    · simp at he
    · cases l with
      | zero =>
        simp at he hpl hvs
        subst he hpl hvs
        exact hsaid
      | succ l => simp at he
    · simp [WS.top] at he hpl hvs
      subst he hpl hvs
      exact ⟨[], rfl, by simp [encs]⟩
    · simp [WS.top] at hpl hvs
      subst hpl hvs
      simpa using hbd
  obtain ⟨σ', q1, q2, q3⟩ := chkW_sound hP 400 _ _ _ hchk [] _ ok
  have hlv : σ'.lv = [⟨mb, 0, sz, cs, 0, 0, 1⟩] := q3.lv
  have hvs : σ'.vs = [vs] := q3.vs
  obtain ⟨a, a1, a2⟩ := FRW.at_ q2.fr c1
  have ha : a = σ'.out := a2 rfl
  subst ha
  obtain ⟨p, p1, p2⟩ := q2.bytes ⟨mb, 0, sz, cs, 0, 0, 1⟩ pl vs (by unfold WS.top; rw [c4, hlv]; rfl) (by unfold WS.top; rw [c4, c3]; rfl) (by unfold WS.top; rw [c4, hvs]; rfl)
  rw [c2] at p1
  simp [pendB] at p1
  subst p1
  rw [c5, List.take_length] at p2
  simp only [List.nil_append, List.append_nil] at p2
  have hres : fn.results.toList = [.tmp C.res] := by
    unfold oneRes at c6
    split at c6
    · rename_i t ht; cases c6; exact ht
    · cases c6
  have hcodes : flat code = (flat code).dropLast ++ [.ret] := by
    have hne : flat code ≠ [] := by intro he; rw [he] at hlast; cases hlast
    have := List.dropLast_concat_getLast hne
    rw [List.getLast?_eq_some_getLast hne] at hlast
    simp at hlast
    rw [hlast] at this
    exact this.symm
  have hrun : RU P NS code ([.p mb 0, .s0] ++ List.replicate (fn.ntmps - 2) (.t [])) H (.ret, σ'.fr, σ'.H) := by
    refine RUs.code (c := code) ?_
    rw [hcodes]
    exact RUs.app q1 (RUs.stop RU.ret (by simp))
  have hr2 : resultsA P σ'.H σ'.fr fn.results.toList = some [σ'.out] := by rw [hres]; simp [resultsA, a1]
  refine ⟨σ'.out, σ'.H, CA.go (fn := fn) (vs := [σ'.out]) hf hcode (.inr rfl) ⟨σ'.fr, hrun, hr2⟩, by rw [← p2]; exact q2.out, q3.keep⟩
end Go.Proofs.YtopfghmpaobnnaaDoor.Rd

