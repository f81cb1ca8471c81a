/-
  THE CHECKER, where a part may be missing: a whole reading function; the part is missing, the part is there.
-/
import Derived.Test.YtdanlkiojkimaaaDoorQSxOpt
set_option linter.constructorNameAsVariable false
set_option linter.unusedVariables false
set_option linter.unusedSimpArgs false
namespace Go.Proofs.YtdanlkiojkimaaaDoor.Rd
open Go Go.Proofs.YtdanlkiojkimaaaDoor.Ax Go.Proofs.YtdanlkiojkimaaaDoor.Wire
set_option maxRecDepth 100000
noncomputable def chkTopA (C : Cfg) (evs1 : List Ev) (fn : Func) (w0 : SF) : Option (List (Ev × Nat) × SF) :=
  match fn.body with
  | some c =>
    let l := flat c
    match l.drop 2, runL C (some true) (inlS C 6) fuelI (l.take 2) (topS fn.ntmps w0) with
    | .region _ ops false :: rest, some (.normal, s1) => match mkOp ops.toList with
      | some (a, b, r) =>
        let body := rest.take (rest.length - 2)
        let tl := rest.drop (rest.length - 2)
        if s1.fr[1]? = some (.pt 0) ∧ s1.evs = [] ∧ s1.win.length = 1 ∧ a < s1.fr.length ∧ b < s1.fr.length ∧ r < s1.fr.length ∧ s1.zs = [none] ∧ s1.rdy = false ∧ s1.fr.contains .rd = false ∧ (s1.win.all fun w => w.all SV.still) = true ∧ oneRes fn.results.toList = some C.res then
          match goA C evs1 body { s1 with fr := ((s1.fr.set a .u).set b .u).set r .rd, rdy := true } with
          | some s2 => match runL C (some true) (inlS C 6) fuelI tl s2, runL C (some false) (inlS C 6) fuelI tl s2, s2.win with
            | some (.ret, sg), some (.ret, sb), [w] => if sg.fr[C.res]? = some (.z .n) ∧ sb.fr[C.res]? = some (.z .e) ∧ sg.win = s2.win ∧ (w.all SV.still) = true ∧ s2.evs[evs1.length]? = some (Ev.leaf .i8 false) then (places (w ++ [.cel (1 + evs1.length) 0]) 1 s2.evs).map fun pl => (pl, w) else none
            | _, _, _ => none
          | none => none
        else none
      | none => none
    | _, _ => none
  | none => none
noncomputable def chkTopP (C : Cfg) (evs1 : List Ev) (off sz1 : Nat) (fn : Func) (w0 : SF) : Option (List (Ev × Nat)) :=
  match fn.body with
  | some c =>
    let l := flat c
    match l.drop 2, runL C (some true) (inlS C 6) fuelI (l.take 2) (topS fn.ntmps w0) with
    | .region _ ops false :: rest, some (.normal, s1) => match mkOp ops.toList with
      | some (a, b, r) =>
        let body := rest.take (rest.length - 2)
        let tl := rest.drop (rest.length - 2)
        if s1.fr[1]? = some (.pt 0) ∧ s1.evs = [] ∧ s1.win.length = 1 ∧ a < s1.fr.length ∧ b < s1.fr.length ∧ r < s1.fr.length ∧ s1.zs = [none] ∧ s1.rdy = false ∧ s1.fr.contains .rd = false ∧ (s1.win.all fun w => w.all SV.still) = true ∧ oneRes fn.results.toList = some C.res then
          match goP C evs1 body { s1 with fr := ((s1.fr.set a .u).set b .u).set r .rd, rdy := true } with
          | some (sB, sE) => match runL C (some true) (inlS C 6) fuelI tl sE, runL C (some false) (inlS C 6) fuelI tl sE, runL C (some false) (inlS C 6) fuelI tl sB, sE.win with
            | some (.ret, sg), some (.ret, sb), some (.ret, sb2), [w, w1] => if sg.fr[C.res]? = some (.z .n) ∧ sb.fr[C.res]? = some (.z .e) ∧ sb2.fr[C.res]? = some (.z .e) ∧ sg.win = sE.win ∧ w[off]? = some (.ptr 1 0) ∧ sE.evs[evs1.length]? = some (Ev.leaf .i8 false) ∧ w[0]? = w0[0]? ∧ w1.length = sz1 then places ((w ++ w1) ++ [.cel (1 + evs1.length) 0]) 1 sE.evs else none
            | _, _, _, _ => none
          | none => none
        else none
      | none => none
    | _, _ => none
  | none => none
theorem chkTopP_sound {C : Cfg} (hC : Prims C) (hN : ∀ f, C.prim.lookup f = some (.leaf .i8 false none) → RdN f .i8 (rdI 1)) {evs1 : List Ev} {off sz1 : Nat} {fn : Func} {f : FuncId} {w0 : SF} {pl : List (Ev × Nat)} (h : chkTopP C evs1 off sz1 fn w0 = some pl) (hf : P.funcs[f]? = some fn) {H : Heap} {mb rb0 : Nat} {ty : TypeId} {cs : List AV} {src : AV} {bs : B}
    (hm : H[mb]? = some (.cells ty .vr cs)) (hcs : cs.length = w0.length) (hw : ∀ (o : Nat) (v : SV), w0[o]? = some v → ∃ a c, cs[o]? = some a ∧ a.one = true ∧ v.con = some c ∧ a = c)
    (hrm : rb0 ≠ mb) (hrl : rb0 < H.length) (R : Room (fun i => i ∉ [rb0, mb]) H rb0) (hb : BytesAt (fun i => i ∉ [rb0, mb]) H src bs) (hnt : 3 ≤ fn.ntmps) (hns : noNS f = true) (hp : ∀ vs r, runE C.flex evs1 bs = some (vs, r) → ∀ k r', rdI 1 r = some (k, r') → k ≠ -1) :
    (dec C.flex (nodes pl) bs = none → ∃ H', CA P NS f [.p mb 0, src, .b false] H (.e, H')) ∧
    (∀ v r, dec C.flex (nodes pl) bs = some (v, r) → ∃ H' cs' cs1 T cb rb, CA P NS f [.p mb 0, src, .b false] H (.n, H') ∧ H.length ≤ H'.length ∧ (∀ i b, i ≠ mb → H[i]? = some b → H'[i]? = some b) ∧
      H'[mb]? = some (.cells ty .vr cs') ∧ cs'.length = cs.length ∧ H'[cb]? = some (.cells T .vr cs1) ∧ cs1.length = sz1 ∧ cs'[off]? = some (.p cb 0) ∧ H.length ≤ cb ∧ H.length ≤ rb ∧ (∀ v c, w0[0]? = some v → v.con = some c → cs'[0]? = some c) ∧ ∃ x, Rep (fun i => i ∉ [rb, mb, cb]) H' (nodes pl) v ((cs' ++ cs1) ++ [x])) := by
  have hI := inlS_ok hC 6
  obtain ⟨q1, q2⟩ := BytesAt.cl hb
  unfold chkTopP at h
  split at h
  rotate_left
  · cases h
  rename_i code hcode
  simp only at h
  split at h
  rotate_left
  · cases h
  rename_i idr ops rest s1 hdrop hrun1
  split at h
  rotate_left
  · cases h
  rename_i a b r hmk
  split at h
  rotate_left
  · cases h
  rename_i hc1
  obtain ⟨c1, c2, c3, c4, c5, c6, c7, c8, c9, c10, c11⟩ := hc1
  split at h
  rotate_left
  · cases h
  rename_i sB sE hchk
  split at h
  rotate_left
  · cases h
  rename_i sg sb sb2 w w1 hg hbd hbd2 hwin
  split at h
  rotate_left
  · cases h
  rename_i hc2
  obtain ⟨d1, d2, d5, d3, d4, d6, d7, d8⟩ := hc2
  have ok0 : OK C (some []) (topS fn.ntmps w0) { η := ⟨rb0, [⟨mb, 0, 0⟩], [0], [src], 0⟩, fr := [.p mb 0, src, .b false] ++ List.replicate (fn.ntmps - 3) (.t []), H := H, nn := true, st := some [], vs := [] } := by
    refine ⟨⟨by simp [topS], fun t v x hv hx => ?_⟩, ⟨rfl, fun l e w' he hw' => ?_⟩, by simp, by simp [hrm], R, fun hr => by simp [topS] at hr, hrl, rfl, fun n x hx => ?_, fun i e x he => by simp [topS] at he, rfl, fun l e w' z he hw' hz => ?_, fun l e hl he => ?_, ⟨[], rfl, rfl⟩, fun _ i e v x he => by simp [topS] at he⟩
    · simp only [topS] at hv
      match t, hv, hx with
      | 0, hv, hx => simp at hv hx; subst hv; subst hx; exact ⟨⟨mb, 0, 0⟩, rfl, rfl⟩
      | 1, hv, hx => simp at hv hx; subst hv; subst hx; rfl
      | 2, hv, hx => simp at hv hx; subst hv; subst hx; rfl
      | t + 3, hv, hx =>
        simp [List.getElem?_replicate] at hv
        rw [← hv.2]; trivial
    · cases l with
      | zero =>
        simp [topS] at he hw'
        subst he; subst hw'
        refine ⟨by simp, ty, .vr, cs, hm, rfl, by simp [hcs], fun o v hv => ?_⟩
        obtain ⟨x, c, x1, x2, x3, rfl⟩ := hw o v hv
        refine ⟨x, by simpa using x1, x2, ?_⟩
        cases v <;> simp [SV.con] at x3 <;> subst x3 <;> rfl
      | succ l => simp at he
    · cases n with
      | zero => simp at hx; subst hx; rw [q1]; simp [q2]
      | succ n => simp at hx
    · cases l with
      | zero => simp [topS] at hz
      | succ l => simp [topS] at hz
    · have hl' : 1 ≤ l := hl
      cases l with
      | zero => omega
      | succ l => simp at he
  obtain ⟨σ1, r1, ok1, st1, qu1⟩ := runL_sound hC hI _ hrun1 ok0 (fun m hm' => by cases hm'; rfl)
  have qu1 := qu1 (by simp)
  have hs1 : σ1.st = some [] := qu1.1
  have hrb1 : σ1.η.rb = rb0 := st1.rb
  have hlv1 : σ1.η.lv = [⟨mb, 0, 0⟩] := st1.lv.eq (by rw [← ok1.win.1, c3]; rfl)
  have hln1 : σ1.η.ln = [0] := st1.ln
  have hfr1 : σ1.fr.length = s1.fr.length := ok1.fr.1.symm
  obtain ⟨x1, hx1, hx2⟩ := FR.at_ ok1.fr c1
  have hav0 : σ1.η.av[0]? = some src := st1.av.at_ 0 src rfl
  have hx2 : σ1.η.av[0]? = some x1 := hx2
  rw [hav0] at hx2; cases hx2
  have hb1 : BytesAt (AO σ1.η) σ1.H src bs := BytesAt.kt hb st1.kt
  have rmk := mk_run (id := idr) hmk hb1 hx1 (by omega) (by omega) (by omega)
  obtain ⟨okg, stg⟩ := ok1.grow [.cells tR .vr [src, .b false]]
  have hmbl : mb < σ1.H.length := by
    obtain ⟨_, _, _, _, hq, _⟩ := ok1.win.2 0 ⟨mb, 0, 0⟩ (s1.win[0]'(by omega)) (by rw [hlv1]; rfl) (by simp)
    exact (List.getElem?_eq_some_iff.1 hq).1
  have hAOR : ∀ i, AO { σ1.η with rb := σ1.H.length } i ↔ i ≠ σ1.H.length ∧ i ≠ mb := fun i => by
    unfold AO
    simp only [hlv1, List.map_cons, List.map_nil, List.mem_cons, List.not_mem_nil, or_false, not_or]
  have hAO1 : ∀ i, AO σ1.η i ↔ i ≠ rb0 ∧ i ≠ mb := fun i => by
    unfold AO
    simp only [hlv1, hrb1, List.map_cons, List.map_nil, List.mem_cons, List.not_mem_nil, or_false, not_or]
  have hktR : KT (AO σ1.η) σ1.H (AO { σ1.η with rb := σ1.H.length }) (σ1.H ++ [.cells tR .vr [src, .b false]]) := ⟨by simp, fun i bl hi hx => by
    have hlt := (List.getElem?_eq_some_iff.1 hx).1
    exact ⟨(hAOR i).2 ⟨by omega, ((hAO1 i).1 hi).2⟩, by rw [List.getElem?_append_left hlt]; exact hx⟩⟩
  have hden : ∀ v, v ≠ SV.rd → ∀ x, den σ1.η v x → den { σ1.η with rb := σ1.H.length } v x := fun v hv x d => den_rb (η := σ1.η) (η' := { σ1.η with rb := σ1.H.length }) rfl rfl rfl rfl hv d
  have okR : OK C (some bs) { s1 with fr := ((s1.fr.set a .u).set b .u).set r .rd, rdy := true } { η := { σ1.η with rb := σ1.H.length }, fr := ((σ1.fr.set a src).set b (.g [src, .b false])).set r (.p σ1.H.length 0), H := σ1.H ++ [.cells tR .vr [src, .b false]], nn := false, st := some bs, vs := [] } := by
    refine ⟨?_, ⟨okg.win.1, fun l e w' he hw' => ?_⟩, okg.ln, ?_, ?_, fun _ => ⟨src, by simp, BytesAt.kt hb1 hktR, fun x => by cases x⟩, by simp, okg.avl, okg.one, okg.wid, okg.zl, fun l e w' z he hw' hz => ?_, okg.lvj, ⟨bs, rfl, by rw [c2]; rfl⟩, fun _ i e v x he => by rw [c2] at he; simp at he⟩
    · refine FR.put (FR.put (FR.put (ok1.fr.mono fun v hv x => hden v (fun e => ?_) x) (v := .u) trivial a) (v := .u) trivial b) (v := .rd) rfl r
      subst e
      have : s1.fr.contains .rd = true := by simp [hv]
      rw [c9] at this; cases this
    · obtain ⟨p1, ty', kn', cs', p2, p3, p4, p5⟩ := okg.win.2 l e w' he hw'
      refine ⟨p1, ty', kn', cs', p2, p3, p4, fun o v hv => ?_⟩
      obtain ⟨y, y1, y2, y3⟩ := p5 o v hv
      rw [List.all_eq_true] at c10
      have := c10 w' (List.mem_of_getElem? hw')
      rw [List.all_eq_true] at this
      exact ⟨y, y1, y2, hden v (still_rd (this v (List.mem_of_getElem? hv))) y y3⟩
    · show (σ1.H.length :: σ1.η.lv.map Lv.b).Nodup
      rw [hlv1]
      simp; omega
    · have R1 := ok1.room
      refine Room.kt R1 hktR (AO_rb _) (fun i hi => (hAOR i).2 ⟨by simp at hi; omega, by simp at hi; omega⟩)
    · cases l with
      | zero => have hz' : s1.zs[0]? = some (some z) := hz; rw [c7] at hz'; simp at hz'
      | succ l => have hz' : s1.zs[l + 1]? = some (some z) := hz; rw [c7] at hz'; simp at hz'
  have hlnR : ({ η := { σ1.η with rb := σ1.H.length }, fr := ((σ1.fr.set a src).set b (.g [src, .b false])).set r (.p σ1.H.length 0), H := σ1.H ++ [.cells tR .vr [src, .b false]], nn := false, st := some bs, vs := [] } : Sta).η.ln.length = ({ η := { σ1.η with rb := σ1.H.length }, fr := ((σ1.fr.set a src).set b (.g [src, .b false])).set r (.p σ1.H.length 0), H := σ1.H ++ [.cells tR .vr [src, .b false]], nn := false, st := some bs, vs := [] } : Sta).η.lv.length := by
    show σ1.η.ln.length = σ1.η.lv.length
    rw [hln1, hlv1]; rfl
  have hout := goP_sound hC hN hp _ _ _ _ hchk _ okR hlnR
  have hkeep1 : ∀ i bl, i ≠ mb → H[i]? = some bl → σ1.H[i]? = some bl := fun i bl hi hx => by
    by_cases h0 : i = rb0
    · have := st1.rbk rfl
      rw [h0] at hx ⊢
      exact this.trans hx
    · exact (st1.kt.2 i bl (by
        unfold AO; simp only [List.map_cons, List.map_nil, List.mem_cons, List.not_mem_nil, or_false, not_or]
        exact ⟨h0, hi⟩) hx).2
  have hl1 : H.length ≤ σ1.H.length := st1.kt.1
  have hres : fn.results.toList = [.tmp C.res] := by
    unfold oneRes at c11
    split at c11
    · rename_i t ht; cases c11; exact ht
    · cases c11
  have hcodes : flat code = (flat code).take 2 ++ (.region idr ops false :: (rest.take (rest.length - 2) ++ rest.drop (rest.length - 2))) := by
    rw [List.take_append_drop, ← hdrop, List.take_append_drop]
  have hdn : dec C.flex (nodes pl) bs = (runE C.flex sE.evs bs).map fun (vs, r) => (packV vs, r) := by rw [dec_nodes, places_evs _ h]
  have hca : ∀ {fr' : List AV} {H' : Heap} {v : AV}, RUs (rest.take (rest.length - 2) ++ rest.drop (rest.length - 2)) (((σ1.fr.set a src).set b (.g [src, .b false])).set r (.p σ1.H.length 0)) (σ1.H ++ [.cells tR .vr [src, .b false]]) (.ret, fr', H') → fr'[(C.res : Nat)]? = some v →
      CA P NS f [.p mb 0, src, .b false] H (v, H') := by
    intro fr' H' v hr hv
    have hcode2 : RU P NS code ([.p mb 0, src, .b false] ++ List.replicate (fn.ntmps - 3) (.t [])) H (.ret, fr', H') := by
      refine RUs.code (c := code) ?_
      rw [hcodes]
      exact RUs.app r1 (RUs.cons rmk hr)
    have hr2 : resultsA P H' fr' fn.results.toList = some [v] := by rw [hres]; simp [resultsA, hv]
    exact CA.go (fn := fn) (vs := [v]) hf hcode (.inr rfl) ⟨fr', hcode2, hr2⟩ (NS_none hns _ _)
  rcases hout with ⟨fr', H', p1, p2, p3⟩ | ⟨σ2, p1, p2, p3, p4, p5⟩ | ⟨σ2, cb, p1, p2, p3⟩
  · refine ⟨fun _ => ⟨H', hca (RUs.appx _ p1 (by simp)) p2⟩, fun v r hv => ?_⟩
    rw [hdn, p3] at hv; cases hv
  · obtain ⟨σ3, t1, t2, t3, t4⟩ := runL_sound hC hI _ hbd2 p2 (fun m hm => by cases hm; rw [p4]; rfl)
    obtain ⟨x, x1, x2⟩ := FR.at_ t2.fr d5
    have x2 : x = .e := x2
    subst x2
    refine ⟨fun _ => ⟨_, hca (RUs.app p1 t1) x1⟩, fun v r hv => ?_⟩
    rw [hdn, p5] at hv; cases hv
  · cases hst : σ2.st with
    | none =>
      have hrun := p2.run
      rw [hst] at hrun
      simp only [Option.bind_some] at hrun
      obtain ⟨σ3, t1, t2, t3, t4⟩ := runL_sound hC hI _ hbd p2 (fun m hm => by cases hm; rw [hst]; rfl)
      obtain ⟨x, x1, x2⟩ := FR.at_ t2.fr d2
      have x2 : x = .e := x2
      subst x2
      refine ⟨fun _ => ⟨_, hca (RUs.app p1 t1) x1⟩, fun v r hv => ?_⟩
      rw [hdn, hrun] at hv; cases hv
    | some r2 =>
      have hrun := p2.run
      rw [hst] at hrun
      obtain ⟨bs0, hb0, hrun⟩ := hrun
      cases hb0
      obtain ⟨σ3, t1, t2, t3, t4⟩ := runL_sound hC hI _ hg p2 (fun m hm => by cases hm; rw [hst]; rfl)
      have t4 := t4 (by simp)
      obtain ⟨x, x1, x2⟩ := FR.at_ t2.fr d1
      have x2 : x = .n := x2
      subst x2
      refine ⟨fun hn => absurd hn (by rw [hdn, hrun]; simp), fun v r' hv => ?_⟩
      rw [hdn, hrun] at hv
      simp only [Option.map_some, Option.some.injEq, Prod.mk.injEq] at hv
      obtain ⟨rfl, rfl⟩ := hv
      have gr := p3.step t3
      have hlvR : ({ σ1.η with rb := σ1.H.length } : Env).lv = [⟨mb, 0, 0⟩] := hlv1
      have hlv3 : σ3.η.lv = [⟨mb, 0, 0⟩, ⟨cb, 0, 0⟩] := by
        have g1 := gr.lv
        have g2 : Pre [(⟨mb, 0, 0⟩ : Lv), ⟨cb, 0, 0⟩] σ3.η.lv := by
          have : ({ σ1.η with rb := σ1.H.length } : Env).lv ++ [(⟨cb, 0, 0⟩ : Lv)] = [⟨mb, 0, 0⟩, ⟨cb, 0, 0⟩] := by rw [hlvR]; rfl
          rw [← this]; exact g1
        exact g2.eq (by rw [← t2.win.1, d3, hwin]; rfl)
      have hrb3 : σ3.η.rb = σ1.H.length := gr.rb
      have hkeep2 : ∀ i bl, i ≠ mb → i < σ1.H.length → σ1.H[i]? = some bl → σ3.H[i]? = some bl := fun i bl hi hlt hx =>
        (gr.kt.2 i bl ((hAOR i).2 ⟨by omega, hi⟩) (by show (σ1.H ++ [Blk.cells tR .vr [src, .b false]])[i]? = _; rw [List.getElem?_append_left hlt]; exact hx)).2
      obtain ⟨e0, ty0, kn0, cs0, f1, f2, f3, f4⟩ := t2.win.2 0 ⟨mb, 0, 0⟩ w (by rw [hlv3]; rfl) (by rw [d3, hwin]; rfl)
      obtain ⟨e5, ty5, kn5, cs5, g1, g2, g3, g4⟩ := t2.win.2 1 ⟨cb, 0, 0⟩ w1 (by rw [hlv3]; rfl) (by rw [d3, hwin]; rfl)
      obtain ⟨cs1, h1', h2', _⟩ := st1.side 0 ⟨mb, 0, 0⟩ w0 ty .vr cs rfl rfl hm
      obtain ⟨cs3, k1, k2, _⟩ := gr.side 0 ⟨mb, 0, 0⟩ (s1.win[0]'(by omega)) ty .vr cs1 (by show σ1.η.lv[0]? = _; rw [hlv1]; rfl) (by simp) (by show (σ1.H ++ [Blk.cells tR .vr [src, .b false]])[mb]? = _; rw [List.getElem?_append_left hmbl]; exact h1')
      have k1 : σ3.H[mb]? = some (.cells ty .vr cs3) := k1
      have f1 : σ3.H[mb]? = some (.cells ty0 kn0 cs0) := f1
      rw [k1] at f1
      cases f1
      have hwl : w.length = cs0.length := by
        obtain ⟨w2, y1, y2⟩ := st1.wl 0 w0 rfl
        obtain ⟨w3, y3, y4⟩ := gr.wl 0 w2 y1
        rw [d3, hwin] at y3
        simp at y3
        subst y3
        rw [y4, y2, ← hcs, k2, h2']
      obtain ⟨T, cs6, w6, n1, n2, n3⟩ := gr.new
      have n2 : sg.win[σ1.η.lv.length]? = some w6 := n2
      rw [d3, hwin, hlv1] at n2
      simp at n2
      subst n2
      have g1 : σ3.H[cb]? = some (.cells ty5 kn5 cs5) := g1
      rw [n1] at g1
      cases g1
      have hbase : sg.base = 1 := by
        have a1 : sg.base = s1.base := gr.base
        have a2 : s1.base = 1 := st1.base
        rw [a1, a2]
      have hst3 : σ3.st = some r2 := by rw [t4.1, hst]
      have hrun3 := t2.run
      rw [hst3] at hrun3
      obtain ⟨bs1, hb1', hrun3⟩ := hrun3
      cases hb1'
      rw [t4.2, hrun] at hrun3
      have hvs : σ3.vs = σ2.vs := by
        simp only [Option.some.injEq, Prod.mk.injEq] at hrun3
        exact hrun3.1.symm
      have hcl : H.length ≤ cb := by
        have a1 : (σ1.H ++ [Blk.cells tR .vr [src, .b false]]).length ≤ cb := gr.cbl
        simp at a1; omega
      obtain ⟨a9, ha9⟩ : ∃ a, σ3.η.av[1 + evs1.length]? = some a := by
        have h1 := t2.avl
        rw [hbase, t4.2] at h1
        have h2 := (List.getElem?_eq_some_iff.1 d6).1
        exact ⟨σ3.η.av[1 + evs1.length]'(by omega), by simp⟩
      have hw9 := t2.wid evs1.length (.leaf .i8 false) a9 (by rw [t4.2]; exact d6) (by rw [hbase]; exact ha9)
      have hw9 : a9.cells.length = 1 := hw9
      obtain ⟨x9, hx9⟩ : ∃ x, a9.cells = [x] := by
        match hq : a9.cells, hw9 with
        | [x], _ => exact ⟨x, rfl⟩
      refine ⟨_, cs0, cs5, ty5, cb, σ1.H.length, hca (RUs.app p1 t1) x1, ?_, fun i bl hi hx => hkeep2 i bl hi (by have := (List.getElem?_eq_some_iff.1 hx).1; omega) (hkeep1 i bl hi hx), k1, by rw [k2, h2'], n1, by rw [← d8]; exact n3, ?_, hcl, hl1, fun v c hv hc => ?_, x9, ?_⟩
      · have : (σ1.H ++ [Blk.cells tR .vr [src, .b false]]).length ≤ σ3.H.length := gr.kt.1
        simp at this; omega
      · obtain ⟨y, y1, _, y3⟩ := f4 off _ d4
        obtain ⟨e7, y4, rfl⟩ := y3
        rw [hlv3] at y4
        simp at y4
        subst y4
        simpa using y1
      · obtain ⟨y, y1, _, y3⟩ := f4 0 v (d7.trans hv)
        rw [con_den hc y3] at y1
        simpa using y1
      · have hA3 : AO σ3.η = fun i => i ∉ [σ1.H.length, mb, cb] := by
          funext i
          unfold AO
          rw [hlv3, hrb3]; rfl
        rw [← hA3]
        refine places_rep (η := σ3.η) (w := (w ++ w1) ++ [.cel (1 + evs1.length) 0]) (by simp [hwl, n3]) (fun o v hv => ?_) h (runE_length hrun) (fun i hi => ?_) (fun i ev v x y1 y2 y3 => ?_) (fun i ev x y1 y3 => ?_)
        · have hlen : (w ++ w1).length = (cs0 ++ cs5).length := by simp [hwl, n3]
          by_cases ho2 : o < (w ++ w1).length
          · rw [List.getElem?_append_left ho2] at hv
            rw [List.getElem?_append_left (by omega)]
            by_cases ho : o < w.length
            · rw [List.getElem?_append_left ho] at hv
              obtain ⟨y, y1, _, y3⟩ := f4 o v hv
              exact ⟨y, by rw [List.getElem?_append_left (by omega)]; simpa using y1, y3⟩
            · rw [List.getElem?_append_right (by omega)] at hv
              obtain ⟨y, y1, _, y3⟩ := g4 _ v hv
              exact ⟨y, by rw [List.getElem?_append_right (by omega), ← hwl]; simpa using y1, y3⟩
          · rw [List.getElem?_append_right (by omega)] at hv ⊢
            have h0 : o - (w ++ w1).length = 0 := by
              have := (List.getElem?_eq_some_iff.1 hv).1
              simp at this; simp; omega
            rw [h0] at hv
            rw [← hlen, h0]
            simp at hv
            subst hv
            exact ⟨x9, rfl, a9, ha9, by rw [hx9]; rfl⟩
        · have := t2.avl
          rw [hbase, t4.2] at this
          exact ⟨σ3.η.av[1 + i]'(by omega), by simp⟩
        · exact t2.rep (by rw [hst3]; rfl) i ev v x (by rw [t4.2]; exact y1) (by rw [hvs]; exact y2) (by rw [hbase]; exact y3)
        · exact t2.wid i ev x (by rw [t4.2]; exact y1) (by rw [hbase]; exact y3)
theorem chkTopA_sound {C : Cfg} (hC : Prims C) (hN : ∀ f, C.prim.lookup f = some (.leaf .i8 false none) → RdN f .i8 (rdI 1)) {evs1 : List Ev} {fn : Func} {f : FuncId} {w0 : SF} {pl : List (Ev × Nat)} {wF : SF} (h : chkTopA C evs1 fn w0 = some (pl, wF)) (hf : P.funcs[f]? = some fn) {H : Heap} {mb rb0 : Nat} {ty : TypeId} {cs : List AV} {src : AV} {bs : B}
    (hm : H[mb]? = some (.cells ty .vr cs)) (hcs : cs.length = w0.length) (hw : ∀ (o : Nat) (v : SV), w0[o]? = some v → ∃ a c, cs[o]? = some a ∧ a.one = true ∧ v.con = some c ∧ a = c)
    (hrm : rb0 ≠ mb) (hrl : rb0 < H.length) (R : Room (fun i => i ∉ [rb0, mb]) H rb0) (hb : BytesAt (fun i => i ∉ [rb0, mb]) H src bs) (hnt : 3 ≤ fn.ntmps) (hns : noNS f = true)
    (hp : ∀ vs r, runE C.flex evs1 bs = some (vs, r) → ∀ k r', rdI 1 r = some (k, r') → k = -1) :
    (dec C.flex (nodes pl) bs = none → ∃ H', CA P NS f [.p mb 0, src, .b false] H (.e, H')) ∧
    (∀ v r, dec C.flex (nodes pl) bs = some (v, r) → ∃ H' cs' rb, CA P NS f [.p mb 0, src, .b false] H (.n, H') ∧ H.length ≤ H'.length ∧ (∀ i b, i ≠ mb → H[i]? = some b → H'[i]? = some b) ∧
      H'[mb]? = some (.cells ty .vr cs') ∧ cs'.length = cs.length ∧ H.length ≤ rb ∧ (∃ x, Rep (fun i => i ∉ [rb, mb]) H' (nodes pl) v (cs' ++ [x])) ∧ ∀ (o : Nat) (v : SV) (c : AV), wF[o]? = some v → v.con = some c → cs'[o]? = some c) := by
  have hI := inlS_ok hC 6
  obtain ⟨q1, q2⟩ := BytesAt.cl hb
  unfold chkTopA at h
  split at h
  rotate_left
  · cases h
  rename_i code hcode
  simp only at h
  split at h
  rotate_left
  · cases h
  rename_i idr ops rest s1 hdrop hrun1
  split at h
  rotate_left
  · cases h
  rename_i a b r hmk
  split at h
  rotate_left
  · cases h
  rename_i hc1
  obtain ⟨c1, c2, c3, c4, c5, c6, c7, c8, c9, c10, c11⟩ := hc1
  split at h
  rotate_left
  · cases h
  rename_i s2 hchk
  split at h
  rotate_left
  · cases h
  rename_i sg sb w hg hbd hwin
  split at h
  rotate_left
  · cases h
  rename_i hc2
  obtain ⟨d1, d2, d3, d4, d6⟩ := hc2
  simp only [Option.map_eq_some_iff] at h
  obtain ⟨pl', h, hpw⟩ := h
  simp only [Prod.mk.injEq] at hpw
  obtain ⟨hpe, rfl⟩ := hpw
  rw [hpe] at h
  clear hpe pl'
  have ok0 : OK C (some []) (topS fn.ntmps w0) { η := ⟨rb0, [⟨mb, 0, 0⟩], [0], [src], 0⟩, fr := [.p mb 0, src, .b false] ++ List.replicate (fn.ntmps - 3) (.t []), H := H, nn := true, st := some [], vs := [] } := by
    refine ⟨⟨by simp [topS], fun t v x hv hx => ?_⟩, ⟨rfl, fun l e w' he hw' => ?_⟩, by simp, by simp [hrm], R, fun hr => by simp [topS] at hr, hrl, rfl, fun n x hx => ?_, fun i e x he => by simp [topS] at he, rfl, fun l e w' z he hw' hz => ?_, fun l e hl he => ?_, ⟨[], rfl, rfl⟩, fun _ i e v x he => by simp [topS] at he⟩
    · simp only [topS] at hv
      match t, hv, hx with
      | 0, hv, hx => simp at hv hx; subst hv; subst hx; exact ⟨⟨mb, 0, 0⟩, rfl, rfl⟩
      | 1, hv, hx => simp at hv hx; subst hv; subst hx; rfl
      | 2, hv, hx => simp at hv hx; subst hv; subst hx; rfl
      | t + 3, hv, hx =>
        simp [List.getElem?_replicate] at hv
        rw [← hv.2]; trivial
    · cases l with
      | zero =>
        simp [topS] at he hw'
        subst he; subst hw'
        refine ⟨by simp, ty, .vr, cs, hm, rfl, by simp [hcs], fun o v hv => ?_⟩
        obtain ⟨x, c, x1, x2, x3, rfl⟩ := hw o v hv
        refine ⟨x, by simpa using x1, x2, ?_⟩
        cases v <;> simp [SV.con] at x3 <;> subst x3 <;> rfl
      | succ l => simp at he
    · cases n with
      | zero => simp at hx; subst hx; rw [q1]; simp [q2]
      | succ n => simp at hx
    · cases l with
      | zero => simp [topS] at hz
      | succ l => simp [topS] at hz
    · have hl' : 1 ≤ l := hl
      cases l with
      | zero => omega
      | succ l => simp at he
  obtain ⟨σ1, r1, ok1, st1, qu1⟩ := runL_sound hC hI _ hrun1 ok0 (fun m hm' => by cases hm'; rfl)
  have qu1 := qu1 (by simp)
  have hs1 : σ1.st = some [] := qu1.1
  have hrb1 : σ1.η.rb = rb0 := st1.rb
  have hlv1 : σ1.η.lv = [⟨mb, 0, 0⟩] := st1.lv.eq (by rw [← ok1.win.1, c3]; rfl)
  have hln1 : σ1.η.ln = [0] := st1.ln
  have hfr1 : σ1.fr.length = s1.fr.length := ok1.fr.1.symm
  obtain ⟨x1, hx1, hx2⟩ := FR.at_ ok1.fr c1
  have hav0 : σ1.η.av[0]? = some src := st1.av.at_ 0 src rfl
  have hx2 : σ1.η.av[0]? = some x1 := hx2
  rw [hav0] at hx2; cases hx2
  have hb1 : BytesAt (AO σ1.η) σ1.H src bs := BytesAt.kt hb st1.kt
  have rmk := mk_run (id := idr) hmk hb1 hx1 (by omega) (by omega) (by omega)
  obtain ⟨okg, stg⟩ := ok1.grow [.cells tR .vr [src, .b false]]
  have hmbl : mb < σ1.H.length := by
    obtain ⟨_, _, _, _, hq, _⟩ := ok1.win.2 0 ⟨mb, 0, 0⟩ (s1.win[0]'(by omega)) (by rw [hlv1]; rfl) (by simp)
    exact (List.getElem?_eq_some_iff.1 hq).1
  have hAOR : ∀ i, AO { σ1.η with rb := σ1.H.length } i ↔ i ≠ σ1.H.length ∧ i ≠ mb := fun i => by
    unfold AO
    simp only [hlv1, List.map_cons, List.map_nil, List.mem_cons, List.not_mem_nil, or_false, not_or]
  have hAO1 : ∀ i, AO σ1.η i ↔ i ≠ rb0 ∧ i ≠ mb := fun i => by
    unfold AO
    simp only [hlv1, hrb1, List.map_cons, List.map_nil, List.mem_cons, List.not_mem_nil, or_false, not_or]
  have hktR : KT (AO σ1.η) σ1.H (AO { σ1.η with rb := σ1.H.length }) (σ1.H ++ [.cells tR .vr [src, .b false]]) := ⟨by simp, fun i bl hi hx => by
    have hlt := (List.getElem?_eq_some_iff.1 hx).1
    exact ⟨(hAOR i).2 ⟨by omega, ((hAO1 i).1 hi).2⟩, by rw [List.getElem?_append_left hlt]; exact hx⟩⟩
  have hden : ∀ v, v ≠ SV.rd → ∀ x, den σ1.η v x → den { σ1.η with rb := σ1.H.length } v x := fun v hv x d => den_rb (η := σ1.η) (η' := { σ1.η with rb := σ1.H.length }) rfl rfl rfl rfl hv d
  have okR : OK C (some bs) { s1 with fr := ((s1.fr.set a .u).set b .u).set r .rd, rdy := true } { η := { σ1.η with rb := σ1.H.length }, fr := ((σ1.fr.set a src).set b (.g [src, .b false])).set r (.p σ1.H.length 0), H := σ1.H ++ [.cells tR .vr [src, .b false]], nn := false, st := some bs, vs := [] } := by
    refine ⟨?_, ⟨okg.win.1, fun l e w' he hw' => ?_⟩, okg.ln, ?_, ?_, fun _ => ⟨src, by simp, BytesAt.kt hb1 hktR, fun x => by cases x⟩, by simp, okg.avl, okg.one, okg.wid, okg.zl, fun l e w' z he hw' hz => ?_, okg.lvj, ⟨bs, rfl, by rw [c2]; rfl⟩, fun _ i e v x he => by rw [c2] at he; simp at he⟩
    · refine FR.put (FR.put (FR.put (ok1.fr.mono fun v hv x => hden v (fun e => ?_) x) (v := .u) trivial a) (v := .u) trivial b) (v := .rd) rfl r
      subst e
      have : s1.fr.contains .rd = true := by simp [hv]
      rw [c9] at this; cases this
    · obtain ⟨p1, ty', kn', cs', p2, p3, p4, p5⟩ := okg.win.2 l e w' he hw'
      refine ⟨p1, ty', kn', cs', p2, p3, p4, fun o v hv => ?_⟩
      obtain ⟨y, y1, y2, y3⟩ := p5 o v hv
      rw [List.all_eq_true] at c10
      have := c10 w' (List.mem_of_getElem? hw')
      rw [List.all_eq_true] at this
      exact ⟨y, y1, y2, hden v (still_rd (this v (List.mem_of_getElem? hv))) y y3⟩
    · show (σ1.H.length :: σ1.η.lv.map Lv.b).Nodup
      rw [hlv1]
      simp; omega
    · have R1 := ok1.room
      refine Room.kt R1 hktR (AO_rb _) (fun i hi => (hAOR i).2 ⟨by simp at hi; omega, by simp at hi; omega⟩)
    · cases l with
      | zero => have hz' : s1.zs[0]? = some (some z) := hz; rw [c7] at hz'; simp at hz'
      | succ l => have hz' : s1.zs[l + 1]? = some (some z) := hz; rw [c7] at hz'; simp at hz'
  have hlnR : ({ η := { σ1.η with rb := σ1.H.length }, fr := ((σ1.fr.set a src).set b (.g [src, .b false])).set r (.p σ1.H.length 0), H := σ1.H ++ [.cells tR .vr [src, .b false]], nn := false, st := some bs, vs := [] } : Sta).η.ln.length = ({ η := { σ1.η with rb := σ1.H.length }, fr := ((σ1.fr.set a src).set b (.g [src, .b false])).set r (.p σ1.H.length 0), H := σ1.H ++ [.cells tR .vr [src, .b false]], nn := false, st := some bs, vs := [] } : Sta).η.lv.length := by
    show σ1.η.ln.length = σ1.η.lv.length
    rw [hln1, hlv1]; rfl
  have hout := goA_sound hC hN hp _ _ _ hchk _ okR hlnR
  have hkeep1 : ∀ i bl, i ≠ mb → H[i]? = some bl → σ1.H[i]? = some bl := fun i bl hi hx => by
    by_cases h0 : i = rb0
    · have := st1.rbk rfl
      rw [h0] at hx ⊢
      exact this.trans hx
    · exact (st1.kt.2 i bl (by
        unfold AO; simp only [List.map_cons, List.map_nil, List.mem_cons, List.not_mem_nil, or_false, not_or]
        exact ⟨h0, hi⟩) hx).2
  have hl1 : H.length ≤ σ1.H.length := st1.kt.1
  have hres : fn.results.toList = [.tmp C.res] := by
    unfold oneRes at c11
    split at c11
    · rename_i t ht; cases c11; exact ht
    · cases c11
  have hcodes : flat code = (flat code).take 2 ++ (.region idr ops false :: (rest.take (rest.length - 2) ++ rest.drop (rest.length - 2))) := by
    rw [List.take_append_drop, ← hdrop, List.take_append_drop]
  have hdn : dec C.flex (nodes pl) bs = (runE C.flex s2.evs bs).map fun (vs, r) => (packV vs, r) := by rw [dec_nodes, places_evs _ h]
  have hca : ∀ {fr' : List AV} {H' : Heap} {v : AV}, RUs (rest.take (rest.length - 2) ++ rest.drop (rest.length - 2)) (((σ1.fr.set a src).set b (.g [src, .b false])).set r (.p σ1.H.length 0)) (σ1.H ++ [.cells tR .vr [src, .b false]]) (.ret, fr', H') → fr'[(C.res : Nat)]? = some v →
      CA P NS f [.p mb 0, src, .b false] H (v, H') := by
    intro fr' H' v hr hv
    have hcode2 : RU P NS code ([.p mb 0, src, .b false] ++ List.replicate (fn.ntmps - 3) (.t [])) H (.ret, fr', H') := by
      refine RUs.code (c := code) ?_
      rw [hcodes]
      exact RUs.app r1 (RUs.cons rmk hr)
    have hr2 : resultsA P H' fr' fn.results.toList = some [v] := by rw [hres]; simp [resultsA, hv]
    exact CA.go (fn := fn) (vs := [v]) hf hcode (.inr rfl) ⟨fr', hcode2, hr2⟩ (NS_none hns _ _)
  rcases hout with ⟨σ2, p1, p2, p3⟩ | ⟨fr', H', p1, p2, p3⟩
  · cases hst : σ2.st with
    | none =>
      have hrun := p2.run
      rw [hst] at hrun
      simp only [Option.bind_some] at hrun
      obtain ⟨σ3, t1, t2, t3, t4⟩ := runL_sound hC hI _ hbd p2 (fun m hm => by cases hm; rw [hst]; rfl)
      obtain ⟨x, x1, x2⟩ := FR.at_ t2.fr d2
      have x2 : x = .e := x2
      subst x2
      refine ⟨fun _ => ⟨_, hca (RUs.app p1 t1) x1⟩, fun v r hv => ?_⟩
      rw [hdn, hrun] at hv; cases hv
    | some r2 =>
      have hrun := p2.run
      rw [hst] at hrun
      obtain ⟨bs0, hb0, hrun⟩ := hrun
      cases hb0
      obtain ⟨σ3, t1, t2, t3, t4⟩ := runL_sound hC hI _ hg p2 (fun m hm => by cases hm; rw [hst]; rfl)
      have t4 := t4 (by simp)
      obtain ⟨x, x1, x2⟩ := FR.at_ t2.fr d1
      have x2 : x = .n := x2
      subst x2
      refine ⟨fun hn => absurd hn (by rw [hdn, hrun]; simp), fun v r' hv => ?_⟩
      rw [hdn, hrun] at hv
      simp only [Option.map_some, Option.some.injEq, Prod.mk.injEq] at hv
      obtain ⟨rfl, rfl⟩ := hv
      have st3 := p3.trans t3
      have hlv3 : σ3.η.lv = [⟨mb, 0, 0⟩] := by
        have := st3.lv.eq (by rw [← t2.win.1, d3, hwin]; show 1 = σ1.η.lv.length; rw [hlv1]; rfl)
        rw [this]; exact hlv1
      have hrb3 : σ3.η.rb = σ1.H.length := st3.rb
      have hkeep2 : ∀ i bl, i ≠ mb → i < σ1.H.length → σ1.H[i]? = some bl → σ3.H[i]? = some bl := fun i bl hi hlt hx =>
        (st3.kt.2 i bl ((hAOR i).2 ⟨by omega, hi⟩) (by show (σ1.H ++ [Blk.cells tR .vr [src, .b false]])[i]? = _; rw [List.getElem?_append_left hlt]; exact hx)).2
      obtain ⟨e0, ty0, kn0, cs0, f1, f2, f3, f4⟩ := t2.win.2 0 ⟨mb, 0, 0⟩ w (by rw [hlv3]; rfl) (by rw [d3, hwin]; rfl)
      obtain ⟨cs1, g1, g2, _⟩ := st1.side 0 ⟨mb, 0, 0⟩ w0 ty .vr cs rfl rfl hm
      obtain ⟨cs3, k1, k2, _⟩ := st3.side 0 ⟨mb, 0, 0⟩ (s1.win[0]'(by omega)) ty .vr cs1 (by show σ1.η.lv[0]? = _; rw [hlv1]; rfl) (by simp) (by show (σ1.H ++ [Blk.cells tR .vr [src, .b false]])[mb]? = _; rw [List.getElem?_append_left hmbl]; exact g1)
      have k1 : σ3.H[mb]? = some (.cells ty .vr cs3) := k1
      have f1 : σ3.H[mb]? = some (.cells ty0 kn0 cs0) := f1
      rw [k1] at f1
      cases f1
      have hwl : w.length = cs0.length := by
        obtain ⟨w1, y1, y2⟩ := st1.wl 0 w0 rfl
        obtain ⟨w2, y3, y4⟩ := st3.wl 0 w1 y1
        rw [d3, hwin] at y3
        simp at y3
        subst y3
        rw [y4, y2, ← hcs, k2, g2]
      have hbase : sg.base = 1 := by
        have a1 : sg.base = s1.base := st3.base
        have a2 : s1.base = 1 := st1.base
        rw [a1, a2]
      have hst3 : σ3.st = some r2 := by rw [t4.1, hst]
      have hrun3 := t2.run
      rw [hst3] at hrun3
      obtain ⟨bs1, hb1', hrun3⟩ := hrun3
      cases hb1'
      rw [t4.2, hrun] at hrun3
      have hvs : σ3.vs = σ2.vs := by
        simp only [Option.some.injEq, Prod.mk.injEq] at hrun3
        exact hrun3.1.symm
      obtain ⟨a9, ha9⟩ : ∃ a, σ3.η.av[1 + evs1.length]? = some a := by
        have h1 := t2.avl
        rw [hbase, t4.2] at h1
        have h2 := (List.getElem?_eq_some_iff.1 d6).1
        exact ⟨σ3.η.av[1 + evs1.length]'(by omega), by simp⟩
      have hw9 := t2.wid evs1.length (.leaf .i8 false) a9 (by rw [t4.2]; exact d6) (by rw [hbase]; exact ha9)
      have hw9 : a9.cells.length = 1 := hw9
      obtain ⟨x9, hx9⟩ : ∃ x, a9.cells = [x] := by
        match hq : a9.cells, hw9 with
        | [x], _ => exact ⟨x, rfl⟩
      refine ⟨_, cs0, σ1.H.length, hca (RUs.app p1 t1) x1, ?_, fun i bl hi hx => hkeep2 i bl hi (by have := (List.getElem?_eq_some_iff.1 hx).1; omega) (hkeep1 i bl hi hx), k1, by rw [k2, g2], hl1, ⟨x9, ?_⟩, fun o v c hv hc => ?_⟩
      · have : (σ1.H ++ [Blk.cells tR .vr [src, .b false]]).length ≤ σ3.H.length := st3.kt.1
        simp at this; omega
      · have hA3 : AO σ3.η = fun i => i ∉ [σ1.H.length, mb] := by
          funext i
          unfold AO
          rw [hlv3, hrb3]; rfl
        rw [← hA3]
        refine places_rep (η := σ3.η) (w := w ++ [.cel (1 + evs1.length) 0]) (by simp [hwl]) (fun o v hv => ?_) h (runE_length hrun) (fun i hi => ?_) (fun i ev v x y1 y2 y3 => ?_) (fun i ev x y1 y3 => ?_)
        · by_cases ho : o < w.length
          · rw [List.getElem?_append_left ho] at hv
            obtain ⟨y, y1, _, y3⟩ := f4 o v hv
            exact ⟨y, by rw [List.getElem?_append_left (by omega)]; simpa using y1, y3⟩
          · rw [List.getElem?_append_right (by omega)] at hv ⊢
            have h0 : o - w.length = 0 := by
              have := (List.getElem?_eq_some_iff.1 hv).1
              simp at this; omega
            rw [h0] at hv
            rw [← hwl, h0]
            simp at hv
            subst hv
            exact ⟨x9, rfl, a9, ha9, by rw [hx9]; rfl⟩
        · have := t2.avl
          rw [hbase, t4.2] at this
          exact ⟨σ3.η.av[1 + i]'(by omega), by simp⟩
        · exact t2.rep (by rw [hst3]; rfl) i ev v x (by rw [t4.2]; exact y1) (by rw [hvs]; exact y2) (by rw [hbase]; exact y3)
        · exact t2.wid i ev x (by rw [t4.2]; exact y1) (by rw [hbase]; exact y3)
      · obtain ⟨y, y1, _, y3⟩ := f4 o v hv
        rw [con_den hc y3] at y1
        simpa using y1
  · refine ⟨fun _ => ⟨H', hca (RUs.appx _ p1 (by simp)) p2⟩, fun v r hv => ?_⟩
    simp only [Option.bind_some] at p3
    rw [hdn, p3] at hv; cases hv
end Go.Proofs.YtdanlkiojkimaaaDoor.Rd

