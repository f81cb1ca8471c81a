/-
  THE CHECKER is sound for a whole reading function.
-/
import Derived.Test.YtiifcfngbbhgoaaGreatDoorQSxChk
import Derived.Test.YtiifcfngbbhgoaaGreatDoorQAxDraw2
set_option linter.constructorNameAsVariable false
set_option linter.unusedVariables false
set_option linter.unusedSimpArgs false
namespace Go.Proofs.YtiifcfngbbhgoaaGreatDoor.Rd
open Go Go.Proofs.YtiifcfngbbhgoaaGreatDoor.Ax Go.Proofs.YtiifcfngbbhgoaaGreatDoor.Wire
set_option maxRecDepth 100000
theorem psIs_spec {L : List (Nat × Operand)} {a : Nat} (h : psIs L a = true) : L = [(0, .tmp a)] := by
  unfold psIs at h
  split at h
  · rename_i a'
    have : a' = a := by simpa using h
    rw [this]
  · cases h
theorem mkOp_spec {L : List Oper} {a b c : Nat} (h : mkOp L = some (a, b, c)) : a ≠ b ∧ b ≠ c ∧ ∃ t1 p1 f1 t2 p2 f2 t3 p3 f3 t4 p4 f4 ps, ps.toList = [(0, .tmp a)] ∧
    L = [⟨some a, .move (.tmp 1), t1, p1, f1, none⟩, ⟨some b, .build tR ps, t2, p2, f2, none⟩, ⟨some c, .alloc tR, t3, p3, f3, none⟩, ⟨none, .store tR (.tmp c) (.tmp b), t4, p4, f4, none⟩] := by
  unfold mkOp at h
  split at h
  · rename_i a' t1 p1 f1 b' t ps t2 p2 f2 c' t' t3 p3 f3 t'' c'' b'' t4 p4 f4
    split at h
    · rename_i hc
      obtain ⟨rfl, rfl, rfl, rfl, rfl, hps, h1, h2⟩ := hc
      simp only [Option.some.injEq, Prod.mk.injEq] at h
      obtain ⟨rfl, rfl, rfl⟩ := h
      exact ⟨h1, h2, t1, p1, f1, t2, p2, f2, t3, p3, f3, t4, p4, f4, ps, psIs_spec hps, rfl⟩
    · cases h
  · cases h
theorem zero_rd : zeroA P tR = some (.g [.s0, .b false]) := by kernel_rfl
theorem size_rd : sizeA P tR = some 2 := by kernel_rfl
theorem build_rd {A : Nat → Prop} {H : Heap} {src : AV} {bs : B} (h : BytesAt A H src bs) : buildA P tR [(0, src)] = some (.g [src, .b false]) := by
  cases h with
  | z => kernel_rfl
  | e => kernel_rfl
  | s hA h h0 h1 =>
    rename_i i o ty kn cs
    generalize bs.length = n
    kernel_rfl
theorem BytesAt.cl {A : Nat → Prop} {H : Heap} {src : AV} {bs : B} (h : BytesAt A H src bs) : src.cells = [src] ∧ src.one = true := BytesAt.one' h
theorem st_new {H : Heap} {src : AV} (h1 : src.one = true) : storeA P (H ++ [.cells tR .vr [.s0, .b false]]) tR (.p H.length 0) (.g [src, .b false]) = some (H ++ [.cells tR .vr [src, .b false]]) := by
  have h : (H ++ [Blk.cells tR .vr [.s0, .b false]])[H.length]? = some (.cells tR .vr [.s0, .b false]) := by simp
  have hb : (AV.b false).one = true := rfl
  simp [storeA, h, size_rd, Kn.own, AV.cells, h1, hb, over]
theorem mk_run {ops : Array Oper} {a b c : Nat} {id : Nat} (h : mkOp ops.toList = some (a, b, c)) {A : Nat → Prop} {H : Heap} {fr : List AV} {src : AV} {bs : B} (hb : BytesAt A H src bs) (h1 : fr[1]? = some src) (ha : a < fr.length) (hbl : b < fr.length) (hc : c < fr.length) :
    RU P NS (.region id ops false) fr H (.normal, ((fr.set a src).set b (.g [src, .b false])).set c (.p H.length 0), H ++ [.cells tR .vr [src, .b false]]) := by
  obtain ⟨n1, n2, t1, p1, f1, t2, p2, f2, t3, p3, f3, t4, p4, f4, ps, hps, hL⟩ := mkOp_spec h
  refine RU.region ?_
  rw [hL]
  obtain ⟨q1, q2⟩ := BytesAt.cl hb
  refine OS.op rfl rfl (op_move h1) ?_
  refine OS.op rfl rfl (v := .g [src, .b false]) (H1 := H) ?_ ?_
  · show opA P (.build tR ps) (fr.set a src) H = _
    simp only [opA, hps, evs, ev, List.getElem?_set_self ha, Option.bind_some, build_rd hb, Option.map_some]
  refine OS.op rfl rfl (op_alloc zero_rd rfl) ?_
  refine OS.op rfl rfl (op_store (a := .p H.length 0) (v := .g [src, .b false]) (H1 := H ++ [.cells tR .vr [src, .b false]]) ?_ ?_ ?_) ?_
  · show (((fr.set a src).set b (.g [src, .b false])).set c (.p H.length 0))[c]? = _
    rw [List.getElem?_set_self (by simpa using hc)]
  · show (((fr.set a src).set b (.g [src, .b false])).set c (.p H.length 0))[b]? = _
    rw [List.getElem?_set, if_neg (fun x => n2 x.symm), List.getElem?_set_self (by simpa using hbl)]
  · exact st_new q2
  · exact OS.nil
theorem den_rb {η η' : Env} (lv : η'.lv = η.lv) (ln : η'.ln = η.ln) (av : η'.av = η.av) (lq : η'.lq = η.lq) {v : SV} (hv : v ≠ .rd) {a : AV} (h : den η v a) : den η' v a := by
  cases v <;> simp only [den, lv, ln, av, lq] at * <;> first | exact h | exact absurd rfl hv
theorem still_rd {v : SV} (h : v.still = true) : v ≠ .rd := by rintro rfl; simp [SV.still, SV.con] at h
theorem chkTopB_sound {C : Cfg} (hC : Prims C) {go : List Code → SS → Option SS} {fn : Func} {f : FuncId} {w0 : SF} {pl : List (Ev × Nat)} {wF : SF} (h : chkTopB C go fn w0 = some (pl, wF)) (hf : P.funcs[f]? = some fn) {H : Heap} {mb rb0 : Nat} {ty : TypeId} {cs : List AV} {src : AV} {bs : B}
    (hm : H[mb]? = some (.cells ty .vr cs)) (hcs : cs.length = w0.length) (hw : ∀ (o : Nat) (v : SV), w0[o]? = some v → ∃ a c, cs[o]? = some a ∧ a.one = true ∧ v.con = some c ∧ a = c)
    (hrm : rb0 ≠ mb) (hrl : rb0 < H.length) (R : Room (fun i => i ∉ [rb0, mb]) H rb0) (hb : BytesAt (fun i => i ∉ [rb0, mb]) H src bs) (hnt : 3 ≤ fn.ntmps) (hns : noNS f = true)
    (hgo : ∀ cs s s', go cs s = some s' → s.evs = [] → s.base = 1 → s.rdy = true → ∀ σ, OK C (some bs) s σ → σ.η.ln.length = σ.η.lv.length → Outcome C cs (some bs) s s' σ) :
    (dec C.flex (nodes pl) bs = none → ∃ H', CA P NS f [.p mb 0, src, .b false] H (.e, H')) ∧
    (∀ v r, dec C.flex (nodes pl) bs = some (v, r) → ∃ H' cs' rb, CA P NS f [.p mb 0, src, .b false] H (.n, H') ∧ H.length ≤ H'.length ∧ (∀ i b, i ≠ mb → H[i]? = some b → H'[i]? = some b) ∧
      H'[mb]? = some (.cells ty .vr cs') ∧ cs'.length = cs.length ∧ H.length ≤ rb ∧ Rep (fun i => i ∉ [rb, mb]) H' (nodes pl) v cs' ∧ ∀ (o : Nat) (v : SV) (c : AV), wF[o]? = some v → v.con = some c → cs'[o]? = some c) := by
  have hI := inlS_ok hC 6
  obtain ⟨q1, q2⟩ := BytesAt.cl hb
  unfold chkTopB at h
  split at h
  rotate_left
  · cases h
  rename_i code hcode
  simp only at h
  split at h
  rotate_left
  · cases h
  rename_i idr ops rest s1 hdrop hrun1
  split at h
  rotate_left
  · cases h
  rename_i a b r hmk
  split at h
  rotate_left
  · cases h
  rename_i hc1
  obtain ⟨c1, c2, c3, c4, c5, c6, c7, c8, c9, c10, c11⟩ := hc1
  split at h
  rotate_left
  · cases h
  rename_i s2 hchk
  split at h
  rotate_left
  · cases h
  rename_i sg sb w hg hbd hwin
  split at h
  rotate_left
  · cases h
  rename_i hc2
  obtain ⟨d1, d2, d3, d4⟩ := hc2
  simp only [Option.map_eq_some_iff] at h
  obtain ⟨pl', h, hpw⟩ := h
  simp only [Prod.mk.injEq] at hpw
  obtain ⟨hpe, rfl⟩ := hpw
  rw [hpe] at h
  clear hpe pl'
  have ok0 : OK C (some []) (topS fn.ntmps w0) { η := ⟨rb0, [⟨mb, 0, 0⟩], [0], [src], 0⟩, fr := [.p mb 0, src, .b false] ++ List.replicate (fn.ntmps - 3) (.t []), H := H, nn := true, st := some [], vs := [] } := by
    refine ⟨⟨by simp [topS], fun t v x hv hx => ?_⟩, ⟨rfl, fun l e w' he hw' => ?_⟩, by simp, by simp [hrm], R, fun hr => by simp [topS] at hr, hrl, rfl, fun n x hx => ?_, fun i e x he => by simp [topS] at he, rfl, fun l e w' z he hw' hz => ?_, fun l e hl he => ?_, ⟨[], rfl, rfl⟩, fun _ i e v x he => by simp [topS] at he⟩
    · simp only [topS] at hv
      match t, hv, hx with
      | 0, hv, hx => simp at hv hx; subst hv; subst hx; exact ⟨⟨mb, 0, 0⟩, rfl, rfl⟩
      | 1, hv, hx => simp at hv hx; subst hv; subst hx; rfl
      | 2, hv, hx => simp at hv hx; subst hv; subst hx; rfl
      | t + 3, hv, hx =>
        simp [List.getElem?_replicate] at hv
        rw [← hv.2]; trivial
    · cases l with
      | zero =>
        simp [topS] at he hw'
        subst he; subst hw'
        refine ⟨by simp, ty, .vr, cs, hm, rfl, by simp [hcs], fun o v hv => ?_⟩
        obtain ⟨x, c, x1, x2, x3, rfl⟩ := hw o v hv
        refine ⟨x, by simpa using x1, x2, ?_⟩
        cases v <;> simp [SV.con] at x3 <;> subst x3 <;> rfl
      | succ l => simp at he
    · cases n with
      | zero => simp at hx; subst hx; rw [q1]; simp [q2]
      | succ n => simp at hx
    · cases l with
      | zero => simp [topS] at hz
      | succ l => simp [topS] at hz
    · have hl' : 1 ≤ l := hl
      cases l with
      | zero => omega
      | succ l => simp at he
  obtain ⟨σ1, r1, ok1, st1, qu1⟩ := runL_sound hC hI _ hrun1 ok0 (fun m hm' => by cases hm'; rfl)
  have qu1 := qu1 (by simp)
  have hs1 : σ1.st = some [] := qu1.1
  have hrb1 : σ1.η.rb = rb0 := st1.rb
  have hlv1 : σ1.η.lv = [⟨mb, 0, 0⟩] := st1.lv.eq (by rw [← ok1.win.1, c3]; rfl)
  have hln1 : σ1.η.ln = [0] := st1.ln
  have hfr1 : σ1.fr.length = s1.fr.length := ok1.fr.1.symm
  obtain ⟨x1, hx1, hx2⟩ := FR.at_ ok1.fr c1
  have hav0 : σ1.η.av[0]? = some src := st1.av.at_ 0 src rfl
  have hx2 : σ1.η.av[0]? = some x1 := hx2
  rw [hav0] at hx2; cases hx2
  have hb1 : BytesAt (AO σ1.η) σ1.H src bs := BytesAt.kt hb st1.kt
  have rmk := mk_run (id := idr) hmk hb1 hx1 (by omega) (by omega) (by omega)
  obtain ⟨okg, stg⟩ := ok1.grow [.cells tR .vr [src, .b false]]
  have hmbl : mb < σ1.H.length := by
    obtain ⟨_, _, _, _, hq, _⟩ := ok1.win.2 0 ⟨mb, 0, 0⟩ (s1.win[0]'(by omega)) (by rw [hlv1]; rfl) (by simp)
    exact (List.getElem?_eq_some_iff.1 hq).1
  have hAOR : ∀ i, AO { σ1.η with rb := σ1.H.length } i ↔ i ≠ σ1.H.length ∧ i ≠ mb := fun i => by
    unfold AO
    simp only [hlv1, List.map_cons, List.map_nil, List.mem_cons, List.not_mem_nil, or_false, not_or]
  have hAO1 : ∀ i, AO σ1.η i ↔ i ≠ rb0 ∧ i ≠ mb := fun i => by
    unfold AO
    simp only [hlv1, hrb1, List.map_cons, List.map_nil, List.mem_cons, List.not_mem_nil, or_false, not_or]
  have hktR : KT (AO σ1.η) σ1.H (AO { σ1.η with rb := σ1.H.length }) (σ1.H ++ [.cells tR .vr [src, .b false]]) := ⟨by simp, fun i bl hi hx => by
    have hlt := (List.getElem?_eq_some_iff.1 hx).1
    exact ⟨(hAOR i).2 ⟨by omega, ((hAO1 i).1 hi).2⟩, by rw [List.getElem?_append_left hlt]; exact hx⟩⟩
  have hden : ∀ v, v ≠ SV.rd → ∀ x, den σ1.η v x → den { σ1.η with rb := σ1.H.length } v x := fun v hv x d => den_rb (η := σ1.η) (η' := { σ1.η with rb := σ1.H.length }) rfl rfl rfl rfl hv d
  have okR : OK C (some bs) { s1 with fr := ((s1.fr.set a .u).set b .u).set r .rd, rdy := true } { η := { σ1.η with rb := σ1.H.length }, fr := ((σ1.fr.set a src).set b (.g [src, .b false])).set r (.p σ1.H.length 0), H := σ1.H ++ [.cells tR .vr [src, .b false]], nn := false, st := some bs, vs := [] } := by
    refine ⟨?_, ⟨okg.win.1, fun l e w' he hw' => ?_⟩, okg.ln, ?_, ?_, fun _ => ⟨src, by simp, BytesAt.kt hb1 hktR, fun x => by cases x⟩, by simp, okg.avl, okg.one, okg.wid, okg.zl, fun l e w' z he hw' hz => ?_, okg.lvj, ⟨bs, rfl, by rw [c2]; rfl⟩, fun _ i e v x he => by rw [c2] at he; simp at he⟩
    · refine FR.put (FR.put (FR.put (ok1.fr.mono fun v hv x => hden v (fun e => ?_) x) (v := .u) trivial a) (v := .u) trivial b) (v := .rd) rfl r
      subst e
      have : s1.fr.contains .rd = true := by simp [hv]
      rw [c9] at this; cases this
    · obtain ⟨p1, ty', kn', cs', p2, p3, p4, p5⟩ := okg.win.2 l e w' he hw'
      refine ⟨p1, ty', kn', cs', p2, p3, p4, fun o v hv => ?_⟩
      obtain ⟨y, y1, y2, y3⟩ := p5 o v hv
      rw [List.all_eq_true] at c10
      have := c10 w' (List.mem_of_getElem? hw')
      rw [List.all_eq_true] at this
      exact ⟨y, y1, y2, hden v (still_rd (this v (List.mem_of_getElem? hv))) y y3⟩
    · show (σ1.H.length :: σ1.η.lv.map Lv.b).Nodup
      rw [hlv1]
      simp; omega
    · have R1 := ok1.room
      refine Room.kt R1 hktR (AO_rb _) (fun i hi => (hAOR i).2 ⟨by simp at hi; omega, by simp at hi; omega⟩)
    · cases l with
      | zero => have hz' : s1.zs[0]? = some (some z) := hz; rw [c7] at hz'; simp at hz'
      | succ l => have hz' : s1.zs[l + 1]? = some (some z) := hz; rw [c7] at hz'; simp at hz'
  have hlnR : ({ η := { σ1.η with rb := σ1.H.length }, fr := ((σ1.fr.set a src).set b (.g [src, .b false])).set r (.p σ1.H.length 0), H := σ1.H ++ [.cells tR .vr [src, .b false]], nn := false, st := some bs, vs := [] } : Sta).η.ln.length = ({ η := { σ1.η with rb := σ1.H.length }, fr := ((σ1.fr.set a src).set b (.g [src, .b false])).set r (.p σ1.H.length 0), H := σ1.H ++ [.cells tR .vr [src, .b false]], nn := false, st := some bs, vs := [] } : Sta).η.lv.length := by
    show σ1.η.ln.length = σ1.η.lv.length
    rw [hln1, hlv1]; rfl
  have hout := hgo _ _ _ hchk c2 st1.base rfl _ okR hlnR
  have hkeep1 : ∀ i bl, i ≠ mb → H[i]? = some bl → σ1.H[i]? = some bl := fun i bl hi hx => by
    by_cases h0 : i = rb0
    · have := st1.rbk rfl
      rw [h0] at hx ⊢
      exact this.trans hx
    · exact (st1.kt.2 i bl (by
        unfold AO; simp only [List.map_cons, List.map_nil, List.mem_cons, List.not_mem_nil, or_false, not_or]
        exact ⟨h0, hi⟩) hx).2
  have hl1 : H.length ≤ σ1.H.length := st1.kt.1
  have hres : fn.results.toList = [.tmp C.res] := by
    unfold oneRes at c11
    split at c11
    · rename_i t ht; cases c11; exact ht
    · cases c11
  have hcodes : flat code = (flat code).take 2 ++ (.region idr ops false :: (rest.take (rest.length - 2) ++ rest.drop (rest.length - 2))) := by
    rw [List.take_append_drop, ← hdrop, List.take_append_drop]
  have hdn : dec C.flex (nodes pl) bs = (runE C.flex s2.evs bs).map fun (vs, r) => (packV vs, r) := by rw [dec_nodes, places_evs _ h]
  have hca : ∀ {fr' : List AV} {H' : Heap} {v : AV}, RUs (rest.take (rest.length - 2) ++ rest.drop (rest.length - 2)) (((σ1.fr.set a src).set b (.g [src, .b false])).set r (.p σ1.H.length 0)) (σ1.H ++ [.cells tR .vr [src, .b false]]) (.ret, fr', H') → fr'[(C.res : Nat)]? = some v →
      CA P NS f [.p mb 0, src, .b false] H (v, H') := by
    intro fr' H' v hr hv
    have hcode2 : RU P NS code ([.p mb 0, src, .b false] ++ List.replicate (fn.ntmps - 3) (.t [])) H (.ret, fr', H') := by
      refine RUs.code (c := code) ?_
      rw [hcodes]
      exact RUs.app r1 (RUs.cons rmk hr)
    have hr2 : resultsA P H' fr' fn.results.toList = some [v] := by rw [hres]; simp [resultsA, hv]
    exact CA.go (fn := fn) (vs := [v]) hf hcode (.inr rfl) ⟨fr', hcode2, hr2⟩ (NS_none hns _ _)
  rcases hout with ⟨σ2, p1, p2, p3⟩ | ⟨fr', H', p1, p2, p3⟩
  · cases hst : σ2.st with
    | none =>
      have hrun := p2.run
      rw [hst] at hrun
      simp only [Option.bind_some] at hrun
      obtain ⟨σ3, t1, t2, t3, t4⟩ := runL_sound hC hI _ hbd p2 (fun m hm => by cases hm; rw [hst]; rfl)
      obtain ⟨x, x1, x2⟩ := FR.at_ t2.fr d2
      have x2 : x = .e := x2
      subst x2
      refine ⟨fun _ => ⟨_, hca (RUs.app p1 t1) x1⟩, fun v r hv => ?_⟩
      rw [hdn, hrun] at hv; cases hv
    | some r2 =>
      have hrun := p2.run
      rw [hst] at hrun
      obtain ⟨bs0, hb0, hrun⟩ := hrun
      cases hb0
      obtain ⟨σ3, t1, t2, t3, t4⟩ := runL_sound hC hI _ hg p2 (fun m hm => by cases hm; rw [hst]; rfl)
      have t4 := t4 (by simp)
      obtain ⟨x, x1, x2⟩ := FR.at_ t2.fr d1
      have x2 : x = .n := x2
      subst x2
      refine ⟨fun hn => absurd hn (by rw [hdn, hrun]; simp), fun v r' hv => ?_⟩
      rw [hdn, hrun] at hv
      simp only [Option.map_some, Option.some.injEq, Prod.mk.injEq] at hv
      obtain ⟨rfl, rfl⟩ := hv
      have st3 := p3.trans t3
      have hlv3 : σ3.η.lv = [⟨mb, 0, 0⟩] := by
        have := st3.lv.eq (by rw [← t2.win.1, d3, hwin]; show 1 = σ1.η.lv.length; rw [hlv1]; rfl)
        rw [this]; exact hlv1
      have hrb3 : σ3.η.rb = σ1.H.length := st3.rb
      have hkeep2 : ∀ i bl, i ≠ mb → i < σ1.H.length → σ1.H[i]? = some bl → σ3.H[i]? = some bl := fun i bl hi hlt hx =>
        (st3.kt.2 i bl ((hAOR i).2 ⟨by omega, hi⟩) (by show (σ1.H ++ [Blk.cells tR .vr [src, .b false]])[i]? = _; rw [List.getElem?_append_left hlt]; exact hx)).2
      obtain ⟨e0, ty0, kn0, cs0, f1, f2, f3, f4⟩ := t2.win.2 0 ⟨mb, 0, 0⟩ w (by rw [hlv3]; rfl) (by rw [d3, hwin]; rfl)
      obtain ⟨cs1, g1, g2, _⟩ := st1.side 0 ⟨mb, 0, 0⟩ w0 ty .vr cs rfl rfl hm
      obtain ⟨cs3, k1, k2, _⟩ := st3.side 0 ⟨mb, 0, 0⟩ (s1.win[0]'(by omega)) ty .vr cs1 (by show σ1.η.lv[0]? = _; rw [hlv1]; rfl) (by simp) (by show (σ1.H ++ [Blk.cells tR .vr [src, .b false]])[mb]? = _; rw [List.getElem?_append_left hmbl]; exact g1)
      have k1 : σ3.H[mb]? = some (.cells ty .vr cs3) := k1
      have f1 : σ3.H[mb]? = some (.cells ty0 kn0 cs0) := f1
      rw [k1] at f1
      cases f1
      have hwl : w.length = cs0.length := by
        obtain ⟨w1, y1, y2⟩ := st1.wl 0 w0 rfl
        obtain ⟨w2, y3, y4⟩ := st3.wl 0 w1 y1
        rw [d3, hwin] at y3
        simp at y3
        subst y3
        rw [y4, y2, ← hcs, k2, g2]
      have hbase : sg.base = 1 := by
        have a1 : sg.base = s1.base := st3.base
        have a2 : s1.base = 1 := st1.base
        rw [a1, a2]
      have hst3 : σ3.st = some r2 := by rw [t4.1, hst]
      have hrun3 := t2.run
      rw [hst3] at hrun3
      obtain ⟨bs1, hb1', hrun3⟩ := hrun3
      cases hb1'
      rw [t4.2, hrun] at hrun3
      have hvs : σ3.vs = σ2.vs := by
        simp only [Option.some.injEq, Prod.mk.injEq] at hrun3
        exact hrun3.1.symm
      refine ⟨_, cs0, σ1.H.length, hca (RUs.app p1 t1) x1, ?_, fun i bl hi hx => hkeep2 i bl hi (by have := (List.getElem?_eq_some_iff.1 hx).1; omega) (hkeep1 i bl hi hx), k1, by rw [k2, g2], hl1, ?_, fun o v c hv hc => ?_⟩
      · have : (σ1.H ++ [Blk.cells tR .vr [src, .b false]]).length ≤ σ3.H.length := st3.kt.1
        simp at this; omega
      · have hA3 : AO σ3.η = fun i => i ∉ [σ1.H.length, mb] := by
          funext i
          unfold AO
          rw [hlv3, hrb3]; rfl
        rw [← hA3]
        refine places_rep (η := σ3.η) (w := w) hwl.symm (fun o v hv => ?_) h (runE_length hrun) (fun i hi => ?_) (fun i ev v x y1 y2 y3 => ?_) (fun i ev x y1 y3 => ?_)
        · obtain ⟨y, y1, _, y3⟩ := f4 o v hv
          exact ⟨y, by simpa using y1, y3⟩
        · have := t2.avl
          rw [hbase, t4.2] at this
          exact ⟨σ3.η.av[1 + i]'(by omega), by simp⟩
        · exact t2.rep (by rw [hst3]; rfl) i ev v x (by rw [t4.2]; exact y1) (by rw [hvs]; exact y2) (by rw [hbase]; exact y3)
        · exact t2.wid i ev x (by rw [t4.2]; exact y1) (by rw [hbase]; exact y3)
      · obtain ⟨y, y1, _, y3⟩ := f4 o v hv
        rw [con_den hc y3] at y1
        simpa using y1
  · refine ⟨fun _ => ⟨H', hca (RUs.appx _ p1 (by simp)) p2⟩, fun v r hv => ?_⟩
    simp only [Option.bind_some] at p3
    rw [hdn, p3] at hv; cases hv
theorem chkTop_sound {C : Cfg} (hC : Prims C) {fn : Func} {f : FuncId} {w0 : SF} {pl : List (Ev × Nat)} {wF : SF} (h : chkTop C fn w0 = some (pl, wF)) (hf : P.funcs[f]? = some fn) {H : Heap} {mb rb0 : Nat} {ty : TypeId} {cs : List AV} {src : AV} {bs : B}
    (hm : H[mb]? = some (.cells ty .vr cs)) (hcs : cs.length = w0.length) (hw : ∀ (o : Nat) (v : SV), w0[o]? = some v → ∃ a c, cs[o]? = some a ∧ a.one = true ∧ v.con = some c ∧ a = c)
    (hrm : rb0 ≠ mb) (hrl : rb0 < H.length) (R : Room (fun i => i ∉ [rb0, mb]) H rb0) (hb : BytesAt (fun i => i ∉ [rb0, mb]) H src bs) (hnt : 3 ≤ fn.ntmps) (hns : noNS f = true) :
    (dec C.flex (nodes pl) bs = none → ∃ H', CA P NS f [.p mb 0, src, .b false] H (.e, H')) ∧
    (∀ v r, dec C.flex (nodes pl) bs = some (v, r) → ∃ H' cs' rb, CA P NS f [.p mb 0, src, .b false] H (.n, H') ∧ H.length ≤ H'.length ∧ (∀ i b, i ≠ mb → H[i]? = some b → H'[i]? = some b) ∧
      H'[mb]? = some (.cells ty .vr cs') ∧ cs'.length = cs.length ∧ H.length ≤ rb ∧ Rep (fun i => i ∉ [rb, mb]) H' (nodes pl) v cs' ∧ ∀ (o : Nat) (v : SV) (c : AV), wF[o]? = some v → v.con = some c → cs'[o]? = some c) :=
  chkTopB_sound hC h hf hm hcs hw hrm hrl R hb hnt hns fun cs s s' hg _ _ _ σ ok hl => chk_sound hC 400 cs s s' hg (some bs) σ ok hl
end Go.Proofs.YtiifcfngbbhgoaaGreatDoor.Rd

namespace Go.Proofs.YtiifcfngbbhgoaaGreatDoor.Rd
open Go Go.Proofs.YtiifcfngbbhgoaaGreatDoor.Ax Go.Proofs.YtiifcfngbbhgoaaGreatDoor.Wire
inductive WV where
  | u
  | b (x : Bool)
  | i (k : IntKind) (n : Int)
  | z (c : CK)
  | ptr (l o : Nat)
  | cel (l o : Nat)
  | cels (l o w : Nat)
  | out (k : Nat)
  | cnt (l o : Nat)
  | isn (l o : Nat)
  | tl (w : Bool) (l o : Nat)
  | idx (l : Nat)
  | nxt (l : Nat)
  | fin (l : Nat)
  | dr (l o : Nat)
  deriving DecidableEq, Repr
def WV.con : WV → Option AV
  | .b x => some (.b x)
  | .i k n => some (.i k n)
  | .z c => some c.av
  | _ => none
def ofW (a : AV) : WV :=
  match ofA a with
  | .b x => .b x
  | .i k n => .i k n
  | .z c => .z c
  | _ => .u
abbrev WF := List WV
def evW (fr : WF) : Operand → Option WV
  | .tmp t => fr[t]?
  | .const v => (ofV v).map ofW
  | _ => none
inductive WPrim where
  | leaf (k : K) (null : Bool) (fx : Option Bool)
  | len (null : Bool) (fx : Bool)
  | uv
  | tlen
  | each
  deriving DecidableEq
inductive WVer where
  | is (n : Int)
  | rng (lo hi : Int)
  deriving DecidableEq
def WVer.has : WVer → Int → Prop
  | .is n, k => k = n
  | .rng lo hi, k => lo ≤ k ∧ k ≤ hi
structure WS where
  fr : WF
  lv : List (Nat × Nat)
  ver : Option WVer
  cur : Nat
  pend : Option (Nat × Option Bool)
  exp : List (List (Ev × Nat))
  k : Nat
  deriving DecidableEq
def WS.put (s : WS) (d : Option Tmp) (v : WV) : WS :=
  match d with
  | some d => { s with fr := s.fr.set d v }
  | none => s
def WS.top (s : WS) : Nat := s.lv.length - 1
def WS.pl (s : WS) : List (Ev × Nat) := (s.exp[s.top]?).getD []
def isList : Ev → Bool
  | .list .. => true
  | _ => false
def WS.lst (s : WS) (l o : Nat) : Bool := ((s.exp[l]?).getD []).any fun x => decide (x.2 = o) && isList x.1
def WS.tgs (s : WS) (l o : Nat) : Bool := ((s.exp[l]?).getD []).any fun x => decide (x.2 = o) && x.1 == .tags
def WS.pst (s : WS) (l o : Nat) : Bool := ((s.exp[l]?).getD []).any fun x => decide (x.2 = o) && x.1 == .leaf .pstr false
noncomputable def isPtrW (t : TypeId) : Bool := match P.underlying t with
  | some (.pointer _) => true
  | _ => false
def WS.fresh (s : WS) : Bool := s.fr.all fun v => v != .out (s.cur + 1)
def unF : F → List (Ev × Nat)
  | .nil => []
  | .leaf o k n r => (.leaf k n, o) :: unF r
  | .list o sz n e r => (.list sz n e, o) :: unF r
  | .tags o r => (.tags, o) :: unF r
noncomputable def binW (op : BinOp) (t : TypeId) (c : Bool) (x y : WV) : Option WV :=
  match x.con, y.con with
  | some a, some b => (binA P op t c a b).map ofW
  | _, _ => match op, x, y with
    | .add, .i .u32 0, .tl true l o => some (.tl true l o)
    | .add, .idx l, .i .i64 1 => some (.nxt l)
    | _, _, _ => none
noncomputable def cmpW (s : WS) (op : BinOp) (t : TypeId) (x y : WV) : Option WV :=
  match op, x, y with
  | .eql, .cel l o, .z .s0 => match elemA P t with
    | some _ => if s.lst l o = true then some (.isn l o) else none
    | none => none
  | .neq, .cel l o, .z .p0 => if s.pst l o = true ∧ isPtrW t = true then some (.b true) else none
  | .geq, .cel 0 0, .i .i16 c => match s.ver with
    | some (.rng lo hi) => if c ≤ lo then some (.b true) else if hi < c then some (.b false) else none
    | _ => none
  | .lss, .idx (l + 1), .cnt l' o => if l = l' ∧ (s.lv[l + 1]?).map (·.1) = some o then some (.b true) else none
  | .lss, .fin (l + 1), .cnt l' o => if l = l' ∧ (s.lv[l + 1]?).map (·.1) = some o then some (.b false) else none
  | _, _, _ => none
noncomputable def pureW (o : Op) (s : WS) : Option WV :=
  match o with
  | .move x | .assign x => evW s.fr x
  | .pick c a b => match evW s.fr c with
    | some (.b true) => evW s.fr a
    | some (.b false) => evW s.fr b
    | _ => none
  | .nilCheck x => match evW s.fr x with
    | some (.ptr l o) => some (.ptr l o)
    | some (.cel l o) => if s.pst l o = true then some (.cel l o) else none
    | _ => none
  | .fieldAddr t x k => match evW s.fr x with
    | some (.ptr l o) => match fieldAddrA P t (.p 0 o) k with
      | some (.p _ o') => some (.ptr l o')
      | _ => none
    | _ => none
  | .indexAddr t x k => match evW s.fr x, evW s.fr k with
    | some (.cel l o), some (.idx l') => match (elemA P t).bind (sizeA P) with
      | some sz => if l' = l + 1 ∧ s.lv[l']? = some (o, sz) ∧ s.lst l o = true then some (.ptr l' 0) else none
      | none => none
    | _, _ => none
  | .load t x => match evW s.fr x with
    | some (.ptr l o) => match aggA P t, sizeA P t, s.lv[l]? with
      | some false, _, some (_, sz) => if o < sz then (match s.ver with
        | some (.is n) => if l = 0 ∧ o = 0 then some (.i .i16 n) else some (.cel l o)
        | _ => some (.cel l o)) else none
      | some true, some w, some (_, sz) => if o + w ≤ sz then some (.cels l o w) else none
      | _, _, _ => none
    | some (.cel l o) => match aggA P t with
      | some false => if s.pst l o = true then some (.dr l o) else none
      | _ => none
    | _ => none
  | .binOp op t x y _ => match evW s.fr x, evW s.fr y with
    | some a, some b => match cmpW s op t a b with
      | some v => some v
      | none => binW op t (isC x || isC y) a b
    | _, _ => none
  | .unOp op _ x => match (evW s.fr x).bind WV.con with
    | some a => (unA op a).map ofW
    | none => none
  | .convert sr d x => match evW s.fr x with
    | some (.tl false l o) => match P.underlying sr, P.underlying d with
      | some (.int .i64), some (.int .u32) => some (.tl true l o)
      | _, _ => none
    | some v => match v.con with
      | some a => (convA P sr d a).map ofW
      | none => none
    | none => none
  | .call { callee := .builtin .len, args, argTypes } => match args.toList, argTypes.toList with
    | [x], [t] => match evW s.fr x, elemA P t with
      | some (.cel l o), some _ => if s.lst l o = true then some (.cnt l o) else none
      | _, _ => none
    | _, _ => none
  | _ => none
def lenR (null : Bool) (l o : Nat) : List (Option WV) := if null then [some (.isn l o)] else []
noncomputable def opW (C : Cfg) (prim : List (FuncId × WPrim)) (o : Oper) (s : WS) : Option WS :=
  match o.op with
  | .call { callee := .value (.func f), args, .. } => match prim.lookup f, args.toList.map (evW s.fr) with
    | some (.leaf k n fx), [some (.out c), some x] =>
      if c = s.cur ∧ s.pend = none ∧ fxOk C.flex fx = true ∧ s.fresh = true then match x with
        | .cel l o' => if l = s.top ∧ k ≠ .uuid ∧ s.pl[s.k]? = some (Ev.leaf k n, o') then some ({ s with cur := s.cur + 1, k := s.k + 1 }.put o.dst (.out (s.cur + 1))) else none
        | .cels l o' w => if l = s.top ∧ w = 16 ∧ k = .uuid ∧ s.pl[s.k]? = some (Ev.leaf k n, o') then some ({ s with cur := s.cur + 1, k := s.k + 1 }.put o.dst (.out (s.cur + 1))) else none
        | .dr l o' => if l = s.top ∧ k = .str ∧ n = false ∧ s.pl[s.k]? = some (Ev.leaf .pstr false, o') then some ({ s with cur := s.cur + 1, k := s.k + 1 }.put o.dst (.out (s.cur + 1))) else none
        | _ => none
      else none
    | some (.len null fx), some (.out c) :: some (.cnt l o') :: r =>
      if c = s.cur ∧ s.pend = none ∧ fx = C.flex ∧ l = s.top ∧ s.fresh = true ∧ r = lenR null l o' ∧ ((s.pl[s.k]?).any fun x => decide (x.2 = o') && isList x.1) = true then some ({ s with cur := s.cur + 1, pend := some (o', some null) }.put o.dst (.out (s.cur + 1))) else none
    | some .tlen, [some (.ptr l o')] => if l = s.top ∧ s.tgs l o' = true then some (s.put o.dst (.tl false l o')) else none
    | some .uv, [some (.out c), some (.tl true l o')] => if c = s.cur ∧ s.pend = none ∧ l = s.top ∧ s.fresh = true then some ({ s with cur := s.cur + 1, pend := some (o', none) }.put o.dst (.out (s.cur + 1))) else none
    | some .each, [some (.ptr l o'), some (.out c)] => if c = s.cur ∧ l = s.top ∧ s.pend = some (o', none) ∧ s.fresh = true ∧ s.pl[s.k]? = some (Ev.tags, o') then some ({ s with cur := s.cur + 1, pend := none, k := s.k + 1 }.put o.dst (.out (s.cur + 1))) else none
    | _, _ => none
  | op => (pureW op s).map fun v => s.put o.dst v
def wantW (ops : List Oper) (s : WS) : Option (Nat × Bool) → Option Bool
  | none => some true
  | some (j, w) => match (ops[j]?).bind (·.dst) with
    | some d => match s.fr[d]? with
      | some (.b x) => some (x == w)
      | _ => none
    | none => none
noncomputable def opsW (C : Cfg) (prim : List (FuncId × WPrim)) (ops : List Oper) : List Oper → WS → Option WS
  | [], s => some s
  | o :: r, s => match wantW ops s o.guard with
    | some true => (opW C prim o s).bind (opsW C prim ops r)
    | some false => opsW C prim ops r (s.put o.dst .u)
    | none => none
noncomputable def exitW (C : Cfg) (b : List Code) (s : WS) : Option (Nat × WS) :=
  match b with
  | .region _ ops false :: .cond c x (.exit id) :: _ => match opsW C [] ops.toList ops.toList s with
    | some s1 => match evW s1.fr c with
      | some (.b false) => some (id, s1)
      | _ => none
    | none => none
  | _ => none
def renW (a b : Nat) (v : WV) : WV := if v = .out a then .out b else v
def WV.calm (l : Nat) : WV → Bool
  | .ptr k _ | .cel k _ | .cels k _ _ | .cnt k _ | .isn k _ | .tl _ k _ | .idx k | .nxt k | .fin k | .dr k _ => decide (k < l)
  | _ => true
def lowW (l : Nat) (v : WV) : WV := if v.calm l then v else .u
def iSlotW : List Code → Option Nat
  | .region _ ops _ :: _ => match ops.toList with
    | ⟨_, .binOp .lss _ (.tmp t) _ _, _, _, _, _⟩ :: _ => some t
    | _ => none
  | _ => none
def noOut : WV → WV
  | .out _ => .u
  | v => v
def headW (l it : Nat) (b : Code) (o : Nat) (c : Nat) (fr : WF) : WF := ((((dsts b).foldl (fun fr t => fr.set t .u) fr).map noOut).set o (.out c)).set it (.idx l)
def outSlot (c : Nat) (fr : WF) : Nat := fr.findIdx (· = .out c)
def splitA : List Oper → Option (List Oper × Nat × TypeId × Nat)
  | [] => none
  | [_] => none
  | [⟨some q, .alloc T, _, _, _, none⟩, ⟨none, .store T' (.tmp q') (.tmp d), _, _, _, none⟩] => if T' = T ∧ q' = q ∧ d ≠ q then some ([], q, T, d) else none
  | o :: r => (splitA r).map fun (a, x) => (o :: a, x)
def isMv : Oper → Bool
  | ⟨_, .move _, _, _, _, none⟩ => true
  | _ => false
def isUu : Ev → Bool
  | .leaf .uuid _ => true
  | _ => false
noncomputable def boxW (C : Cfg) (prim : List (FuncId × WPrim)) (ops1 ops2 : List Oper) (s : WS) : Option WS :=
  match splitA ops1 with
  | some (pre0, q, T, d) => match splitT q T ops2 with
    | some (pre, e, post) =>
      if aggA P T = some true ∧ pre.all isMv = true then match opsW C prim ops1 pre0 s with
        | some s1 => match s1.fr[d]?, sizeA P T, zeroA P T with
          | some (.cels l o w), some sz, some z =>
            if w = sz ∧ w = 16 ∧ l = s1.top ∧ ((s1.pl[s1.k]?).any fun x => decide (x.2 = o) && isUu x.1) = true ∧ z.cells.length = sz ∧ z.cells.all AV.one = true ∧ q < s1.fr.length then
              match opsW C prim ops2 pre (s1.put (some q) .u) with
              | some s2 => opsW C prim ops2 post (s2.put (some e) (.cels l o w))
              | none => none
            else none
          | _, _, _ => none
        | none => none
      else none
    | none => none
  | none => none
noncomputable def boxWM (C : Cfg) (prim : List (FuncId × WPrim)) (ops1 : List Oper) (rest : List Code) (s : WS) : Option (WS × List Code) :=
  match rest with
  | .region _ ops2 false :: rest2 => (boxW C prim ops1 ops2.toList s).map fun s1 => (s1, rest2)
  | _ => none
noncomputable def chkWStep (C : Cfg) (prim : List (FuncId × WPrim)) (rec : List Code → WS → Option WS) : List Code → WS → Option WS
  | [], s => some s
  | .region _ ops false :: rest, s => match boxWM C prim ops.toList rest s with
    | some (s1, rest2) => rec rest2 s1
    | none => (opsW C prim ops.toList ops.toList s).bind (rec rest)
  | .cond c a b :: rest, s => match evW s.fr c with
    | some (.b true) => rec (flat a ++ rest) s
    | some (.b false) => rec (flat b ++ rest) s
    | _ => none
  | .block id (.loop b) :: rest, s => match s.pend, iSlotW (flat b), s.pl[s.k]? with
    | some (o, some null), some it, some (.list sz null' f, o') =>
      let l := s.lv.length
      let os := outSlot s.cur s.fr
      let hd := headW l it b os s.cur s.fr
      match rec (flat b) { s with fr := hd, lv := s.lv ++ [(o, sz)], pend := none, exp := s.exp ++ [unF f], k := 0 }, exitW C (flat b) { s with fr := hd.set it (.fin l), lv := s.lv ++ [(o, sz)], pend := none, exp := s.exp ++ [[]], k := 0 } with
      | some s2, some (j, s3) =>
        if j = id ∧ null' = null ∧ o' = o ∧ 0 < l ∧ 0 < sz ∧ s.exp.length = l ∧ s.fr[it]? = some (.i .i64 0) ∧ s.fr[os]? = some (.out s.cur) ∧ os ≠ it ∧ it < s.fr.length ∧ s2.fr[it]? = some (.nxt l) ∧ s2.pend = none ∧ s2.lv = s.lv ++ [(o, sz)] ∧ s2.exp = s.exp ++ [unF f] ∧ s2.k = (unF f).length ∧ s2.fr.length = hd.length
          ∧ ((hd.set it .u).zip s2.fr).all (fun x => x.1 == .u || renW s.cur s2.cur x.1 == x.2) = true ∧ (hd.set it .u).all (WV.calm l) = true ∧ s3.cur = s.cur ∧ s3.lv = s.lv ++ [(o, sz)] ∧ s3.pend = none ∧ s3.exp = s.exp ++ [[]] ∧ s3.k = 0 ∧ s2.ver = s.ver ∧ s3.ver = s.ver ∧ s3.fr.length = s.fr.length then
          rec rest { s with fr := s3.fr.map (lowW l), pend := none, k := s.k + 1 }
        else none
      | _, _ => none
    | _, _, _ => none
  | .block _ b :: rest, s => rec (flat b ++ rest) s
  | _, _ => none
noncomputable def chkW (C : Cfg) (prim : List (FuncId × WPrim)) : Nat → List Code → WS → Option WS
  | 0 => fun _ _ => none
  | f + 1 => chkWStep C prim (chkW C prim f)
noncomputable def chkWTopG (C : Cfg) (prim : List (FuncId × WPrim)) (fn : Func) (sz : Nat) (ver : Option WVer) (pl : List (Ev × Nat)) : Bool :=
  match fn.body with
  | some c =>
    let l := flat c
    match l.getLast?, chkW C prim 400 l.dropLast { fr := [.ptr 0 0, .out 0] ++ List.replicate (fn.ntmps - 2) .u, lv := [(0, sz)], ver := ver, cur := 0, pend := none, exp := [pl], k := 0 } with
    | some .ret, some s => decide (s.fr[C.res]? = some (.out s.cur) ∧ s.pend = none ∧ s.exp = [pl] ∧ s.lv = [(0, sz)] ∧ s.k = pl.length ∧ oneRes fn.results.toList = some C.res ∧ 2 ≤ fn.ntmps)
    | _, _ => false
  | none => false
noncomputable def chkWTop (C : Cfg) (prim : List (FuncId × WPrim)) (fn : Func) (sz : Nat) (ver : Option Int) (pl : List (Ev × Nat)) : Bool := chkWTopG C prim fn sz (ver.map .is) pl
end Go.Proofs.YtiifcfngbbhgoaaGreatDoor.Rd

namespace Go.Proofs.YtiifcfngbbhgoaaGreatDoor.Rd
open Go Go.Proofs.YtiifcfngbbhgoaaGreatDoor.Ax Go.Proofs.YtiifcfngbbhgoaaGreatDoor.Wire
set_option maxRecDepth 100000
def slen : AV → Option Nat
  | .s0 | .se | .sn => some 0
  | .sl _ 0 n => some n
  | _ => none
def isS0 : AV → Bool
  | .s0 => true
  | _ => false
def tagN (H : Heap) : AV → Option Nat
  | .m0 => some 0
  | .mp i => match H[i]? with
    | some (.map _ es) => some es.length
    | _ => none
  | _ => none
structure WL where
  b : Nat
  w : Nat
  sz : Nat
  cs : List AV
  o : Nat
  j : Nat
  n : Nat
structure WSta where
  fr : List AV
  H : Heap
  lv : List WL
  out : AV
  bs : B
  vs : List (List V)
def denW (H0 : Heap) (cur : Nat) (out : AV) (lv : List WL) : WV → AV → Prop
  | .u, _ => True
  | .b x, a => a = .b x
  | .i k n, a => a = .i k n
  | .z c, a => a = c.av
  | .ptr l o, a => ∃ e, lv[l]? = some e ∧ e.j < e.n ∧ a = .p e.b (e.w + o)
  | .cel l o, a => ∃ e, lv[l]? = some e ∧ e.cs[o]? = some a
  | .cels l o w, a => ∃ e, lv[l]? = some e ∧ o + w ≤ e.cs.length ∧ a = .g ((e.cs.drop o).take w)
  | .out k, a => k = cur → a = out
  | .cnt l o, a => ∃ e x n, lv[l]? = some e ∧ e.cs[o]? = some x ∧ slen x = some n ∧ a = .i .i64 (n : Nat)
  | .isn l o, a => ∃ e x n, lv[l]? = some e ∧ e.cs[o]? = some x ∧ slen x = some n ∧ a = .b (isS0 x)
  | .tl w l o, a => ∃ e x n, lv[l]? = some e ∧ e.cs[o]? = some x ∧ tagN H0 x = some n ∧ n < 4294967296 ∧ a = .i (if w then .u32 else .i64) (n : Nat)
  | .idx l, a => ∃ e, lv[l]? = some e ∧ a = .i .i64 (e.j : Nat) ∧ e.j < e.n ∧ e.n < 4611686018427387904
  | .nxt l, a => ∃ e, lv[l]? = some e ∧ a = .i .i64 ((e.j + 1 : Nat) : Int)
  | .fin l, a => ∃ e, lv[l]? = some e ∧ a = .i .i64 (e.n : Nat)
  | .dr l o, a => ∃ e, lv[l]? = some e ∧ ∃ b ty x, e.cs[o]? = some (.p b 0) ∧ H0[b]? = some (.cells ty .vr [.s x]) ∧ a = .s x
def OutAt (L0 : Nat) (H : Heap) (out : AV) (bs : B) : Prop := (out = .s0 ∧ bs = []) ∨ ∃ i, L0 ≤ i ∧ out = .sl i 0 bs.length ∧ H[i]? = some (.cells tU .row (u8s bs)) ∧ 0 < bs.length
structure WKeep (L0 : Nat) (H H' : Heap) : Prop where
  at_ : ∀ i, i < L0 → H'[i]? = H[i]?
  len : H.length ≤ H'.length
theorem WKeep.refl (L0 : Nat) (H : Heap) : WKeep L0 H H := ⟨fun _ _ => rfl, Nat.le_refl _⟩
theorem WKeep.trans {L0 : Nat} {H H' H'' : Heap} (h : WKeep L0 H H') (k : WKeep L0 H' H'') : WKeep L0 H H'' := ⟨fun i hi => (k.at_ i hi).trans (h.at_ i hi), Nat.le_trans h.len k.len⟩
structure ApK (f : FuncId) (flex : Bool) (k : K) (null : Bool) : Prop where
  run : ∀ (L0 : Nat) (H : Heap) (out : AV) (bs : B) (av : AV) (v : V), L0 ≤ H.length → OutAt L0 H out bs → RepK (fun i => i < L0) H k null av v → okK flex k null v → bs.length + (encK flex k v).length ≤ 1099511627776 →
    ∃ out' H', CA P NS f [out, av] H (out', H') ∧ OutAt L0 H' out' (bs ++ encK flex k v) ∧ WKeep L0 H H'
structure ApL (f : FuncId) (flex : Bool) (null : Bool) : Prop where
  run : ∀ (L0 : Nat) (H : Heap) (out : AV) (bs : B) (n : Nat) (z : Bool), L0 ≤ H.length → OutAt L0 H out bs → n < 2147483648 → bs.length + 8 ≤ 1099511627776 →
    ∃ out' H', CA P NS f (out :: .i .i64 (n : Nat) :: (if null then [.b z] else [])) H (out', H') ∧ OutAt L0 H' out' (bs ++ (if null && z then cnt0 flex 4 else cnt flex 4 n)) ∧ WKeep L0 H H'
structure ApU (f : FuncId) : Prop where
  run : ∀ (L0 : Nat) (H : Heap) (out : AV) (bs : B) (n : Nat), L0 ≤ H.length → OutAt L0 H out bs → n < 4294967296 → bs.length + 8 ≤ 1099511627776 →
    ∃ out' H', CA P NS f [out, .i .u32 (n : Nat)] H (out', H') ∧ OutAt L0 H' out' (bs ++ uv n) ∧ WKeep L0 H H'
structure ApN (f : FuncId) : Prop where
  run : ∀ (H : Heap) (b o : Nat) (ty : TypeId) (kn : Kn) (cs : List AV) (x : AV) (n : Nat), H[b]? = some (.cells ty kn cs) → cs[o]? = some x → tagN H x = some n → CA P NS f [.p b o] H (.i .i64 (n : Nat), H)
structure ApE (f : FuncId) : Prop where
  run : ∀ (L0 : Nat) (H : Heap) (out : AV) (bs : B) (b o : Nat) (ty : TypeId) (kn : Kn) (cs : List AV) (x : AV) (ts : List (Nat × B)), L0 ≤ H.length → OutAt L0 H out bs → H[b]? = some (.cells ty kn cs) → cs[o]? = some x → b < L0 → TagRep (fun i => i < L0) H (.t ts) (.g [x]) →
    bs.length + (encT ts).length ≤ 1099511627776 → ∃ out' H', CA P NS f [.p b o, out] H (out', H') ∧ OutAt L0 H' out' (bs ++ encT ts) ∧ WKeep L0 H H'
def WPrimOK (C : Cfg) (f : FuncId) : WPrim → Prop
  | .leaf k n fx => fxOk C.flex fx = true → ApK f C.flex k n
  | .len null fx => fx = C.flex → ApL f C.flex null
  | .uv => ApU f
  | .tlen => ApN f
  | .each => ApE f
def WPrims (C : Cfg) (prim : List (FuncId × WPrim)) : Prop := ∀ f p, prim.lookup f = some p → WPrimOK C f p
def okE (flex : Bool) : Ev → V → Prop
  | .leaf k n, v => okK flex k n v
  | .list _ n e, .l vs => vs.length < 2 ^ 31 ∧ ∀ x ∈ vs, ok flex e x
  | .list _ n _, .nul => n = true
  | .list _ _ _, _ => False
  | .tags, .t ts => okT 0 ts ∧ ts.length < 2 ^ 32
  | .tags, _ => False
def Said (flex : Bool) (A : Nat → Prop) (H : Heap) (cs : List AV) (pl : List (Ev × Nat)) (vs : List V) : Prop :=
  ∀ (i : Nat) (e : Ev) (o : Nat), pl[i]? = some (e, o) → ∃ v, vs[i]? = some v ∧ At cs o e.wide (RepE A H e v) ∧ okE flex e v
def encs (flex : Bool) : List (Ev × Nat) → List V → B
  | [], _ => []
  | (e, _) :: r, v :: vs => e.enc flex v ++ encs flex r vs
  | _ :: _, [] => []
theorem encs_snoc (flex : Bool) : ∀ (l : List (Ev × Nat)) (vs : List V) (e : Ev) (o : Nat) (v : V), vs[l.length]? = some v → encs flex (l ++ [(e, o)]) vs = encs flex l vs ++ e.enc flex v
  | [], vs, e, o, v, h => by
    cases vs with
    | nil => simp at h
    | cons a r => simp at h; subst h; simp [encs]
  | (e', o') :: l, vs, e, o, v, h => by
    cases vs with
    | nil => simp at h
    | cons a r =>
      simp only [List.cons_append, encs, List.append_assoc]
      rw [encs_snoc flex l r e o v (by simpa using h)]
theorem encs_len (flex : Bool) : ∀ (a b : List (Ev × Nat)) (vs : List V), (encs flex a vs).length ≤ (encs flex (a ++ b) vs).length
  | [], b, vs => by simp [encs]
  | (e', o') :: a, b, vs => by
    cases vs with
    | nil => simp [encs]
    | cons v r =>
      simp only [List.cons_append, encs, List.length_append]
      have := encs_len flex a b r
      omega
def pendB (flex : Bool) (H : Heap) (cs : List AV) : Option (Nat × Option Bool) → Option B
  | none => some []
  | some (o, none) => (cs[o]?).bind fun x => (tagN H x).map uv
  | some (o, some null) => (cs[o]?).bind fun x => (slen x).map fun n => if null && isS0 x then cnt0 flex 4 else cnt flex 4 n
structure WOK (C : Cfg) (H0 : Heap) (L0 : Nat) (o0 : B) (s : WS) (σ : WSta) : Prop where
  fr : s.fr.length = σ.fr.length ∧ ∀ (t : Nat) (v : WV) (a : AV), s.fr[t]? = some v → σ.fr[t]? = some a → denW H0 s.cur σ.out σ.lv v a
  lvl : s.lv.length = σ.lv.length
  exl : s.exp.length = σ.lv.length
  vsl : σ.vs.length = σ.lv.length
  pos : 0 < σ.lv.length
  lv : ∀ (l : Nat) (e : WL), σ.lv[l]? = some e → s.lv[l]? = some (e.o, e.sz) ∧ (e.j < e.n → e.cs.length = e.sz ∧ e.b < L0 ∧ ∃ ty kn bl, H0[e.b]? = some (.cells ty kn bl) ∧ e.w + e.sz ≤ bl.length ∧ (bl.drop e.w).take e.sz = e.cs)
  up : ∀ (l : Nat) (p e : WL), σ.lv[l]? = some p → σ.lv[l + 1]? = some e → ∃ x, p.cs[e.o]? = some x ∧ ((slen x = some e.n ∧ (e.j < e.n → x = .sl e.b 0 e.n ∧ e.w = e.j * e.sz)) ∨ x = .p e.b e.w)
  said : ∀ (l : Nat) (e : WL) (pl : List (Ev × Nat)) (vs : List V), σ.lv[l]? = some e → s.exp[l]? = some pl → σ.vs[l]? = some vs → Said C.flex (fun i => i < L0) H0 e.cs pl vs
  ver : ∀ n, s.ver = some n → ∃ e k, σ.lv[0]? = some e ∧ e.cs[0]? = some (.i .i16 k) ∧ n.has k
  keep : WKeep L0 H0 σ.H
  l0 : L0 ≤ H0.length
  out : OutAt L0 σ.H σ.out σ.bs
  bytes : ∀ (e : WL) (pl : List (Ev × Nat)) (vs : List V), σ.lv[s.top]? = some e → s.exp[s.top]? = some pl → σ.vs[s.top]? = some vs → ∃ p, pendB C.flex H0 e.cs s.pend = some p ∧ σ.bs = o0 ++ encs C.flex (pl.take s.k) vs ++ p
  bound : ∀ (pl : List (Ev × Nat)) (vs : List V), s.exp[s.top]? = some pl → σ.vs[s.top]? = some vs → o0.length + (encs C.flex pl vs).length + 8 ≤ 1099511627776
end Go.Proofs.YtiifcfngbbhgoaaGreatDoor.Rd

