import Derived.Test.YtopfghmpaobnnaaDoorQSxTop
import Derived.Test.YtopfghmpaobnnaaDoorQAxStep
/-
  THE CHECKER is sound for a whole reading function.
-/
namespace Go.Proofs.YtopfghmpaobnnaaDoor.Rd
set_option linter.constructorNameAsVariable false
set_option linter.unusedVariables false
set_option linter.unusedSimpArgs false
open Go Go.Proofs.YtopfghmpaobnnaaDoor.Ax Go.Proofs.YtopfghmpaobnnaaDoor.Wire
set_option linter.unusedVariables false
set_option linter.unusedSimpArgs false
set_option maxRecDepth 100000

theorem psIs_spec {L : List (Nat × Operand)} {a : Nat} (h : psIs L a = true) : L = [(0, .tmp a)] := by
  unfold psIs at h
  split at h
  · rename_i a'
    have : a' = a := by simpa using h
    rw [this]
  · cases h
theorem mkOp_spec {L : List Oper} {a b c : Nat} (h : mkOp L = some (a, b, c)) : a ≠ b ∧ b ≠ c ∧ ∃ t1 p1 f1 t2 p2 f2 t3 p3 f3 t4 p4 f4 ps, ps.toList = [(0, .tmp a)] ∧
    L = [⟨some a, .move (.tmp 1), t1, p1, f1, none⟩, ⟨some b, .build tR ps, t2, p2, f2, none⟩, ⟨some c, .alloc tR, t3, p3, f3, none⟩, ⟨none, .store tR (.tmp c) (.tmp b), t4, p4, f4, none⟩] := by
  unfold mkOp at h
  split at h
  · rename_i a' t1 p1 f1 b' t ps t2 p2 f2 c' t' t3 p3 f3 t'' c'' b'' t4 p4 f4
    split at h
    · rename_i hc
      obtain ⟨rfl, rfl, rfl, rfl, rfl, hps, h1, h2⟩ := hc
      simp only [Option.some.injEq, Prod.mk.injEq] at h
      obtain ⟨rfl, rfl, rfl⟩ := h
      exact ⟨h1, h2, t1, p1, f1, t2, p2, f2, t3, p3, f3, t4, p4, f4, ps, psIs_spec hps, rfl⟩
    · cases h
  · cases h

theorem zero_rd : zeroA P tR = some (.g [.s0, .b false]) := by kernel_rfl
theorem size_rd : sizeA P tR = some 2 := by kernel_rfl
theorem build_rd {A : Nat → Prop} {H : Heap} {src : AV} {bs : B} (h : BytesAt A H src bs) : buildA P tR [(0, src)] = some (.g [src, .b false]) := by
  cases h with
  | z => kernel_rfl
  | e => kernel_rfl
  | s hA h h0 h1 =>
    rename_i i o ty kn cs
    generalize bs.length = n
    kernel_rfl
theorem BytesAt.cl {A : Nat → Prop} {H : Heap} {src : AV} {bs : B} (h : BytesAt A H src bs) : src.cells = [src] ∧ src.one = true := BytesAt.one' h

theorem st_new {H : Heap} {src : AV} (h1 : src.one = true) : storeA P (H ++ [.cells tR .vr [.s0, .b false]]) tR (.p H.length 0) (.g [src, .b false]) = some (H ++ [.cells tR .vr [src, .b false]]) := by
  have h : (H ++ [Blk.cells tR .vr [.s0, .b false]])[H.length]? = some (.cells tR .vr [.s0, .b false]) := by simp
  have hb : (AV.b false).one = true := rfl
  simp [storeA, h, size_rd, Kn.own, AV.cells, h1, hb, over]
/-- The reader's making. -/
theorem mk_run {ops : Array Oper} {a b c : Nat} {id : Nat} (h : mkOp ops.toList = some (a, b, c)) {A : Nat → Prop} {H : Heap} {fr : List AV} {src : AV} {bs : B} (hb : BytesAt A H src bs) (h1 : fr[1]? = some src) (ha : a < fr.length) (hbl : b < fr.length) (hc : c < fr.length) :
    RU P NS (.region id ops false) fr H (.normal, ((fr.set a src).set b (.g [src, .b false])).set c (.p H.length 0), H ++ [.cells tR .vr [src, .b false]]) := by
  obtain ⟨n1, n2, t1, p1, f1, t2, p2, f2, t3, p3, f3, t4, p4, f4, ps, hps, hL⟩ := mkOp_spec h
  refine RU.region ?_
  rw [hL]
  obtain ⟨q1, q2⟩ := BytesAt.cl hb
  refine OS.op rfl rfl (op_move h1) ?_
  refine OS.op rfl rfl (v := .g [src, .b false]) (H1 := H) ?_ ?_
  · show opA P (.build tR ps) (fr.set a src) H = _
    simp only [opA, hps, evs, ev, List.getElem?_set_self ha, Option.bind_some, build_rd hb, Option.map_some]
  refine OS.op rfl rfl (op_alloc zero_rd rfl) ?_
  refine OS.op rfl rfl (op_store (a := .p H.length 0) (v := .g [src, .b false]) (H1 := H ++ [.cells tR .vr [src, .b false]]) ?_ ?_ ?_) ?_
  · show (((fr.set a src).set b (.g [src, .b false])).set c (.p H.length 0))[c]? = _
    rw [List.getElem?_set_self (by simpa using hc)]
  · show (((fr.set a src).set b (.g [src, .b false])).set c (.p H.length 0))[b]? = _
    rw [List.getElem?_set, if_neg (fun x => n2 x.symm), List.getElem?_set_self (by simpa using hbl)]
  · exact st_new q2
  · exact OS.nil

theorem den_rb {η η' : Env} (lv : η'.lv = η.lv) (ln : η'.ln = η.ln) (av : η'.av = η.av) (lq : η'.lq = η.lq) {v : SV} (hv : v ≠ .rd) {a : AV} (h : den η v a) : den η' v a := by
  cases v <;> simp only [den, lv, ln, av, lq] at * <;> first | exact h | exact absurd rfl hv
theorem still_rd {v : SV} (h : v.still = true) : v ≠ .rd := by rintro rfl; simp [SV.still, SV.con] at h

theorem chkTop_sound {C : Cfg} (hC : Prims C) {fn : Func} {f : FuncId} {w0 : SF} {pl : List (Ev × Nat)} {wF : SF} (h : chkTop C fn w0 = some (pl, wF)) (hf : P.funcs[f]? = some fn) {H : Heap} {mb rb0 : Nat} {ty : TypeId} {cs : List AV} {src : AV} {bs : B}
    (hm : H[mb]? = some (.cells ty .vr cs)) (hcs : cs.length = w0.length) (hw : ∀ (o : Nat) (v : SV), w0[o]? = some v → ∃ a c, cs[o]? = some a ∧ a.one = true ∧ v.con = some c ∧ a = c)
    (hrm : rb0 ≠ mb) (hrl : rb0 < H.length) (R : Room (fun i => i ∉ [rb0, mb]) H rb0) (hb : BytesAt (fun i => i ∉ [rb0, mb]) H src bs) (hnt : 3 ≤ fn.ntmps) :
    (dec C.flex (nodes pl) bs = none → ∃ H', CA P NS f [.p mb 0, src, .b false] H (.e, H')) ∧
    (∀ v r, dec C.flex (nodes pl) bs = some (v, r) → ∃ H' cs' rb, CA P NS f [.p mb 0, src, .b false] H (.n, H') ∧ H.length ≤ H'.length ∧ (∀ i b, i ≠ mb → H[i]? = some b → H'[i]? = some b) ∧
      H'[mb]? = some (.cells ty .vr cs') ∧ cs'.length = cs.length ∧ H.length ≤ rb ∧ Rep (fun i => i ∉ [rb, mb]) H' (nodes pl) v cs' ∧ ∀ (o : Nat) (v : SV) (c : AV), wF[o]? = some v → v.con = some c → cs'[o]? = some c) := by
  have hI := inlS_ok hC 6
  obtain ⟨q1, q2⟩ := BytesAt.cl hb
  unfold chkTop at h
  split at h
  rotate_left
  · cases h
  rename_i code hcode
  simp only at h
  split at h
  rotate_left
  · cases h
  rename_i idr ops rest s1 hdrop hrun1
  split at h
  rotate_left
  · cases h
  rename_i a b r hmk
  split at h
  rotate_left
  · cases h
  rename_i hc1
  obtain ⟨c1, c2, c3, c4, c5, c6, c7, c8, c9, c10, c11⟩ := hc1
  split at h
  rotate_left
  · cases h
  rename_i s2 hchk
  split at h
  rotate_left
  · cases h
  rename_i sg sb w hg hbd hwin
  split at h
  rotate_left
  · cases h
  rename_i hc2
  obtain ⟨d1, d2, d3, d4⟩ := hc2
  simp only [Option.map_eq_some_iff] at h
  obtain ⟨pl', h, hpw⟩ := h
  simp only [Prod.mk.injEq] at hpw
  obtain ⟨hpe, rfl⟩ := hpw
  rw [hpe] at h
  clear hpe pl'
  -- ahead of the reader
  have ok0 : OK C (some []) (topS fn.ntmps w0) { η := ⟨rb0, [⟨mb, 0, 0⟩], [0], [src], 0⟩, fr := [.p mb 0, src, .b false] ++ List.replicate (fn.ntmps - 3) (.t []), H := H, nn := true, st := some [], vs := [] } := by
    refine ⟨⟨by simp [topS], fun t v x hv hx => ?_⟩, ⟨rfl, fun l e w' he hw' => ?_⟩, by simp, by simp [hrm], R, fun hr => by simp [topS] at hr, hrl, rfl, fun n x hx => ?_, fun i e x he => by simp [topS] at he, rfl, fun l e w' z he hw' hz => ?_, fun l e hl he => ?_, ⟨[], rfl, rfl⟩, fun _ i e v x he => by simp [topS] at he⟩
    · simp only [topS] at hv
      match t, hv, hx with
      | 0, hv, hx => simp at hv hx; subst hv; subst hx; exact ⟨⟨mb, 0, 0⟩, rfl, rfl⟩
      | 1, hv, hx => simp at hv hx; subst hv; subst hx; rfl
      | 2, hv, hx => simp at hv hx; subst hv; subst hx; rfl
      | t + 3, hv, hx =>
        simp [List.getElem?_replicate] at hv
        rw [← hv.2]; trivial
    · cases l with
      | zero =>
        simp [topS] at he hw'
        subst he; subst hw'
        refine ⟨by simp, ty, .vr, cs, hm, rfl, by simp [hcs], fun o v hv => ?_⟩
        obtain ⟨x, c, x1, x2, x3, rfl⟩ := hw o v hv
        refine ⟨x, by simpa using x1, x2, ?_⟩
        cases v <;> simp [SV.con] at x3 <;> subst x3 <;> rfl
      | succ l => simp at he
    · cases n with
      | zero => simp at hx; subst hx; rw [q1]; simp [q2]
      | succ n => simp at hx
    · cases l with
      | zero => simp [topS] at hz
      | succ l => simp [topS] at hz
    · have hl' : 1 ≤ l := hl
      cases l with
      | zero => omega
      | succ l => simp at he
  obtain ⟨σ1, r1, ok1, st1, qu1⟩ := runL_sound hC hI _ hrun1 ok0 (fun m hm' => by cases hm'; rfl)
  have qu1 := qu1 (by simp)
  have hs1 : σ1.st = some [] := qu1.1
  have hrb1 : σ1.η.rb = rb0 := st1.rb
  have hlv1 : σ1.η.lv = [⟨mb, 0, 0⟩] := st1.lv.eq (by rw [← ok1.win.1, c3]; rfl)
  have hln1 : σ1.η.ln = [0] := st1.ln
  have hfr1 : σ1.fr.length = s1.fr.length := ok1.fr.1.symm
  obtain ⟨x1, hx1, hx2⟩ := FR.at_ ok1.fr c1
  have hav0 : σ1.η.av[0]? = some src := st1.av.at_ 0 src rfl
  have hx2 : σ1.η.av[0]? = some x1 := hx2
  rw [hav0] at hx2; cases hx2
  have hb1 : BytesAt (AO σ1.η) σ1.H src bs := BytesAt.kt hb st1.kt
  have rmk := mk_run (id := idr) hmk hb1 hx1 (by omega) (by omega) (by omega)
  obtain ⟨okg, stg⟩ := ok1.grow [.cells tR .vr [src, .b false]]
  have hmbl : mb < σ1.H.length := by
    obtain ⟨_, _, _, _, hq, _⟩ := ok1.win.2 0 ⟨mb, 0, 0⟩ (s1.win[0]'(by omega)) (by rw [hlv1]; rfl) (by simp)
    exact (List.getElem?_eq_some_iff.1 hq).1
  -- with the reader
  have hAOR : ∀ i, AO { σ1.η with rb := σ1.H.length } i ↔ i ≠ σ1.H.length ∧ i ≠ mb := fun i => by
    unfold AO
    simp only [hlv1, List.map_cons, List.map_nil, List.mem_cons, List.not_mem_nil, or_false, not_or]
  have hAO1 : ∀ i, AO σ1.η i ↔ i ≠ rb0 ∧ i ≠ mb := fun i => by
    unfold AO
    simp only [hlv1, hrb1, List.map_cons, List.map_nil, List.mem_cons, List.not_mem_nil, or_false, not_or]
  have hktR : KT (AO σ1.η) σ1.H (AO { σ1.η with rb := σ1.H.length }) (σ1.H ++ [.cells tR .vr [src, .b false]]) := ⟨by simp, fun i bl hi hx => by
    have hlt := (List.getElem?_eq_some_iff.1 hx).1
    exact ⟨(hAOR i).2 ⟨by omega, ((hAO1 i).1 hi).2⟩, by rw [List.getElem?_append_left hlt]; exact hx⟩⟩
  have hden : ∀ v, v ≠ SV.rd → ∀ x, den σ1.η v x → den { σ1.η with rb := σ1.H.length } v x := fun v hv x d => den_rb (η := σ1.η) (η' := { σ1.η with rb := σ1.H.length }) rfl rfl rfl rfl hv d
  have okR : OK C (some bs) { s1 with fr := ((s1.fr.set a .u).set b .u).set r .rd, rdy := true } { η := { σ1.η with rb := σ1.H.length }, fr := ((σ1.fr.set a src).set b (.g [src, .b false])).set r (.p σ1.H.length 0), H := σ1.H ++ [.cells tR .vr [src, .b false]], nn := false, st := some bs, vs := [] } := by
    refine ⟨?_, ⟨okg.win.1, fun l e w' he hw' => ?_⟩, okg.ln, ?_, ?_, fun _ => ⟨src, by simp, BytesAt.kt hb1 hktR, fun x => by cases x⟩, by simp, okg.avl, okg.one, okg.wid, okg.zl, fun l e w' z he hw' hz => ?_, okg.lvj, ⟨bs, rfl, by rw [c2]; rfl⟩, fun _ i e v x he => by rw [c2] at he; simp at he⟩
    · refine FR.put (FR.put (FR.put (ok1.fr.mono fun v hv x => hden v (fun e => ?_) x) (v := .u) trivial a) (v := .u) trivial b) (v := .rd) rfl r
      subst e
      have : s1.fr.contains .rd = true := by simp [hv]
      rw [c9] at this; cases this
    · obtain ⟨p1, ty', kn', cs', p2, p3, p4, p5⟩ := okg.win.2 l e w' he hw'
      refine ⟨p1, ty', kn', cs', p2, p3, p4, fun o v hv => ?_⟩
      obtain ⟨y, y1, y2, y3⟩ := p5 o v hv
      rw [List.all_eq_true] at c10
      have := c10 w' (List.mem_of_getElem? hw')
      rw [List.all_eq_true] at this
      exact ⟨y, y1, y2, hden v (still_rd (this v (List.mem_of_getElem? hv))) y y3⟩
    · show (σ1.H.length :: σ1.η.lv.map Lv.b).Nodup
      rw [hlv1]
      simp; omega
    · have R1 := ok1.room
      refine Room.kt R1 hktR (AO_rb _) (fun i hi => (hAOR i).2 ⟨by simp at hi; omega, by simp at hi; omega⟩)
    · cases l with
      | zero => have hz' : s1.zs[0]? = some (some z) := hz; rw [c7] at hz'; simp at hz'
      | succ l => have hz' : s1.zs[l + 1]? = some (some z) := hz; rw [c7] at hz'; simp at hz'
  have hlnR : ({ η := { σ1.η with rb := σ1.H.length }, fr := ((σ1.fr.set a src).set b (.g [src, .b false])).set r (.p σ1.H.length 0), H := σ1.H ++ [.cells tR .vr [src, .b false]], nn := false, st := some bs, vs := [] } : Sta).η.ln.length = ({ η := { σ1.η with rb := σ1.H.length }, fr := ((σ1.fr.set a src).set b (.g [src, .b false])).set r (.p σ1.H.length 0), H := σ1.H ++ [.cells tR .vr [src, .b false]], nn := false, st := some bs, vs := [] } : Sta).η.lv.length := by
    show σ1.η.ln.length = σ1.η.lv.length
    rw [hln1, hlv1]; rfl
  have hout := chk_sound hC 400 _ _ _ hchk (some bs) _ okR hlnR
  -- what stays
  have hkeep1 : ∀ i bl, i ≠ mb → H[i]? = some bl → σ1.H[i]? = some bl := fun i bl hi hx => by
    by_cases h0 : i = rb0
    · have := st1.rbk rfl
      rw [h0] at hx ⊢
      exact this.trans hx
    · exact (st1.kt.2 i bl (by
        unfold AO; simp only [List.map_cons, List.map_nil, List.mem_cons, List.not_mem_nil, or_false, not_or]
        exact ⟨h0, hi⟩) hx).2
  have hl1 : H.length ≤ σ1.H.length := st1.kt.1
  have hres : fn.results.toList = [.tmp C.res] := by
    unfold oneRes at c11
    split at c11
    · rename_i t ht; cases c11; exact ht
    · cases c11
  have hcodes : flat code = (flat code).take 2 ++ (.region idr ops false :: (rest.take (rest.length - 2) ++ rest.drop (rest.length - 2))) := by
    rw [List.take_append_drop, ← hdrop, List.take_append_drop]
  have hdn : dec C.flex (nodes pl) bs = (runE C.flex s2.evs bs).map fun (vs, r) => (packV vs, r) := by rw [dec_nodes, places_evs _ h]
  have hca : ∀ {fr' : List AV} {H' : Heap} {v : AV}, RUs (rest.take (rest.length - 2) ++ rest.drop (rest.length - 2)) (((σ1.fr.set a src).set b (.g [src, .b false])).set r (.p σ1.H.length 0)) (σ1.H ++ [.cells tR .vr [src, .b false]]) (.ret, fr', H') → fr'[(C.res : Nat)]? = some v →
      CA P NS f [.p mb 0, src, .b false] H (v, H') := by
    intro fr' H' v hr hv
    have hcode2 : RU P NS code ([.p mb 0, src, .b false] ++ List.replicate (fn.ntmps - 3) (.t [])) H (.ret, fr', H') := by
      refine RUs.code (c := code) ?_
      rw [hcodes]
      exact RUs.app r1 (RUs.cons rmk hr)
    have hr2 : resultsA P H' fr' fn.results.toList = some [v] := by rw [hres]; simp [resultsA, hv]
    exact CA.go (fn := fn) (vs := [v]) hf hcode (.inr rfl) ⟨fr', hcode2, hr2⟩
  rcases hout with ⟨σ2, p1, p2, p3⟩ | ⟨fr', H', p1, p2, p3⟩
  · cases hst : σ2.st with
    | none =>
      have hrun := p2.run
      rw [hst] at hrun
      simp only [Option.bind_some] at hrun
      obtain ⟨σ3, t1, t2, t3, t4⟩ := runL_sound hC hI _ hbd p2 (fun m hm => by cases hm; rw [hst]; rfl)
      obtain ⟨x, x1, x2⟩ := FR.at_ t2.fr d2
      have x2 : x = .e := x2
      subst x2
      refine ⟨fun _ => ⟨_, hca (RUs.app p1 t1) x1⟩, fun v r hv => ?_⟩
      rw [hdn, hrun] at hv; cases hv
    | some r2 =>
      have hrun := p2.run
      rw [hst] at hrun
      obtain ⟨bs0, hb0, hrun⟩ := hrun
      cases hb0
      obtain ⟨σ3, t1, t2, t3, t4⟩ := runL_sound hC hI _ hg p2 (fun m hm => by cases hm; rw [hst]; rfl)
      have t4 := t4 (by simp)
      obtain ⟨x, x1, x2⟩ := FR.at_ t2.fr d1
      have x2 : x = .n := x2
      subst x2
      refine ⟨fun hn => absurd hn (by rw [hdn, hrun]; simp), fun v r' hv => ?_⟩
      rw [hdn, hrun] at hv
      simp only [Option.map_some, Option.some.injEq, Prod.mk.injEq] at hv
      obtain ⟨rfl, rfl⟩ := hv
      have st3 := p3.trans t3
      have hlv3 : σ3.η.lv = [⟨mb, 0, 0⟩] := by
        have := st3.lv.eq (by rw [← t2.win.1, d3, hwin]; show 1 = σ1.η.lv.length; rw [hlv1]; rfl)
        rw [this]; exact hlv1
      have hrb3 : σ3.η.rb = σ1.H.length := st3.rb
      have hkeep2 : ∀ i bl, i ≠ mb → i < σ1.H.length → σ1.H[i]? = some bl → σ3.H[i]? = some bl := fun i bl hi hlt hx =>
        (st3.kt.2 i bl ((hAOR i).2 ⟨by omega, hi⟩) (by show (σ1.H ++ [Blk.cells tR .vr [src, .b false]])[i]? = _; rw [List.getElem?_append_left hlt]; exact hx)).2
      obtain ⟨e0, ty0, kn0, cs0, f1, f2, f3, f4⟩ := t2.win.2 0 ⟨mb, 0, 0⟩ w (by rw [hlv3]; rfl) (by rw [d3, hwin]; rfl)
      -- the message's block
      obtain ⟨cs1, g1, g2, _⟩ := st1.side 0 ⟨mb, 0, 0⟩ w0 ty .vr cs rfl rfl hm
      obtain ⟨cs3, k1, k2, _⟩ := st3.side 0 ⟨mb, 0, 0⟩ (s1.win[0]'(by omega)) ty .vr cs1 (by show σ1.η.lv[0]? = _; rw [hlv1]; rfl) (by simp) (by show (σ1.H ++ [Blk.cells tR .vr [src, .b false]])[mb]? = _; rw [List.getElem?_append_left hmbl]; exact g1)
      have k1 : σ3.H[mb]? = some (.cells ty .vr cs3) := k1
      have f1 : σ3.H[mb]? = some (.cells ty0 kn0 cs0) := f1
      rw [k1] at f1
      cases f1
      have hwl : w.length = cs0.length := by
        obtain ⟨w1, y1, y2⟩ := st1.wl 0 w0 rfl
        obtain ⟨w2, y3, y4⟩ := st3.wl 0 w1 y1
        rw [d3, hwin] at y3
        simp at y3
        subst y3
        rw [y4, y2, ← hcs, k2, g2]
      have hbase : sg.base = 1 := by
        have a1 : sg.base = s1.base := st3.base
        have a2 : s1.base = 1 := st1.base
        rw [a1, a2]
      have hst3 : σ3.st = some r2 := by rw [t4.1, hst]
      have hrun3 := t2.run
      rw [hst3] at hrun3
      obtain ⟨bs1, hb1', hrun3⟩ := hrun3
      cases hb1'
      rw [t4.2, hrun] at hrun3
      have hvs : σ3.vs = σ2.vs := by
        simp only [Option.some.injEq, Prod.mk.injEq] at hrun3
        exact hrun3.1.symm
      refine ⟨_, cs0, σ1.H.length, hca (RUs.app p1 t1) x1, ?_, fun i bl hi hx => hkeep2 i bl hi (by have := (List.getElem?_eq_some_iff.1 hx).1; omega) (hkeep1 i bl hi hx), k1, by rw [k2, g2], hl1, ?_, fun o v c hv hc => ?_⟩
      · have : (σ1.H ++ [Blk.cells tR .vr [src, .b false]]).length ≤ σ3.H.length := st3.kt.1
        simp at this; omega
      · have hA3 : AO σ3.η = fun i => i ∉ [σ1.H.length, mb] := by
          funext i
          unfold AO
          rw [hlv3, hrb3]; rfl
        rw [← hA3]
        refine places_rep (η := σ3.η) (w := w) hwl.symm (fun o v hv => ?_) h (runE_length hrun) (fun i hi => ?_) (fun i ev v x y1 y2 y3 => ?_) (fun i ev x y1 y3 => ?_)
        · obtain ⟨y, y1, _, y3⟩ := f4 o v hv
          exact ⟨y, by simpa using y1, y3⟩
        · have := t2.avl
          rw [hbase, t4.2] at this
          exact ⟨σ3.η.av[1 + i]'(by omega), by simp⟩
        · exact t2.rep (by rw [hst3]; rfl) i ev v x (by rw [t4.2]; exact y1) (by rw [hvs]; exact y2) (by rw [hbase]; exact y3)
        · exact t2.wid i ev x (by rw [t4.2]; exact y1) (by rw [hbase]; exact y3)
      · obtain ⟨y, y1, _, y3⟩ := f4 o v hv
        rw [con_den hc y3] at y1
        simpa using y1
  · refine ⟨fun _ => ⟨H', hca (RUs.appx _ p1 (by simp)) p2⟩, fun v r hv => ?_⟩
    simp only [Option.bind_some] at p3
    rw [hdn, p3] at hv; cases hv
end Go.Proofs.YtopfghmpaobnnaaDoor.Rd

