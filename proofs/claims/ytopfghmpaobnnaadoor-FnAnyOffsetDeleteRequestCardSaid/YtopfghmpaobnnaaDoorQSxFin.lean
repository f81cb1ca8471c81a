import Derived.Test.YtopfghmpaobnnaaDoorQSxChk
/-
  THE CHECKER is sound: what is accepted reads what it says.
-/
namespace Go.Proofs.YtopfghmpaobnnaaDoor.Rd
set_option linter.constructorNameAsVariable false
set_option linter.unusedVariables false
set_option linter.unusedSimpArgs false
open Go Go.Proofs.YtopfghmpaobnnaaDoor.Ax Go.Proofs.YtopfghmpaobnnaaDoor.Wire
set_option linter.unusedVariables false
set_option linter.unusedSimpArgs false
set_option maxRecDepth 100000

theorem FR.havoc {η : Env} : ∀ (ds : List Nat) {sf : SF} {fr : List AV}, FR η sf fr → FR η (ds.foldl (fun fr t => fr.set t .u) sf) fr
  | [], sf, fr, h => h
  | t :: r, sf, fr, h => by
    refine FR.havoc r ⟨by simp [h.1], fun u v a hv ha => ?_⟩
    rw [List.getElem?_set] at hv
    split at hv
    · split at hv
      · cases hv; trivial
      · cases hv
    · exact h.2 u v a hv ha
theorem havoc_length : ∀ (ds : List Nat) (sf : SF), (ds.foldl (fun fr t => fr.set t SV.u) sf).length = sf.length
  | [], sf => rfl
  | t :: r, sf => by simp only [List.foldl_cons]; rw [havoc_length r]; simp
theorem FR.set_at {η : Env} {sf : SF} {fr : List AV} (h : FR η sf fr) {t : Nat} {v : SV} (hv : ∀ a, fr[t]? = some a → den η v a) : FR η (sf.set t v) fr := by
  refine ⟨by simp [h.1], fun u x a hx ha => ?_⟩
  rw [List.getElem?_set] at hx
  split at hx
  · rename_i e; subst e
    split at hx
    · cases hx; exact hv a ha
    · cases hx
  · exact h.2 u x a hx ha
theorem sameF_spec : ∀ {a b : SF}, sameF a b = true → ∀ (t : Nat) (v : SV), a[t]? = some v → v = .u ∨ b[t]? = some v := by
  intro a b h t v hv
  unfold sameF at h
  rw [Bool.and_eq_true] at h
  obtain ⟨hl, ha⟩ := h
  have hl : a.length = b.length := by simpa using hl
  have ht := (List.getElem?_eq_some_iff.1 hv).1
  rw [List.all_eq_true] at ha
  have hb : b[t]? = some b[t] := by simp
  have := ha (v, b[t]) (by
    rw [List.mem_iff_getElem?]
    exact ⟨t, by rw [List.getElem?_zip_eq_some]; exact ⟨hv, hb⟩⟩)
  simp only [Bool.or_eq_true, beq_iff_eq] at this
  rcases this with h | h
  · exact .inl h
  · exact .inr (by rw [hb, h])
theorem take_drop_one {α : Type} {l W : List α} {x : α} {n : Nat} (h1 : l.take n = W) (h2 : l.drop n = [x]) : l = W ++ [x] := by
  rw [← h1, ← h2, List.take_append_drop]

theorem list_dec (flex : Bool) (sz : Nat) (null : Bool) (f : F) (r : B) : (Ev.list sz null f).dec flex r = (rdL flex r).bind fun (l, bs) => if null && l < 0 then some (V.nul, bs) else (many (dec flex f) l.toNat bs).map fun (vs, bs) => (V.l vs, bs) := rfl

theorem nullOf_zero {l n : Nat} {p z m : SF} : True := trivial

theorem chkSeg_sound {C : Cfg} (hC : Prims C) {rec : List Code → SS → Option SS} (he : ∀ cs s s', rec cs s = some s' → ∃ l, s'.evs = s.evs ++ l)
    (ih : ∀ cs s s', rec cs s = some s' → ∀ st0 σ, OK C st0 s σ → σ.η.ln.length = σ.η.lv.length → Outcome C cs st0 s s' σ)
    {s s' : SS} {d : Nat} {x : Operand} {r : List Oper} {ops : Array Oper} {id0 : Nat} {rest : List Code} (hl : lenOp C ops.toList = some (d, x, r)) (h : chkSeg C rec s d x r ops.toList rest = some s')
    {st0 : Option B} {σ : Sta} (ok : OK C st0 s σ) (hlv : σ.η.ln.length = σ.η.lv.length) : Outcome C (.region id0 ops false :: rest) st0 s s' σ := by
  obtain ⟨f, args, ats, ty, pos, af, hops, hlk, hargs⟩ := lenOp_spec hl
  have hI := inlS_ok hC 6
  unfold chkSeg at h
  split at h
  rotate_left
  · cases h
  rename_i hc0
  obtain ⟨hx, hfq, hwq, hzc, hst, hry⟩ := hc0
  simp only at h
  split at h
  rotate_left
  · cases h
  rename_i s1 idb b tail hs1 hdrop
  split at h
  rotate_left
  · cases h
  rename_i sb s0 sn sp it hrb hr0 hrn hrp hit
  split at h
  rotate_left
  · cases h
  rename_i w0 hw0
  split at h
  rotate_left
  · cases h
  rename_i s2 j s4 j' s3 hbody hex hex'
  split at h
  rotate_left
  · cases h
  rename_i w1 hw1
  split at h
  rotate_left
  · cases h
  rename_i pl hpl
  split at h
  rotate_left
  · cases h
  rename_i hc
  obtain ⟨a1, rfl, a3, a4, a5, a6, a7, a8, a9, a10, a11, a12, a13, a14, a15, a16, a17, rfl, rfl, a20, a21, len3, len0, lenn, ry3, ry0, ryn⟩ := hc
  -- the length is read
  obtain ⟨xa, e1, rfl⟩ := evS_sound ok.fr hx
  obtain ⟨lv, H1, st1, ca, rd1, hl1, hk, hres⟩ := num_both (hC _ _ hlk rfl) ok.room (ok.rd hry)
  obtain ⟨okL, mvL⟩ := ok.len (n := lv) rd1 hl1 hk hfq hwq hzc hlv d
  obtain ⟨σ1, os1, ok1, step1, _⟩ := opsS_sound hC hI (ops := ops) r hs1 okL (fun m hm => by cases hm)
  have hreg : RU P NS (.region id0 ops false) σ.fr σ.H (.normal, σ1.fr, σ1.H) := by
    refine RU.region ?_
    rw [hops]
    exact One.os (o := ⟨some d, .call { callee := .value (.func f), args := args, argTypes := ats }, ty, pos, af, none⟩) rfl (.call rfl (evl1 hargs e1) ca) os1
  have hst1 : σ1.st = st1 := ok1.st_nil a15
  have mv1 : Mv s.win σ σ1 := mvL.trans (fun l w hw => ⟨w, hw, rfl⟩) step1.mv
  have hlq : σ1.η.lq = lv := step1.lq
  have hln1 : σ1.η.ln = σ.η.ln ++ [lv.toNat] := step1.ln
  have hrest : rest = rest.takeWhile (fun c => !isLoop c) ++ (.block j' (.loop b) :: tail) := by rw [← hdrop, List.takeWhile_append_dropWhile]
  have hwlen : σ.η.lv.length = s.win.length := ok.win.1.symm
  have hE := he _ _ _ h
  have hf1 : s1.fr.length = s.fr.length := by have := step1.frl; simpa using this
  -- what is common to the ends of the list
  have fin : ∀ {stX : Option B} {sX : SS} {σX : Sta} {y : AV} {fr2 : SF}, fr2 = joinF s.win.length (s.base + s.evs.length) (if nullOf s.win.length (s.base + s.evs.length) s3.fr s0.fr sn.fr then .z .se else .z .s0) s3.fr s0.fr sn.fr →
      OK C stX sX σX → Mv s.win σ σX → sX.win.take s.win.length = s.win → sX.zs.take s.win.length = s.zs → sX.rdy = true → y.cells.length = 1 → y.cells.all AV.one = true →
      (match σ.st.bind ((Ev.list w0.length (nullOf s.win.length (s.base + s.evs.length) s3.fr s0.fr sn.fr) (nodes pl)).dec C.flex) with | none => σX.st = none | some (v, r) => σX.st = some r ∧ RepE (AO σ.η) σX.H (.list w0.length (nullOf s.win.length (s.base + s.evs.length) s3.fr s0.fr sn.fr) (nodes pl)) v y) →
      ∀ K : SV, ((sX.fr = s3.fr ∧ K = .row s.win.length) ∨ (sX.fr = s0.fr ∧ K = (if nullOf s.win.length (s.base + s.evs.length) s3.fr s0.fr sn.fr then .z .se else .z .s0)) ∨ (sX.fr = sn.fr ∧ K = .z .s0)) → s3.fr.length = s.fr.length → s0.fr.length = s.fr.length → sn.fr.length = s.fr.length →
      (∀ a, den σX.η K a → y = a) →
      RUs (rest.takeWhile (fun c => !isLoop c) ++ [.block j' (.loop b)]) σ1.fr σ1.H (.normal, σX.fr, σX.H) → Outcome C (.region id0 ops false :: rest) st0 s s' σ := by
    intro stX sX σX y fr2 hfr2 okX mvX hwX hzX hryX hy1 hy2 hresX K hsel l3 l0 ln' hk1 hrun
    subst hfr2
    have hselen : sX.fr.length = s.fr.length := by rcases hsel with ⟨e, _⟩ | ⟨e, _⟩ | ⟨e, _⟩ <;> rw [e] <;> assumption
    have hFR : FR { σ.η with av := σ.η.av ++ [y] } (joinF s.win.length (s.base + s.evs.length) (if nullOf s.win.length (s.base + s.evs.length) s3.fr s0.fr sn.fr then .z .se else .z .s0) s3.fr s0.fr sn.fr) σX.fr := by
      refine FR.join (sel := sX.fr) hsel okX.fr (by omega) (by omega) (by omega) (fun a ha => ?_) (fun v a hh hd => ?_)
      · rw [← hk1 a ha, ← ok.avl]; simp
      · refine den_low (η := σX.η) (η2 := { σ.η with av := σ.η.av ++ [y] }) hh mvX.rb.symm (fun k e hkl hke => ?_) (fun k e hkl hke => ?_) (fun k e hkl hke => ?_) hd
        · have hx : σ.η.lv[k]? = some (σ.η.lv[k]'(by omega)) := by simp
          have := mvX.lv k _ hkl hx
          rw [hke] at this
          show σ.η.lv[k]? = some e
          rw [hx, this]
        · have hx : σ.η.ln[k]? = some (σ.η.ln[k]'(by omega)) := by simp
          have := mvX.ln.at_ k _ hx
          rw [hke] at this
          show σ.η.ln[k]? = some e
          rw [hx, this]
        · have hx : σ.η.av[k]? = some (σ.η.av[k]'(by rw [ok.avl]; omega)) := by simp
          have := mvX.av.at_ k _ hx
          rw [hke] at this
          show (σ.η.av ++ [y])[k]? = some e
          rw [List.getElem?_append_left (by rw [ok.avl]; omega), hx, this]
    obtain ⟨vs, okF, stepF⟩ := ok.list okX mvX hlv hwX hzX hryX hry hzc hst hy1 hy2 hresX hFR (by rw [joinF_length _ _ _ _ _ _ s.fr.length l3 l0 ln'])
    rcases ih _ _ _ h st0 _ okF hlv with ⟨σ', q1, q2, q3⟩ | ⟨fr', H', q1, q2, q3⟩
    · refine .inl ⟨σ', RUs.cons hreg ?_, q2, stepF.trans q3⟩
      rw [hrest, show rest.takeWhile (fun c => !isLoop c) ++ (Code.block j' (.loop b) :: tail) = (rest.takeWhile (fun c => !isLoop c) ++ [.block j' (.loop b)]) ++ tail by simp]
      have := RUs.app hrun q1
      simpa using this
    · refine .inr ⟨fr', H', RUs.cons hreg ?_, q2, q3⟩
      rw [hrest, show rest.takeWhile (fun c => !isLoop c) ++ (Code.block j' (.loop b) :: tail) = (rest.takeWhile (fun c => !isLoop c) ++ [.block j' (.loop b)]) ++ tail by simp]
      have := RUs.app hrun q1
      simpa using this
  have ok1s : ∀ v : SV, (∀ a, den σ1.η .lq a → den σ1.η v a) → OK C st1 { s1 with fr := substF v s1.fr } σ1 := fun v hv => ok1.fr_to (ok1.fr.subst hv)
  have hsub : ∀ v, (substF v s1.fr).length = s.fr.length := fun v => by simp [substF, hf1]
  have hzlen : s.zs.length = s.win.length := ok.zl
  cases hst2 : st1 with
  | none =>
    have hd : σ.st.bind (rdL C.flex) = none ∧ lv = 0 := by
      split at hres
      · rename_i hd; exact ⟨hd, hres.2⟩
      · rw [hst2] at hres; cases hres.1
    obtain ⟨hd, rfl⟩ := hd
    obtain ⟨σb, q1, q2, q3, q4⟩ := runL_sound hC hI _ hrb (ok1s (.i .i32 0) (fun a ha => by
      have ha : a = .i .i32 σ1.η.lq := ha
      rw [ha, hlq]; rfl)) (fun m hm => by cases hm; rw [hst1, hst2]; rfl)
    obtain ⟨a, ha, hav⟩ := FR.at_ q2.fr a1
    have hav : a = .e := hav
    subst hav
    refine .inr ⟨σb.fr, σb.H, RUs.cons hreg (by rw [hrest]; exact RUs.appx _ q1 (by simp [XS.ax])), ha, ?_⟩
    obtain ⟨more, hm⟩ := hE
    rw [hm]
    refine run_more (ok.run_none ?_) more
    cases hs : σ.st with
    | none => rfl
    | some r0 =>
      rw [hs] at hd
      simp only [Option.bind_some] at hd ⊢
      rw [list_dec, hd]; rfl
  | some r1 =>
    have hd : ∃ r0, σ.st = some r0 ∧ rdL C.flex r0 = some (lv, r1) := by
      split at hres
      · rw [hst2] at hres; cases hres.1
      · rename_i v r hd
        obtain ⟨h1, rfl⟩ := hres
        rw [hst2] at h1; cases h1
        cases hs : σ.st with
        | none => rw [hs] at hd; cases hd
        | some r0 => rw [hs] at hd; exact ⟨r0, rfl, hd⟩
    obtain ⟨r0, hs0, hrd⟩ := hd
    obtain ⟨hin, hle⟩ := rdL_ok hrd
    have hin2 : lv < 2147483648 := by have := hin.2; simpa using this
    have hdec : ∀ null : Bool, σ.st.bind ((Ev.list w0.length null (nodes pl)).dec C.flex) = if null && lv < 0 then some (V.nul, r1) else (many (dec C.flex (nodes pl)) lv.toNat r1).map fun (vs, bs) => (V.l vs, bs) := fun null => by
      rw [hs0]
      simp only [Option.bind_some]
      rw [list_dec, hrd]; rfl
    rcases Int.lt_trichotomy lv 0 with hneg | hzero | hpos
    · -- below 0
      obtain ⟨σn, q1, q2, q3, q4⟩ := runL_sound hC hI _ hrn (ok1s .neg (fun a ha => by
        have ha : a = .i .i32 σ1.η.lq := ha
        exact ⟨lv, by rw [ha, hlq], hneg⟩)) (fun m hm => by cases hm; rw [hst1, hst2]; rfl)
      have q4 := q4 (by simp)
      have hl0 := q3.frl
      refine fin (y := .s0) rfl q2 (mv1.trans step1.wl q3.mv) (by rw [a9]; simp) (by rw [a12, ← hzlen]; simp) ryn rfl rfl ?_ (.z .s0) (.inr (.inr ⟨rfl, rfl⟩)) len3 len0 lenn (fun a ha => ?_) q1
      · rw [hdec]
        have hn0 : lv.toNat = 0 := by omega
        by_cases hnl : nullOf s.win.length (s.base + s.evs.length) s3.fr s0.fr sn.fr = true
        · rw [hnl]
          simp only [Bool.true_and, hneg, decide_true, if_true]
          exact ⟨by rw [q4.1, hst1, hst2], rfl, rfl⟩
        · have hnl : nullOf s.win.length (s.base + s.evs.length) s3.fr s0.fr sn.fr = false := by simpa using hnl
          rw [hnl, hn0]
          simp only [Bool.false_and, Bool.false_eq_true, if_false, many, Option.map_some]
          exact ⟨by rw [q4.1, hst1, hst2], .inl ⟨rfl, rfl⟩⟩
      · exact ha.symm
    · -- none
      subst hzero
      obtain ⟨σz, q1, q2, q3, q4⟩ := runL_sound hC hI _ hr0 (ok1s (.i .i32 0) (fun a ha => by
        have ha : a = .i .i32 σ1.η.lq := ha
        rw [ha, hlq]; rfl)) (fun m hm => by cases hm; rw [hst1, hst2]; rfl)
      have q4 := q4 (by simp)
      refine fin (y := if nullOf s.win.length (s.base + s.evs.length) s3.fr s0.fr sn.fr then .se else .s0) rfl q2 (mv1.trans step1.wl q3.mv) (by rw [a8]; simp) (by rw [a11, ← hzlen]; simp) ry0 (by split <;> rfl) (by split <;> rfl) ?_ _ (.inr (.inl ⟨rfl, rfl⟩)) len3 len0 lenn (fun a ha => ?_) q1
      · rw [hdec]
        simp only [Int.lt_irrefl, decide_false, Bool.and_false, Bool.false_eq_true, if_false, Int.toNat_zero, many, Option.map_some]
        exact ⟨by rw [q4.1, hst1, hst2], .inl ⟨rfl, rfl⟩⟩
      · split at ha
        · rename_i hn; rw [if_pos hn]; exact ha.symm
        · rename_i hn; rw [if_neg hn]; exact ha.symm
    · -- some
      have hN : ((lv.toNat : Nat) : Int) = lv := by omega
      have hln2 : σ1.η.ln[s.win.length]? = some lv.toNat := by rw [hln1, ← hwlen, ← hlv]; simp
      obtain ⟨σp, q1, q2, q3, q4⟩ := runL_sound hC hI _ hrp (ok1s (.len s.win.length) (fun a ha => by
        have ha : a = .i .i32 σ1.η.lq := ha
        exact ⟨lv.toNat, hln2, by rw [ha, hlq, hN], by omega, by omega⟩)) (fun m hm => by cases hm; rw [hst1, hst2]; rfl)
      have q4 := q4 (by simp)
      have hpe : sp.evs = [] := by rw [q4.2]; exact a15
      have hpst : σp.st = some r1 := by rw [q4.1, hst1, hst2]
      have hpw : sp.win = s.win ++ [w0] := take_drop_one a7 hw0
      have hpw2 : s2.win = s.win ++ [w1] := take_drop_one a6 hw1
      have hpl1 : σp.η.lv.length = s.win.length + 1 := by rw [← q2.win.1, hpw]; simp
      have hpln : σp.η.ln = σ1.η.ln := q3.ln
      have hpl2 : σp.η.ln.length = s.win.length + 1 := by rw [hpln, hln1, ← hwlen, ← hlv]; simp
      have hpN : σp.η.ln[s.win.length]? = some lv.toNat := by rw [hpln]; exact hln2
      have he0 : σp.η.lv[s.win.length]? = some (σp.η.lv[s.win.length]'(by omega)) := by simp
      generalize σp.η.lv[s.win.length]'(by omega) = e at he0
      have hplive : sp.live = s.win.length := by
        have h1 : sp.live = s1.live := q3.live
        have h2 : s1.live = s.win.length := step1.live
        rw [h1, h2]
      have hej : e.j = 0 := q2.lvj _ e (by rw [hplive]; exact Nat.le_refl _) he0
      have hpbase : sp.base = s.base + s.evs.length := by
        have h1 : sp.base = s1.base := q3.base
        have h2 : s1.base = s.base + s.evs.length := step1.base
        rw [h1, h2]
      have hpf : sp.fr.length = s.fr.length := by have h1 := q3.frl; have h1 : sp.fr.length = (substF (SV.len s.win.length) s1.fr).length := h1; rw [h1, hsub]
      have hitl : it < sp.fr.length := (List.getElem?_eq_some_iff.1 a3).1
      have hFRh : FR σp.η (headF s.win.length it b sp.fr) σp.fr := by
        refine FR.set_at (FR.havoc _ q2.fr) (fun a ha => ?_)
        have := q2.fr.2 it _ a a3 ha
        have hz : a = .i .i32 0 := this
        exact ⟨e, lv.toNat, he0, hpN, by rw [hz, hej]; rfl, by rw [hej]; omega, by omega⟩
      have okH : OK C σp.st { sp with fr := headF s.win.length it b sp.fr, live := s.win.length + 1 } σp :=
        ⟨hFRh, q2.win, q2.ln, q2.nd, q2.room, q2.rd, q2.rbl, q2.avl, q2.one, q2.wid, q2.zl, q2.zer, fun l e hle he => q2.lvj l e (by rw [hplive]; exact Nat.le_trans (Nat.le_succ _) hle) he, by rw [hpst]; have := q2.run; rw [hpst, hst2] at this; exact this, q2.rep⟩
      have hhl : (headF s.win.length it b sp.fr).length = sp.fr.length := by unfold headF; rw [List.length_set, havoc_length]
      have hidx : (headF s.win.length it b sp.fr)[it]? = some (.idx s.win.length) := by
        unfold headF
        rw [List.getElem?_set_self (by rw [havoc_length]; exact hitl)]
      have hother : ∀ t (v : SV), t ≠ it → (headF s.win.length it b sp.fr)[t]? = some v → ((headF s.win.length it b sp.fr).set it .u)[t]? = some v := fun t v ht hv => by rw [List.getElem?_set, if_neg (fun x => ht x.symm)]; exact hv
      have hmvp : Mv s.win σ σp := mv1.trans step1.wl q3.mv
      rcases loop_sound (C := C) (sH := { sp with fr := headF s.win.length it b sp.fr, live := s.win.length + 1 }) (s2 := s2) (s3 := s3) (b := b) (it := it) (id := j') (l := s.win.length) (W := s.win) (Z := s.zs) (w0 := w0) (w1 := w1) (pl := pl) (nb := e.b) (N := lv.toNat) (r1 := r1)
        (fun σ2 ok2 hl2 => ih _ _ _ hbody _ σ2 ok2 hl2)
        (fun σ2 ok2 => by
          cases hs : σ2.st.isSome with
          | true =>
            obtain ⟨σ3, p1, p2, p3, p4⟩ := runS_sound hC hI _ b hex ok2 (fun m hm => by cases hm; exact hs)
            exact ⟨σ3, p1, p2, p3, (p4 (by simp)).1⟩
          | false =>
            obtain ⟨σ3, p1, p2, p3, p4⟩ := runS_sound hC hI _ b hex' ok2 (fun m hm => by cases hm; exact hs)
            exact ⟨σ3, p1, p2, p3, (p4 (by simp)).1⟩)
        hpw rfl hpw2 a20 a14 hzc a21 hst hpe rfl (by show places w1 sp.base s2.evs = some pl; rw [hpbase]; exact hpl) (by show it < (headF s.win.length it b sp.fr).length; rw [hhl]; exact hitl) a4 hidx
        (fun t v ht hv => sameF_spec a5 t v (hother t v ht hv)) (fun t v ht hv => by
          rw [List.all_eq_true] at a16
          exact a16 v (List.mem_of_getElem? (hother t v ht hv)))
        (lv.toNat - 1) 0 σp [] (by omega) okH hpl1 hpl2 hpN (by omega) ⟨e, he0, hej, rfl⟩ (by
          unfold Acc
          rw [hpst]
          exact ⟨rfl, fun q x hq => by simp at hq⟩) with ⟨fr', H', p1, p2, p3⟩ | ⟨σ', us, p1, p2, p3, ⟨e', p4, p5⟩, p6⟩
      · refine .inr ⟨fr', H', RUs.cons hreg (by rw [hrest]; exact RUs.app q1 (RUs.stop (RU.blockR p1) (by simp))), p2, ?_⟩
        obtain ⟨more, hm⟩ := hE
        rw [hm]
        refine run_more (ok.run_none ?_) more
        rw [hdec, p3]
        have : decide (lv < 0) = false := by simp; omega
        simp [this]
      · have hnb : AO σ.η e.b := by
          intro hm
          rw [List.mem_cons] at hm
          rw [← p5] at hm
          rcases hm with hm | hm
          · have := nd_rb p2.nd p4
            rw [p3.rb, hmvp.rb] at this
            exact this hm
          · obtain ⟨ek, hek, hb⟩ := List.mem_map.1 hm
            obtain ⟨k, hkk⟩ := List.mem_iff_getElem?.1 hek
            have hkl : k < s.win.length := by rw [← hwlen]; exact (List.getElem?_eq_some_iff.1 hkk).1
            have := nd_lv p2.nd (p3.lv k ek hkl (hmvp.lv k ek hkl hkk)) p4 hb
            omega
        have hmvE : Mv s.win σ σ' := hmvp.trans (fun l w hw => ⟨w, hw, rfl⟩) p3
        have hAO : ∀ i, AO σ'.η i → AO σ.η i := fun i hi hm => by
          apply hi
          rw [List.mem_cons] at hm ⊢
          rcases hm with rfl | hm
          · exact .inl hmvE.rb.symm
          · obtain ⟨e2, he2, rfl⟩ := List.mem_map.1 hm
            obtain ⟨k, hk⟩ := List.mem_iff_getElem?.1 he2
            exact .inr (List.mem_map.2 ⟨e2, List.mem_of_getElem? (hmvE.lv k e2 (by rw [← hwlen]; exact (List.getElem?_eq_some_iff.1 hk).1) hk), rfl⟩)
        refine fin (y := .sl e.b 0 lv.toNat) rfl p2 hmvE a10 a13 ry3 rfl rfl ?_ (.row s.win.length) (.inl ⟨rfl, rfl⟩) len3 len0 lenn (fun a ha => ?_) (RUs.app q1 (RUs.cons (RU.block0 p1) rfl))
        · rw [hdec]
          have hd0 : decide (lv < 0) = false := by simp; omega
          simp only [hd0, Bool.and_false, Bool.false_eq_true, if_false]
          unfold Acc at p6
          cases hs : σ'.st with
          | none => rw [hs] at p6; rw [p6]; rfl
          | some r2 =>
            rw [hs] at p6
            obtain ⟨p7, p8⟩ := p6
            rw [p7]
            have hul := many_length _ p7
            refine ⟨rfl, .inr ?_⟩
            have hu0 : 0 < us.length := by omega
            obtain ⟨ty1, bl, t1, t2, t3⟩ := p8 0 us[0] (by simp)
            refine ⟨e.b, ty1, bl, hu0, hnb, by rw [hul], t1, by rw [t2, hul], fun q x hq => ?_⟩
            obtain ⟨ty2, bl2, u1, u2, u3⟩ := p8 q x hq
            rw [t1] at u1; cases u1
            exact Rep.kt (KT.sub hAO _) u3
        · obtain ⟨e2, n2, h1, h2, rfl⟩ := ha
          rw [p4] at h1; cases h1
          have : σ'.η.ln[s.win.length]? = some lv.toNat := p3.ln.at_ _ _ hpN
          rw [this] at h2; cases h2
          rw [p5]
theorem chk_sound {C : Cfg} (hC : Prims C) (n : Nat) : ∀ cs s s', chk C n cs s = some s' → ∀ st0 σ, OK C st0 s σ → σ.η.ln.length = σ.η.lv.length → Outcome C cs st0 s s' σ := by
  induction n with
  | zero => intro cs s s' h; cases h
  | succ n ih =>
    intro cs s s' h st0 σ ok hlv
    have h : chkStep C (chk C n) cs s = some s' := h
    unfold chkStep at h
    split at h
    · simp at h; subst h
      exact .inl ⟨σ, rfl, ok, .refl _ _⟩
    · split at h
      · rename_i hl
        exact chkSeg_sound hC (chk_evs n) ih hl h ok hlv
      · cases h2 : opsS C none (inlS C 6) _ _ _ with
        | none => rw [h2] at h; cases h
        | some s2 =>
          rw [h2] at h
          simp only [Option.bind_some] at h
          obtain ⟨σ2, q1, q2, q3, _⟩ := opsS_sound hC (inlS_ok hC 6) _ h2 ok (fun m hm => by cases hm)
          exact Outcome.cons (RU.region q1) q3 (ih _ _ _ h st0 σ2 q2 (q3.lnl q2 hlv))
    · split at h
      · rename_i hc
        obtain ⟨xa, e1, rfl⟩ := evS_sound ok.fr hc
        exact Outcome.flat (fun _ _ hr => RU.condT e1 hr) (fun _ _ hr => RU.condT e1 hr) (ih _ _ _ h st0 σ ok hlv)
      · rename_i hc
        obtain ⟨xa, e1, rfl⟩ := evS_sound ok.fr hc
        exact Outcome.flat (fun _ _ hr => RU.condF e1 hr) (fun _ _ hr => RU.condF e1 hr) (ih _ _ _ h st0 σ ok hlv)
      · cases h
    · exact Outcome.flat (fun _ _ hr => RU.blockN hr) (fun _ _ hr => RU.blockR hr) (ih _ _ _ h st0 σ ok hlv)
    · cases h
end Go.Proofs.YtopfghmpaobnnaaDoor.Rd

