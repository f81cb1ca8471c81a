/-
  THE CHECKER: a value that goes through a block of its own is read, laid there by one region and taken from there by the next.
-/
import Derived.Test.YtiifcfngbbhgoagDoorQSxLoop
set_option linter.constructorNameAsVariable false
set_option linter.unusedVariables false
set_option linter.unusedSimpArgs false
namespace Go.Proofs.YtiifcfngbbhgoagDoor.Rd
open Go Go.Proofs.YtiifcfngbbhgoagDoor.Ax Go.Proofs.YtiifcfngbbhgoagDoor.Wire
set_option maxRecDepth 100000
theorem takes_spec {q : Nat} {T : TypeId} {o : Oper} {e : Nat} (h : takes q T o = some e) : ∃ ty pos af, o = ⟨some e, .load T (.tmp q), ty, pos, af, none⟩ := by
  unfold takes at h
  split at h
  · split at h
    · rename_i hc
      obtain ⟨rfl, rfl⟩ := hc
      simp at h; subst h
      exact ⟨_, _, _, rfl⟩
    · cases h
  · cases h
theorem splitT_spec {q : Nat} {T : TypeId} : ∀ {l pre post : List Oper} {e : Nat}, splitT q T l = some (pre, e, post) → ∃ ty pos af, l = pre ++ ⟨some e, .load T (.tmp q), ty, pos, af, none⟩ :: post ∧ ∀ o ∈ pre, o.dst ≠ some q
  | [], _, _, _, h => by cases h
  | o :: r, pre, post, e, h => by
    unfold splitT at h
    split at h
    · rename_i e' he
      simp at h
      obtain ⟨rfl, rfl, rfl⟩ := h
      obtain ⟨ty, pos, af, rfl⟩ := takes_spec he
      exact ⟨ty, pos, af, rfl, fun o ho => by cases ho⟩
    · split at h
      · cases h
      · rename_i hd
        simp only [Option.map_eq_some_iff] at h
        obtain ⟨⟨a, e1, b⟩, h1, h2⟩ := h
        simp at h2
        obtain ⟨rfl, rfl, rfl⟩ := h2
        obtain ⟨ty, pos, af, hl, hn⟩ := splitT_spec h1
        refine ⟨ty, pos, af, by rw [hl]; rfl, fun x hx => ?_⟩
        rcases List.mem_cons.1 hx with rfl | hx
        · exact hd
        · exact hn x hx
theorem putA_ne {fr : List AV} {d : Option Tmp} {a : AV} {q : Nat} (h : d ≠ some q) : (putA fr d a)[q]? = fr[q]? := by
  cases d with
  | none => rfl
  | some t =>
    have ht : t ≠ q := fun e => h (by rw [e])
    show (fr.set t a)[q]? = _
    rw [List.getElem?_set, if_neg ht]
theorem opsS_walk {C : Cfg} {inl : Inl} (hC : Prims C) (hI : InlOK C inl) {ops : Array Oper} {q : Nat} : ∀ (l : List Oper) {s s1 : SS}, opsS C none inl ops.toList l s = some s1 → (∀ o ∈ l, o.dst ≠ some q) → ∀ {st0 : Option B} {σ : Sta}, OK C st0 s σ →
    ∃ σ1, (∀ rest r, OS P NS ops rest σ1.fr σ1.H r → OS P NS ops (l ++ rest) σ.fr σ.H r) ∧ OK C st0 s1 σ1 ∧ Step s s1 σ σ1 ∧ σ1.fr[q]? = σ.fr[q]?
  | [], s, s1, hs, hn, st0, σ, h => by
    simp [opsS] at hs; subst hs
    exact ⟨σ, fun rest r x => x, h, .refl s σ, rfl⟩
  | o :: l, s, s1, hs, hn, st0, σ, h => by
    have ho := hn o List.mem_cons_self
    have hl := fun x hx => hn x (List.mem_cons_of_mem o hx)
    unfold opsS at hs
    split at hs
    · rename_i hg
      have hg := wantS_sound h.fr hg
      cases h2 : opS C none inl o s with
      | none => rw [h2] at hs; cases hs
      | some s2 =>
        rw [h2] at hs
        simp only [Option.bind_some] at hs
        obtain ⟨a, σ2, p1, p2, p3, p4, _⟩ := opS_sound hC hI h2 h (fun m hm => by cases hm)
        obtain ⟨σ3, q1, q2, q3, q4⟩ := opsS_walk hC hI (ops := ops) l hs hl p3
        refine ⟨σ3, fun rest r x => ?_, q2, p4.trans q3, by rw [q4, p2, putA_ne ho]⟩
        have := q1 rest r x
        rw [p2] at this
        exact p1.os hg this
    · rename_i hg
      have hg := wantS_sound h.fr hg
      obtain ⟨σ3, q1, q2, q3, q4⟩ := opsS_walk hC hI (ops := ops) l hs hl (h.put (v := .u) (a := .t []) trivial o.dst)
      exact ⟨σ3, fun rest r x => OS.skip hg (q1 rest r x), q2, ((Step.refl s σ).put o.dst .u (.t [])).trans q3, by rw [q4]; exact putA_ne ho⟩
    · cases hs
theorem agg_g {a : AV} (h : a.cells.length ≠ 1) : a = .g a.cells := by
  cases a <;> first | rfl | exact absurd rfl h
theorem over_all {zs cs : List AV} (h : cs.length = zs.length) : over zs cs 0 = cs := by
  unfold over
  rw [List.take_zero, List.nil_append, Nat.zero_add, h, List.drop_length, List.append_nil]
theorem boxS_sound {C : Cfg} {inl : Inl} (hC : Prims C) (hI : InlOK C inl) {ops1 ops2 : Array Oper} {i1 i2 : Nat} {s s' : SS} (hs : boxS C inl ops1.toList ops2.toList s = some s') {st0 : Option B} {σ : Sta} (h : OK C st0 s σ) :
    ∃ fr1 H1 σ2, RU P NS (.region i1 ops1 false) σ.fr σ.H (.normal, fr1, H1) ∧ RU P NS (.region i2 ops2 false) fr1 H1 (.normal, σ2.fr, σ2.H) ∧ OK C st0 s' σ2 ∧ Step s s' σ σ2 := by
  unfold boxS at hs
  split at hs
  rotate_left
  · cases hs
  rename_i c q T ty1 pos1 af1 T' q' d ty2 pos2 af2 hops
  split at hs
  rotate_left
  · cases hs
  rename_i hc
  obtain ⟨rfl, rfl, hcg, hdq, hagg⟩ := hc
  split at hs
  rotate_left
  · cases hs
  rename_i pre e post s1 hsp h1
  split at hs
  rotate_left
  · cases hs
  rename_i n sz z hfd hsz hz
  split at hs
  rotate_left
  · cases hs
  rename_i hc
  obtain ⟨hb, hev, hs1, hzl, hz1, hql⟩ := hc
  split at hs
  rotate_left
  · cases hs
  rename_i s2 hpre
  obtain ⟨ty, pos, af, hsplit, hnq⟩ := splitT_spec hsp
  obtain ⟨a0, σ1, p1, p2, p3, p4, _⟩ := opS_sound hC hI h1 h (fun m hm => by cases hm)
  obtain ⟨a, ha, hda⟩ := FR.at_ p3.fr hfd
  have hda : σ1.η.av[n]? = some a := hda
  simp only [Option.map_eq_some_iff] at hev
  obtain ⟨ev, hev, hwide⟩ := hev
  have hal : a.cells.length = sz := by
    rw [← hwide]
    exact p3.wid _ ev a hev (by rw [show s1.base + (n - s1.base) = n by omega]; exact hda)
  have hao := p3.one n a hda
  have hq1 : q' < σ1.fr.length := by rw [← p3.fr.1]; exact hql
  have hag : a = .g a.cells := agg_g (by omega)
  obtain ⟨g1, g2⟩ := p3.grow [.cells T' .vr a.cells]
  have g3 := g1.put (v := .u) (a := .p σ1.H.length 0) trivial (some q')
  have g4 := g2.put (some q') .u (.p σ1.H.length 0)
  obtain ⟨σ3, w1, w2, w3, w4⟩ := opsS_walk hC hI (ops := ops2) (q := q') pre hpre hnq g3
  have hqf : σ3.fr[q']? = some (.p σ1.H.length 0) := by
    rw [w4]
    show (σ1.fr.set q' _)[q']? = _
    rw [List.getElem?_set_self hq1]
  have hblk : σ3.H[σ1.H.length]? = some (.cells T' .vr a.cells) := by
    refine (w3.kt.2 σ1.H.length _ (p3.room.new _ (Nat.le_refl _)) ?_).2
    show (σ1.H ++ [Blk.cells T' .vr a.cells])[σ1.H.length]? = _
    simp
  have hav : σ3.η.av[n]? = some a := w3.av.at_ _ _ hda
  have w5 := w2.put (v := .pt n) (a := a) hav (some e)
  obtain ⟨σ4, o1, o2, o3, _⟩ := opsS_sound hC hI (ops := ops2) post hs w5 (fun m hm => by cases hm)
  refine ⟨σ1.fr.set q' (.p σ1.H.length 0), σ1.H ++ [.cells T' .vr a.cells], σ4, ?_, ?_, o2, ((p4.trans g4).trans w3).trans ((((Step.refl s2 σ3).put (some e) (.pt n) a)).trans o3)⟩
  · refine RU.region ?_
    rw [hops]
    refine One.os (by rw [hcg]; rfl) p1 ?_
    rw [← p2]
    refine One.os (v := .p σ1.H.length 0) (H1 := σ1.H ++ [.cells T' .vr z.cells]) rfl (.pure rfl (op_alloc hz hz1)) ?_
    refine One.os (v := .u) (H1 := σ1.H ++ [.cells T' .vr a.cells]) rfl (.pure rfl (op_store (a := .p σ1.H.length 0) (v := a) ?_ ?_ ?_)) OS.nil
    · show (σ1.fr.set q' _)[q']? = _
      rw [List.getElem?_set_self hq1]
    · show (σ1.fr.set q' _)[d]? = _
      rw [List.getElem?_set, if_neg (fun e => hdq e.symm)]; exact ha
    · simp [storeA, hsz, hal, hzl, hao, Kn.own, over_all (zs := z.cells) (cs := a.cells) (by omega)]
  · refine RU.region ?_
    rw [hsplit]
    refine w1 _ _ ?_
    refine One.os (v := a) (H1 := σ3.H) rfl (.pure rfl (op_load (a := .p σ1.H.length 0) hqf ?_)) o1
    show loadAt P σ3.H T' σ1.H.length 0 = _
    unfold loadAt
    rw [hblk, hagg, hsz]
    simp only [Nat.zero_add]
    rw [if_pos (by omega), List.drop_zero, ← hal, List.take_length, ← hag]
theorem boxM_sound {C : Cfg} {inl : Inl} (hC : Prims C) (hI : InlOK C inl) {ops1 : Array Oper} {i1 : Nat} {rest rest2 : List Code} {s s' : SS} (hs : boxM C inl ops1.toList rest s = some (s', rest2)) {st0 : Option B} {σ : Sta} (h : OK C st0 s σ) :
    ∃ d fr1 H1 σ2, rest = d :: rest2 ∧ RU P NS (.region i1 ops1 false) σ.fr σ.H (.normal, fr1, H1) ∧ RU P NS d fr1 H1 (.normal, σ2.fr, σ2.H) ∧ OK C st0 s' σ2 ∧ Step s s' σ σ2 := by
  unfold boxM at hs
  split at hs
  · simp only [Option.map_eq_some_iff] at hs
    obtain ⟨s1, h1, h2⟩ := hs
    simp at h2
    obtain ⟨rfl, rfl⟩ := h2
    obtain ⟨fr1, H1, σ2, a, b, c, e⟩ := boxS_sound hC hI h1 h
    exact ⟨_, fr1, H1, σ2, rfl, a, b, c, e⟩
  · cases hs
theorem boxM_evs {C : Cfg} {inl : Inl} (hI : InlEv inl) {ops1 : List Oper} {rest rest2 : List Code} {s s' : SS} (hs : boxM C inl ops1 rest s = some (s', rest2)) : ∃ l, s'.evs = s.evs ++ l := by
  unfold boxM at hs
  split at hs
  rotate_left
  · cases hs
  simp only [Option.map_eq_some_iff] at hs
  obtain ⟨s1, hs, h2⟩ := hs
  simp at h2
  obtain ⟨rfl, rfl⟩ := h2
  unfold boxS at hs
  split at hs
  rotate_left
  · cases hs
  split at hs
  rotate_left
  · cases hs
  split at hs
  rotate_left
  · cases hs
  rename_i h1
  split at hs
  rotate_left
  · cases hs
  split at hs
  rotate_left
  · cases hs
  split at hs
  rotate_left
  · cases hs
  rename_i hpre
  obtain ⟨a, ha⟩ := opS_evs hI h1
  obtain ⟨b, hb⟩ := opsS_evs hI _ hpre
  obtain ⟨c, hc⟩ := opsS_evs hI _ hs
  refine ⟨a ++ b ++ c, ?_⟩
  rw [hc, (put_fields _ _ _).2.2.1, hb, (put_fields _ _ _).2.2.1, ha, List.append_assoc, List.append_assoc, List.append_assoc]
theorem opsS_mv {C : Cfg} {inl : Inl} {ops : Array Oper} {q : Nat} : ∀ (l : List Oper) {s s1 : SS}, opsS C none inl ops.toList l s = some s1 → l.all isMvS = true → (l.all fun o => o.dst != some q) = true → ∀ {st0 : Option B} {σ : Sta}, OK C st0 s σ →
    ∃ fr1, (∀ (Hx : Heap) rest r, OS P NS ops rest fr1 Hx r → OS P NS ops (l ++ rest) σ.fr Hx r) ∧ OK C st0 s1 { σ with fr := fr1 } ∧ Step s s1 σ { σ with fr := fr1 } ∧ fr1[q]? = σ.fr[q]? ∧ s1.rdy = s.rdy
  | [], s, s1, hs, hm, hn, st0, σ, h => by
    simp [opsS] at hs; subst hs
    exact ⟨σ.fr, fun _ _ _ x => x, h, .refl s σ, rfl, rfl⟩
  | o :: l, s, s1, hs, hm, hn, st0, σ, h => by
    simp only [List.all_cons, Bool.and_eq_true] at hm hn
    obtain ⟨hm1, hm2⟩ := hm
    obtain ⟨hn1, hn2⟩ := hn
    obtain ⟨x, ds, ty, pos, af, rfl⟩ : ∃ x ds ty pos af, o = ⟨ds, .move x, ty, pos, af, none⟩ := by
      unfold isMvS at hm1
      split at hm1
      · exact ⟨_, _, _, _, _, rfl⟩
      · cases hm1
    have hn1 : ds ≠ some q := by simpa using hn1
    unfold opsS at hs
    simp only [wantS] at hs
    cases h3 : opS C none inl ⟨ds, .move x, ty, pos, af, none⟩ s with
    | none => rw [h3] at hs; cases hs
    | some s2 =>
      rw [h3] at hs
      simp only [Option.bind_some] at hs
      have h3 : (evS s.fr x).map (fun v => s.put ds v) = some s2 := h3
      simp only [Option.map_eq_some_iff] at h3
      obtain ⟨v, hv, rfl⟩ := h3
      obtain ⟨a, ha, hd⟩ := evS_sound h.fr hv
      obtain ⟨fr1, q1, q2, q3, q4, q5⟩ := opsS_mv (ops := ops) l hs hm2 hn2 (h.put hd ds)
      refine ⟨fr1, fun Hx rest r z => One.os (v := a) (H1 := Hx) rfl (.pure rfl (op_move ha)) (q1 Hx rest r z), q2, ((Step.refl s σ).put ds v a).trans q3, ?_, ?_⟩
      · rw [q4]; exact putA_ne hn1
      · rw [q5, (put_fields _ _ _).2.2.2.2.2.2]
theorem room_new {A : Nat → Prop} {H : Heap} {rb : Nat} (R : Room A H rb) (K : Heap) (hK : 0 < K.length) : Room (fun i => A i ∧ i ≠ H.length) (H ++ K) rb :=
  Room.kt R (KT.new A H K) (fun x => R.no x.1) (fun i hi => ⟨R.new i (by simp at hi; omega), by simp at hi; omega⟩)
theorem boxR_sound {C : Cfg} (hC : Prims C) {q : Nat} {T : TypeId} (hsz : sizeA P T = some 1) {z : ByteArray} {ops : Array Oper} {i1 : Nat} {s s' : SS} (hs : boxR C q T ops.toList s = some s') {st0 : Option B} {σ : Sta} (h : OK C st0 s σ) (hq : σ.fr[q]? = some (.p σ.H.length 0)) :
    ∃ σ', RU P NS (.region i1 ops false) σ.fr (σ.H ++ [.cells T .vr [.s z]]) (.normal, σ'.fr, σ'.H) ∧ OK C st0 s' σ' ∧ Step s s' σ σ' := by
  unfold boxR at hs
  split at hs
  rotate_left
  · cases hs
  rename_i d g args ats sp1 ty1 pos1 af1 T' q' d' ty2 pos2 af2 hops
  split at hs
  rotate_left
  · cases hs
  rename_i hc
  obtain ⟨rfl, rfl, rfl, hdq, hql, hdl⟩ := hc
  split at hs
  rotate_left
  · cases hs
  rename_i k n fx x hl ha
  split at hs
  rotate_left
  · cases hs
  rename_i hc
  obtain ⟨rfl, rfl, hx, hfx, hry⟩ := hc
  simp only [Option.some.injEq] at hs
  obtain ⟨xa, e1, rfl⟩ := evS_sound h.fr hx
  have hrb := h.rbl
  have kn1 := KT.new (AO σ.η) σ.H [.cells T' .vr [.s z]]
  have hrd0 := rdAt_kt (h.rd hry) kn1 (by rw [List.getElem?_append_left h.rbl])
  obtain ⟨y, H1, st1, c, w, ho, r, hl1, hk, hres⟩ := leaf_both (hC _ _ hl hfx) (room_new h.room [.cells T' .vr [.s z]] (by simp)) hrd0
  have w : y.cells.length = 1 := w
  have hblk : H1[σ.H.length]? = some (.cells T' .vr [.s z]) := hk _ _ (by omega) (by simp)
  have hlt : σ.H.length < H1.length := (List.getElem?_eq_some_iff.1 hblk).1
  have hne : ∀ j, j ≠ σ.H.length → (H1.set σ.H.length (.cells T' .vr y.cells))[j]? = H1[j]? := fun j hj => by rw [List.getElem?_set, if_neg (fun e => hj e.symm)]
  have kt2 : KT (fun i => AO σ.η i ∧ i ≠ σ.H.length) H1 (AO σ.η) (H1.set σ.H.length (.cells T' .vr y.cells)) := ⟨by simp, fun j b hj x => ⟨hj.1, by rw [hne j hj.2]; exact x⟩⟩
  obtain ⟨p1, p2⟩ := h.read hry (e := .leaf .pstr false) (y := .p σ.H.length 0) (H1 := H1.set σ.H.length (.cells T' .vr y.cells)) (nn1 := true) (st1 := st1)
    (vs1 := match σ.st.bind (decK C.flex .str false) with | none => [] | some (v, _) => σ.vs ++ [v]) rfl rfl (rdAt_kt r kt2 (hne _ (by omega)))
    (by have := hl1; simp at this ⊢; omega)
    (fun j b hj hb => by
      have hjl := (List.getElem?_eq_some_iff.1 hb).1
      rw [hne j (by omega)]
      exact hk j b hj (by rw [List.getElem?_append_left hjl]; exact hb)) (by
    show (match σ.st.bind (decK C.flex .str false) with | none => _ | some (v, r) => _)
    split at hres
    · rename_i hd; rw [hd]; exact hres
    · rename_i v r hd
      rw [hd]
      refine ⟨hres.1, rfl, ?_⟩
      have hrep := hres.2
      have hok : okK C.flex .str false v := by
        cases hst : σ.st with
        | none => rw [hst] at hd; cases hd
        | some bs => rw [hst] at hd; exact decK_ok hd
      show RepK _ _ .pstr false _ v
      cases v <;> simp only [RepK] at hrep ⊢ <;> try (exact hrep.elim)
      · rw [if_neg (by simp)] at hrep
        subst hrep
        exact ⟨σ.H.length, T', h.room.new _ (Nat.le_refl _), rfl, by rw [List.getElem?_set_self hlt]; rfl⟩
      · exact absurd hok (by simp [okK]))
  have den2 : den { σ.η with av := σ.η.av ++ [.p σ.H.length 0] } (.pt (s.base + s.evs.length)) (.p σ.H.length 0) := by
    show (σ.η.av ++ [AV.p σ.H.length 0])[s.base + s.evs.length]? = some (.p σ.H.length 0)
    rw [← h.avl]; simp
  have p3 := (p1.put (v := .u) (a := y) trivial (some d')).put (v := .pt (s.base + s.evs.length)) (a := .p σ.H.length 0) den2 (some q')
  have p4 := (p2.put (some d') .u y).put (some q') (.pt (s.base + s.evs.length)) (.p σ.H.length 0)
  rw [hs] at p3 p4
  refine ⟨_, ?_, p3, p4⟩
  have hqn : (putA σ.fr (some d') y)[q']? = some (.p σ.H.length 0) := by rw [putA_ne (by simp; exact hdq)]; exact hq
  have hfr : putA (putA σ.fr (some d') y) (some q') (.p σ.H.length 0) = putA σ.fr (some d') y := by
    apply List.ext_getElem?
    intro j
    by_cases e : j = q'
    · subst e; rw [hqn]; show (List.set _ _ _)[j]? = _; rw [List.getElem?_set_self (List.getElem?_eq_some_iff.1 hqn).1]
    · rw [putA_ne (by simp; exact fun x => e x.symm)]
  refine RU.region ?_
  rw [hops]
  refine One.os (v := y) (H1 := H1) rfl (.call rfl (evl1 ha e1) c) ?_
  refine One.os (v := .u) (H1 := H1.set σ.H.length (.cells T' .vr y.cells)) rfl (.pure rfl (op_store (a := .p σ.H.length 0) (v := y) hqn ?_ ?_)) ?_
  · show (σ.fr.set d' y)[d']? = _
    rw [List.getElem?_set_self (by rw [← h.fr.1]; exact hdl)]
  · simp [storeA, hsz, hblk, w, ho, Kn.own, over_all (zs := [.s z]) (cs := y.cells) (by simpa using w)]
  · have e : ∀ (frx : List AV) (Hx : Heap), frx = putA σ.fr (some d') y → OS P NS ops [] (putA σ.fr (some d') y) Hx (frx, Hx) := fun frx Hx e => by rw [e]; exact OS.nil
    exact e _ _ hfr
theorem RUs.app1 {c d : Code} {fr : List AV} {H : Heap} {rest : List Code} {x : AX} {fr' : List AV} {H' : Heap} (hn : ∀ r, RU P NS c fr H r → RU P NS d fr H r) (k : RUs (flat c ++ rest) fr H (x, fr', H')) : RUs (d :: rest) fr H (x, fr', H') := by
  rcases RUs.split k with ⟨fr1, H1, p1, p2⟩ | ⟨p1, p2⟩
  · exact RUs.cons (hn _ (RUs.code p1)) p2
  · exact RUs.stop (hn _ (RUs.code p2)) p1
theorem boxP_sound {C : Cfg} (hC : Prims C) {q : Nat} {T : TypeId} (hsz : sizeA P T = some 1) {z : ByteArray} : ∀ (f : Nat) (cs : List Code) {s s' : SS} {rest : List Code}, boxP C q T f cs s = some (s', rest) → ∀ {st0 : Option B} {σ : Sta}, OK C st0 s σ → σ.fr[q]? = some (.p σ.H.length 0) →
    ∃ σ', OK C st0 s' σ' ∧ Step s s' σ σ' ∧ ∀ x fr' H', RUs rest σ'.fr σ'.H (x, fr', H') → RUs cs σ.fr (σ.H ++ [.cells T .vr [.s z]]) (x, fr', H')
  | 0, cs, s, s', rest, h, st0, σ, ok, hq => by cases h
  | f + 1, cs, s, s', rest, h, st0, σ, ok, hq => by
    unfold boxP at h
    split at h
    · split at h
      · rename_i hb
        simp at h
        obtain ⟨rfl, rfl⟩ := h
        obtain ⟨σ', a, b, c⟩ := boxR_sound hC hsz hb ok hq
        exact ⟨σ', b, c, fun x fr' H' k => RUs.cons a k⟩
      · split at h
        · rename_i hc
          simp only [Option.bind_eq_some_iff] at h
          obtain ⟨s2, h2, h3⟩ := h
          obtain ⟨fr1, a, b, c, d, e⟩ := opsS_mv _ h2 hc.1 hc.2 ok
          obtain ⟨σ', b', c', d'⟩ := boxP_sound hC hsz f _ h3 b (d.trans hq)
          refine ⟨σ', b', c.trans c', fun x fr' H' k => RUs.cons (RU.region ?_) (d' x fr' H' k)⟩
          have := a (σ.H ++ [.cells T .vr [.s z]]) [] _ OS.nil
          rw [List.append_nil] at this
          exact this
        · cases h
    · split at h
      · rename_i hc
        obtain ⟨xa, e1, rfl⟩ := evS_sound ok.fr hc
        obtain ⟨σ', b', c', d'⟩ := boxP_sound hC hsz f _ h ok hq
        exact ⟨σ', b', c', fun x fr' H' k => RUs.app1 (fun r hr => RU.condT e1 hr) (d' x fr' H' k)⟩
      · rename_i hc
        obtain ⟨xa, e1, rfl⟩ := evS_sound ok.fr hc
        obtain ⟨σ', b', c', d'⟩ := boxP_sound hC hsz f _ h ok hq
        exact ⟨σ', b', c', fun x fr' H' k => RUs.app1 (fun r hr => RU.condF e1 hr) (d' x fr' H' k)⟩
      · cases h
    · cases h
theorem boxPM_sound {C : Cfg} (hC : Prims C) {ops1 : Array Oper} {i1 : Nat} {rest rest2 : List Code} {s s' : SS} (hs : boxPM C ops1.toList rest s = some (s', rest2)) {st0 : Option B} {σ : Sta} (h : OK C st0 s σ) :
    ∃ σ2, OK C st0 s' σ2 ∧ Step s s' σ σ2 ∧ ∀ x fr' H', RUs rest2 σ2.fr σ2.H (x, fr', H') → RUs (.region i1 ops1 false :: rest) σ.fr σ.H (x, fr', H') := by
  unfold boxPM at hs
  split at hs
  rotate_left
  · cases hs
  rename_i q T ty pos af hops
  split at hs
  rotate_left
  · cases hs
  rename_i z hagg hsz hz
  split at hs
  rotate_left
  · cases hs
  rename_i hql
  have p1 := h.put (v := .u) (a := .p σ.H.length 0) trivial (some q)
  have p2 := (Step.refl s σ).put (some q) .u (.p σ.H.length 0)
  have hqf : (putA σ.fr (some q) (.p σ.H.length 0))[q]? = some (.p σ.H.length 0) := by
    show (σ.fr.set q _)[q]? = _
    rw [List.getElem?_set_self (by rw [← h.fr.1]; exact hql)]
  obtain ⟨σ', a, b, c⟩ := boxP_sound hC hsz (z := z) 20 _ hs p1 hqf
  refine ⟨σ', a, p2.trans b, fun x fr' H' k => RUs.cons (RU.region ?_) (c x fr' H' k)⟩
  rw [hops]
  exact One.os (v := .p σ.H.length 0) (H1 := σ.H ++ [.cells T .vr [.s z]]) rfl (.pure rfl (op_alloc hz rfl)) OS.nil
theorem boxP_evs {C : Cfg} {q : Nat} {T : TypeId} : ∀ (f : Nat) (cs : List Code) {s s' : SS} {rest : List Code}, boxP C q T f cs s = some (s', rest) → ∃ l, s'.evs = s.evs ++ l
  | 0, cs, s, s', rest, h => by cases h
  | f + 1, cs, s, s', rest, h => by
    unfold boxP at h
    split at h
    · split at h
      · rename_i hb
        simp at h
        obtain ⟨rfl, rfl⟩ := h
        unfold boxR at hb
        split at hb
        · split at hb
          · split at hb
            · split at hb
              · simp only [Option.some.injEq] at hb
                subst hb
                exact ⟨_, by rw [(put_fields _ _ _).2.2.1, (put_fields _ _ _).2.2.1]⟩
              · cases hb
            · cases hb
          · cases hb
        · cases hb
      · split at h
        · simp only [Option.bind_eq_some_iff] at h
          obtain ⟨s2, h2, h3⟩ := h
          obtain ⟨a, ha⟩ := opsS_evs (inlS_evs C 6) _ h2
          obtain ⟨b, hb⟩ := boxP_evs f _ h3
          exact ⟨a ++ b, by rw [hb, ha, List.append_assoc]⟩
        · cases h
    · split at h
      · exact boxP_evs f _ h
      · exact boxP_evs f _ h
      · cases h
    · cases h
theorem boxPM_evs {C : Cfg} {ops1 : List Oper} {rest rest2 : List Code} {s s' : SS} (hs : boxPM C ops1 rest s = some (s', rest2)) : ∃ l, s'.evs = s.evs ++ l := by
  unfold boxPM at hs
  split at hs
  rotate_left
  · cases hs
  split at hs
  rotate_left
  · cases hs
  split at hs
  rotate_left
  · cases hs
  obtain ⟨l, hl⟩ := boxP_evs 20 _ hs
  exact ⟨l, by rw [hl, (put_fields _ _ _).2.2.1]⟩
end Go.Proofs.YtiifcfngbbhgoagDoor.Rd

