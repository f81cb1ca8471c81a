import Derived.Test.YtjncijimikfdnaaDoorQLwKit
import Derived.Test.YtjncijimikfdnaaDoorQLwSASLAuthenticateRequest
import Derived.Test.YtjncijimikfdnaaDoorQAxDraw2
/-
  TREES AND FIELDS: how what the reference writes of lies in the machine.
-/
namespace Go.Proofs.YtjncijimikfdnaaDoor.Rd
set_option linter.constructorNameAsVariable false
set_option linter.unusedVariables false
set_option linter.unusedSimpArgs false
open Go Go.Proofs.YtjncijimikfdnaaDoor.Ax Go.Proofs.YtjncijimikfdnaaDoor.Wire
set_option linter.unusedVariables false
set_option linter.unusedSimpArgs false
set_option maxRecDepth 100000

/-- A slice of so many elements of so many cells. -/
def SlAt (H : Heap) (sz : Nat) (av : AV) (n : Nat) : Prop :=
  ((av = .s0 ∨ av = .se) ∧ n = 0) ∨ ∃ i o ty kn cs, av = .sl i o n ∧ 0 < n ∧ H[i]? = some (.cells ty kn cs) ∧ o + n * sz ≤ cs.length
/-- An element's cells. -/
def elAt (H : Heap) (sz : Nat) (av : AV) (j : Nat) : Option (List AV) :=
  match av with
  | .sl i o _ => match H[i]? with
    | some (.cells _ _ cs) => some ((cs.drop (o + j * sz)).take sz)
    | _ => none
  | _ => none
/-- Any block that is there. -/
def Lt (H : Heap) : Nat → Prop := fun i => i < H.length
/-- Tags behind a slice. -/
def TgAt (H : Heap) (av : AV) (us : List (Nat × B)) : Prop :=
  SlAt H 2 av us.length ∧ ∀ (j k : Nat) (bs : B), us[j]? = some (k, bs) → ∃ v, elAt H 2 av j = some [.i .u32 (k : Nat), v] ∧ BytesAt (Lt H) H v bs
/-- A tree in five cells. -/
inductive TrAt (H : Heap) : List AV → Tr → Prop
  | mk {n : Int} {s l u : AV} {nl : Bool} {bs : B} {ts : List Tr} {us : List (Nat × B)} (hn : -9223372036854775808 ≤ n ∧ n ≤ 9223372036854775807) (hs : BytesAt (Lt H) H s bs) (hu : TgAt H u us) (hl : SlAt H 5 l ts.length)
      (hx : ∀ (j : Nat) (x : Tr), ts[j]? = some x → ∀ c, elAt H 5 l j = some c → TrAt H c x) : TrAt H [.i .i64 n, s, .b nl, l, u] (.mk n bs nl ts us)
/-- Fields in the cells of a row. -/
def FdC (H : Heap) : Fdl → List AV → Prop
  | .nil, cs => cs = []
  | .fld kind frm to null tag dflt of sub rest, cs => ∃ av cs', cs = .i .i64 (kind : Nat) :: .i .i64 frm :: .i .i64 to :: .i .i64 null :: .i .i64 tag :: .i .i64 dflt :: .i .i64 (of : Nat) :: av :: cs' ∧
      ((sub = .nil ∧ (av = .s0 ∨ av = .se)) ∨ ∃ i ty kn c2, av = .sl i 0 sub.len ∧ H[i]? = some (.cells ty kn c2) ∧ FdC H sub c2 ∧ sub ≠ .nil) ∧ FdC H rest cs'
/-- Fields behind a slice. -/
def FdAt (H : Heap) (av : AV) (fd : Fdl) : Prop := (fd = .nil ∧ (av = .s0 ∨ av = .se)) ∨ ∃ i ty kn c2, av = .sl i 0 fd.len ∧ H[i]? = some (.cells ty kn c2) ∧ FdC H fd c2 ∧ fd ≠ .nil

/-- The heap grew; what was there stands. -/
def Kp (H H' : Heap) : Prop := H.length ≤ H'.length ∧ ∀ i, i < H.length → H'[i]? = H[i]?
theorem Kp.refl (H : Heap) : Kp H H := ⟨Nat.le_refl _, fun _ _ => rfl⟩
theorem Kp.trans {a b c : Heap} (h : Kp a b) (k : Kp b c) : Kp a c := ⟨Nat.le_trans h.1 k.1, fun i hi => by rw [k.2 i (Nat.lt_of_lt_of_le hi h.1), h.2 i hi]⟩
theorem Kp.at_ {H H' : Heap} (h : Kp H H') {i : Nat} {b : Blk} (hi : H[i]? = some b) : H'[i]? = some b := by
  rw [h.2 i (List.getElem?_eq_some_iff.1 hi).1]; exact hi
theorem Kp.app (H K : Heap) : Kp H (H ++ K) := ⟨by simp, fun i hi => by rw [List.getElem?_append_left hi]⟩
theorem Kp.of_w {L0 : Nat} {H H' : Heap} (h : WKeep L0 H H') (hL : L0 = H.length) : Kp H H' := ⟨h.len, fun i hi => h.at_ i (by omega)⟩
theorem Kp.w {L0 : Nat} {H H' : Heap} (h : Kp H H') (hL : L0 ≤ H.length) : WKeep L0 H H' := ⟨fun i hi => h.2 i (by omega), h.1⟩

section
variable {H H' : Heap}
theorem Kp.bytes (k : Kp H H') {av : AV} {bs : B} (h : BytesAt (Lt H) H av bs) : BytesAt (Lt H') H' av bs := by
  cases h with
  | z => exact .z
  | e => exact .e
  | s hA h h0 h1 => exact .s (show _ < H'.length from Nat.lt_of_lt_of_le hA k.1) (k.at_ h) h0 h1
theorem SlAt.kp {sz n : Nat} {av : AV} (h : SlAt H sz av n) (k : Kp H H') : SlAt H' sz av n := by
  rcases h with h | ⟨i, o, ty, kn, cs, h1, h2, h3, h4⟩
  · exact .inl h
  · exact .inr ⟨i, o, ty, kn, cs, h1, h2, k.at_ h3, h4⟩
theorem SlAt.el {sz n : Nat} {av : AV} (h : SlAt H sz av n) (k : Kp H H') {j : Nat} (hj : j < n) : elAt H' sz av j = elAt H sz av j := by
  rcases h with ⟨_, h⟩ | ⟨i, o, ty, kn, cs, rfl, h2, h3, h4⟩
  · omega
  · simp only [elAt, k.at_ h3, h3]
theorem SlAt.get {sz n : Nat} {av : AV} (h : SlAt H sz av n) {j : Nat} (hj : j < n) : ∃ c, elAt H sz av j = some c ∧ c.length = sz := by
  rcases h with ⟨_, h⟩ | ⟨i, o, ty, kn, cs, rfl, h2, h3, h4⟩
  · omega
  · refine ⟨(cs.drop (o + j * sz)).take sz, by simp only [elAt, h3], ?_⟩
    have : (j + 1) * sz ≤ n * sz := Nat.mul_le_mul_right _ hj
    rw [List.length_take, List.length_drop]
    have e : (j + 1) * sz = j * sz + sz := by rw [Nat.add_mul, Nat.one_mul]
    omega
theorem TgAt.kp {av : AV} {us : List (Nat × B)} (h : TgAt H av us) (k : Kp H H') : TgAt H' av us := by
  refine ⟨h.1.kp k, fun j n bs hj => ?_⟩
  obtain ⟨v, h1, h2⟩ := h.2 j n bs hj
  exact ⟨v, by rw [h.1.el k (List.getElem?_eq_some_iff.1 hj).1]; exact h1, k.bytes h2⟩
theorem TrAt.kp (k : Kp H H') {c : List AV} {t : Tr} (h : TrAt H c t) : TrAt H' c t := by
  induction h with
  | mk hn hs hu hl _ ih =>
    refine .mk hn (k.bytes hs) (hu.kp k) (hl.kp k) fun j x hj c hc => ?_
    rw [hl.el k (List.getElem?_eq_some_iff.1 hj).1] at hc
    exact ih j x hj c hc
theorem FdC.kp (k : Kp H H') : ∀ {fd : Fdl} {cs : List AV}, FdC H fd cs → FdC H' fd cs
  | .nil, _, h => h
  | .fld kind frm to null tag dflt of sub rest, cs, ⟨av, cs', h1, h2, h3⟩ => by
    refine ⟨av, cs', h1, ?_, FdC.kp k h3⟩
    rcases h2 with h | ⟨i, ty, kn, c2, h4, h5, h6, h7⟩
    · exact .inl h
    · exact .inr ⟨i, ty, kn, c2, h4, k.at_ h5, FdC.kp k h6, h7⟩
theorem FdAt.kp (k : Kp H H') {fd : Fdl} {av : AV} (h : FdAt H av fd) : FdAt H' av fd := by
  rcases h with h | ⟨i, ty, kn, c2, h4, h5, h6, h7⟩
  · exact .inl h
  · exact .inr ⟨i, ty, kn, c2, h4, k.at_ h5, FdC.kp k h6, h7⟩
theorem FdC.len : ∀ {fd : Fdl} {cs : List AV}, FdC H fd cs → cs.length = fd.len * 8
  | .nil, _, h => by have h : _ = _ := h; subst h; rfl
  | .fld kind frm to null tag dflt of sub rest, cs, ⟨av, cs', h1, h2, h3⟩ => by
    have := FdC.len h3
    subst h1
    simp [Fdl.len, this]; omega
end
end Go.Proofs.YtjncijimikfdnaaDoor.Rd

/-
  THE ABSTRACT MACHINE: regions that draw their order: (1) the effects stand in one order and the other operations come to the same at every heap that comes of the first one; (2) no effects, guards allowed.
-/
namespace Go.Proofs.YtjncijimikfdnaaDoor.Ax
set_option linter.constructorNameAsVariable false
set_option linter.unusedVariables false
set_option linter.unusedSimpArgs false
open Go

/-- Operations in the text's order; those without effect come to the same at all heaps that are so related to the first. -/
inductive OpsS (P : Program) (call : CallA) (R : Heap → Prop) : List Oper → List AV → Heap → List AV → Heap → Prop
  | nil (fr : List AV) (H : Heap) : OpsS P call R [] fr H fr H
  | eff {o : Oper} {l : List Oper} {fr fr' : List AV} {H H1 H' : Heap} {v : AV} (hg : o.guard = none) (he : isEff o.op = true) (h : oneOp P call o.op fr H = some (v, H1)) (g : R H1) (t : OpsS P call R l (putA fr o.dst v) H1 fr' H') : OpsS P call R (o :: l) fr H fr' H'
  | pure {o : Oper} {l : List Oper} {fr fr' : List AV} {H H' : Heap} {v : AV} (hg : o.guard = none) (he : isEff o.op = false) (h : ∀ H2, R H2 → ∃ H3, opA P o.op fr H2 = some (v, H3)) (t : OpsS P call R l (putA fr o.dst v) H fr' H') : OpsS P call R (o :: l) fr H fr' H'

def effOk3 (ops : Array Oper) : Bool := (statEs ops.toList []).all fun e => !e.eff || decide (e.no ≤ e.lo)
def drawOk3 (P : Program) (ops : Array Oper) : Bool := P.follows .mixedOrders && edgesOk ops.toList && slotsOk ops ops.toList && dstsOk ops.toList && effOk3 ops

theorem ops_looks {ops : Array Oper} {o : Oper} : ∀ x ∈ o.op.operands, ∀ t, x = .tmp t → t ∈ o.looksAt ops := by
  intro x hx t ht
  unfold Oper.looksAt
  refine List.mem_append_left _ (List.mem_filterMap.2 ⟨x, by simpa using hx, ?_⟩)
  rw [ht]
theorem lexA_S {P : Program} {call : CallA} {R : Heap → Prop} {ops : Array Oper} : ∀ (l : List Oper) (fr : List AV) (H : Heap) (fr' : List AV) (H' : Heap), OpsS P call R l fr H fr' H' → R H → ∀ (es es0 : List Ent) (Hs : List Heap), (∀ h ∈ Hs, R h) → es.map Ent.key = es0.map Ent.key →
    (∀ e ∈ es, e.eff = false → ∀ H2, R H2 → ∃ H3, opA P e.o.op e.fr H2 = some (e.val, H3)) →
    ∃ es' Hs', lexA P call ops l es Hs fr H = some (es', Hs', fr', H') ∧ (∀ h ∈ Hs', R h) ∧ es'.map Ent.key = (statEs l es0).map Ent.key ∧ (∀ e ∈ es', e.eff = false → ∀ H2, R H2 → ∃ H3, opA P e.o.op e.fr H2 = some (e.val, H3)) := by
  intro l fr H fr' H' h
  induction h with
  | nil fr H => intro _ es es0 Hs hr hk hg; exact ⟨es, Hs, rfl, hr, hk, hg⟩
  | @eff o l fr fr' H H1 H' v hgd he hv g _ ih =>
    intro hR es es0 Hs hr hk hg
    have hr2 : oneOp P call o.op (restr (o.looksAt ops) fr) H = some (v, H1) := by rw [oneOp_restr o.op ops_looks]; exact hv
    have hw : wantA ops (restr (o.looksAt ops) fr) o.guard = some true := by rw [hgd]; rfl
    obtain ⟨es', Hs', h1, h2, h3, h4⟩ := ih g (es ++ [⟨o, true, true, countEff es, loOf es o.after.toList, v, restr (o.looksAt ops) fr⟩]) (es0 ++ [⟨o, true, isEff o.op, countEff es0, loOf es0 o.after.toList, .u, []⟩]) (Hs ++ [H1])
      (fun h hm => by
        rcases List.mem_append.1 hm with hm | hm
        · exact hr h hm
        · simp at hm; subst hm; exact g) (by simp [hk, Ent.key, he, key_count hk, key_lo hk]) (fun e hm hf => by
        rcases List.mem_append.1 hm with hm | hm
        · exact hg e hm hf
        · simp at hm; subst hm; cases hf)
    refine ⟨es', Hs', ?_, h2, h3, h4⟩
    unfold lexA
    simp only [hw, he, if_true, hr2]
    exact h1
  | @pure o l fr fr' H H' v hgd he hv _ ih =>
    intro hR es es0 Hs hr hk hg
    have hw : wantA ops (restr (o.looksAt ops) fr) o.guard = some true := by rw [hgd]; rfl
    have hv2 : ∀ H2, R H2 → ∃ H3, opA P o.op (restr (o.looksAt ops) fr) H2 = some (v, H3) := fun H2 q => by rw [opA_restr o.op ops_looks]; exact hv H2 q
    obtain ⟨es', Hs', h1, h2, h3, h4⟩ := ih hR (es ++ [⟨o, true, false, countEff es, loOf es o.after.toList, v, restr (o.looksAt ops) fr⟩]) (es0 ++ [⟨o, true, isEff o.op, countEff es0, loOf es0 o.after.toList, .u, []⟩]) Hs hr
      (by simp [hk, Ent.key, he, key_count hk, key_lo hk]) (fun e hm hf => by
        rcases List.mem_append.1 hm with hm | hm
        · exact hg e hm hf
        · simp at hm; subst hm; exact hv2)
    refine ⟨es', Hs', ?_, h2, h3, h4⟩
    obtain ⟨H3, hq⟩ := hv2 H hR
    unfold lexA
    simp only [hw, he, hq]
    exact h1
theorem draw_S {P : Program} {call : CallA} {R : Heap → Prop} {ops : Array Oper} {H H' : Heap} {fr fr' : List AV} (hok : drawOk3 P ops = true) (hR : R H) (h : OpsS P call R ops.toList fr H fr' H') : drawA P call ops fr H = some (fr', H') := by
  unfold drawOk3 at hok
  simp only [Bool.and_eq_true] at hok
  obtain ⟨⟨⟨⟨a, b⟩, c⟩, d⟩, e⟩ := hok
  obtain ⟨es', Hs', h1, h2, h3, h4⟩ := lexA_S (ops := ops) _ _ _ _ _ h hR [] [] [H] (fun h hm => by simp at hm; subst hm; exact hR) rfl (fun e he => by simp at he)
  unfold drawA
  simp only [a, b, c, d, Bool.and_self, if_true, h1]
  rw [if_pos]
  rw [List.all_eq_true]
  intro x hx
  unfold effOk3 at e
  rw [List.all_eq_true] at e
  have hkx : x.key ∈ es'.map Ent.key := List.mem_map_of_mem hx
  rw [h3] at hkx
  obtain ⟨y, hy, hxy⟩ := List.mem_map.1 hkx
  have hy2 := e y hy
  have k1 : y.eff = x.eff := congrArg (fun z => z.2.2.1) hxy
  have k2 : y.no = x.no := congrArg (fun z => z.2.2.2.1) hxy
  have k3 : y.lo = x.lo := congrArg (fun z => z.2.2.2.2) hxy
  rw [k1, k2, k3] at hy2
  cases hxe : x.eff with
  | true => simp [hxe] at hy2; simp [hy2]
  | false =>
    have : floatOk P x Hs' = true := by
      unfold floatOk
      rw [List.all_eq_true]
      intro h hh
      obtain ⟨H3, hval⟩ := h4 x hx hxe h (h2 h (List.mem_of_mem_drop hh))
      rw [hval]
      exact sameV_refl _
    simp [this]
/-- A drawn region whose effects stand in one order. -/
theorem RU.drawS {P : Program} {S : CallA} {id : Nat} {ops : Array Oper} {fr fr1 : List AV} {H H1 : Heap} (R : Heap → Prop) (hok : drawOk3 P ops = true) (hR : R H) {n0 : Nat} (h : ∀ n, n0 ≤ n → OpsS P (run P S n) R ops.toList fr H fr1 H1) : RU P S (.region id ops true) fr H (.normal, fr1, H1) := by
  refine ⟨n0 + 1, fun n hn => ?_⟩
  obtain ⟨m, rfl⟩ : ∃ m, n = m + 1 := ⟨n - 1, by omega⟩
  have := draw_S hok hR (h m (by omega))
  simp only [run] at this
  simp [exec, this]

def drawOk0 (P : Program) (ops : Array Oper) : Bool := P.follows .mixedOrders && edgesOk ops.toList && slotsOk ops ops.toList && dstsOk ops.toList && ops.toList.all (fun o => !isEff o.op)
theorem want_restr {ops : Array Oper} {o : Oper} {fr : List AV} : wantA ops (restr (o.looksAt ops) fr) o.guard = wantA ops fr o.guard := by
  cases hg : o.guard with
  | none => rfl
  | some g =>
    obtain ⟨j, w⟩ := g
    unfold wantA
    simp only
    cases hd : (ops[j]?).bind (·.dst) with
    | none => rfl
    | some d =>
      have hm : d ∈ o.looksAt ops := by
        unfold Oper.looksAt
        refine List.mem_append_right _ ?_
        simp [hg, hd]
      simp only [restr_at]
      cases fr[d]? <;> simp [hm]
theorem lexA_0 {P : Program} {call : CallA} {ops : Array Oper} : ∀ (l : List Oper) (fr : List AV) (H : Heap) (fr' : List AV) (H' : Heap), (∀ o ∈ l, isEff o.op = false) → opsA P call ops l fr H = some (fr', H') → ∀ (es : List Ent),
    (∀ e ∈ es, e.eff = false ∧ (e.wanted = true → ∃ H3, opA P e.o.op e.fr H = some (e.val, H3))) →
    H' = H ∧ ∃ es', lexA P call ops l es [H] fr H = some (es', [H], fr', H') ∧ (∀ e ∈ es', e.eff = false ∧ (e.wanted = true → ∃ H3, opA P e.o.op e.fr H = some (e.val, H3)))
  | [], fr, H, fr', H', _, h, es, hg => by
    simp [opsA] at h
    obtain ⟨rfl, rfl⟩ := h
    exact ⟨rfl, es, rfl, hg⟩
  | o :: l, fr, H, fr', H', ha, h, es, hg => by
    have he' : isEff o.op = false := ha o (by simp)
    have hcl : isCall o.op = false := by
      cases ho : o.op <;> simp [isCall]
      rename_i c
      obtain ⟨cl, _, _⟩ := c
      cases cl <;> simp [ho, isEff] at *
    simp only [opsA] at h
    split at h
    · rename_i hw
      split at h
      rotate_left
      · cases h
      rename_i v H1 hv
      have hv2 := hv
      rw [oneOp_pure hcl] at hv2
      obtain rfl : H1 = H := float_heap he' hv2
      have hr2 : opA P o.op (restr (o.looksAt ops) fr) H1 = some (v, H1) := by rw [opA_restr o.op ops_looks]; exact hv2
      obtain ⟨h0, es', h1, h4⟩ := lexA_0 l _ _ _ _ (fun x hx => ha x (by simp [hx])) h (es ++ [⟨o, true, false, countEff es, loOf es o.after.toList, v, restr (o.looksAt ops) fr⟩]) (fun e hm => by
        rcases List.mem_append.1 hm with hm | hm
        · exact hg e hm
        · simp at hm; subst hm; exact ⟨rfl, fun _ => ⟨_, hr2⟩⟩)
      refine ⟨h0, es', ?_, h4⟩
      unfold lexA
      simp only [want_restr, hw, he', hr2]
      exact h1
    · rename_i hw
      obtain ⟨h0, es', h1, h4⟩ := lexA_0 l _ _ _ _ (fun x hx => ha x (by simp [hx])) h (es ++ [⟨o, false, false, countEff es, loOf es o.after.toList, .t [], restr (o.looksAt ops) fr⟩]) (fun e hm => by
        rcases List.mem_append.1 hm with hm | hm
        · exact hg e hm
        · simp at hm; subst hm; exact ⟨rfl, fun h => by cases h⟩)
      refine ⟨h0, es', ?_, h4⟩
      unfold lexA
      simp only [want_restr, hw]
      exact h1
    · cases h
theorem draw_0 {P : Program} {call : CallA} {ops : Array Oper} {H H' : Heap} {fr fr' : List AV} (hok : drawOk0 P ops = true) (h : opsA P call ops ops.toList fr H = some (fr', H')) : drawA P call ops fr H = some (fr', H') := by
  unfold drawOk0 at hok
  simp only [Bool.and_eq_true] at hok
  obtain ⟨⟨⟨⟨a, b⟩, c⟩, d⟩, e⟩ := hok
  rw [List.all_eq_true] at e
  obtain ⟨h0, es', h1, h4⟩ := lexA_0 (ops := ops) _ _ _ _ _ (fun o ho => by simpa using e o ho) h [] (fun e he => by simp at he)
  unfold drawA
  simp only [a, b, c, d, Bool.and_self, if_true, h1]
  rw [if_pos]
  rw [List.all_eq_true]
  intro x hx
  obtain ⟨hxe, hx2⟩ := h4 x hx
  cases hw : x.wanted with
  | false => simp [hxe]
  | true =>
    obtain ⟨H3, hval⟩ := hx2 hw
    have : floatOk P x [H] = true := by
      unfold floatOk
      rw [List.all_eq_true]
      intro h hh
      have hh := List.mem_of_mem_drop hh
      simp at hh
      subst hh
      rw [hval]
      exact sameV_refl _
    simp [hxe, this]
/-- A drawn region without effects. -/
theorem RU.draw0 {P : Program} {S : CallA} {id : Nat} {ops : Array Oper} {fr fr1 : List AV} {H H1 : Heap} (hok : drawOk0 P ops = true) (h : OS P S ops ops.toList fr H (fr1, H1)) : RU P S (.region id ops true) fr H (.normal, fr1, H1) := by
  obtain ⟨n1, k1⟩ := h
  refine ⟨n1 + 1, fun n hn => ?_⟩
  obtain ⟨m, rfl⟩ : ∃ m, n = m + 1 := ⟨n - 1, by omega⟩
  have := draw_0 hok (k1 m (by omega))
  simp only [run] at this
  simp [exec, this]
end Go.Proofs.YtjncijimikfdnaaDoor.Ax

/-
  WALKS with what is to be shown at the end: codes, loops, variables in the heap.
-/
namespace Go.Proofs.YtjncijimikfdnaaDoor.Rd
set_option linter.constructorNameAsVariable false
set_option linter.unusedVariables false
set_option linter.unusedSimpArgs false
open Go Go.Proofs.YtjncijimikfdnaaDoor.Ax Go.Proofs.YtjncijimikfdnaaDoor.Wire
set_option linter.unusedVariables false
set_option linter.unusedSimpArgs false
set_option maxRecDepth 100000
/-- What is to be shown of a code's end. -/
abbrev Ends := AX → List AV → Heap → Prop
def WP (S : CallA) (c : Code) (fr : List AV) (H : Heap) (Q : Ends) : Prop := ∃ x fr' H', RU P S c fr H (x, fr', H') ∧ Q x fr' H'
/-- Behind the first of two. -/
def Sq (S : CallA) (b : Code) (Q : Ends) : Ends := fun x fr H => match x with
  | .normal => WP S b fr H Q
  | x => Q x fr H
/-- Out of a block. -/
def Bk (id : Nat) (Q : Ends) : Ends := fun x fr H => match x with
  | .exit j => if j = id then Q .normal fr H else Q (.exit j) fr H
  | x => Q x fr H
/-- Behind a round of a loop. -/
def Lp (Q : Ends) (I : List AV → Heap → Prop) : Ends := fun x fr H => match x with
  | .normal => I fr H
  | x => Q x fr H
/-- A loop that is left in its first round. -/
def Lx (Q : Ends) : Ends := fun x fr H => x ≠ .normal ∧ Q x fr H
/-- A function's end. -/
def Fe (rs : List ResultVar) (R : AV → Heap → Prop) : Ends := fun x fr H => (x = .normal ∨ x = .ret) ∧ ∃ vs, resultsA P H fr rs = some vs ∧ R (packA vs) H
section
variable {S : CallA} {fr : List AV} {H : Heap} {Q : Ends}
theorem Sq.n {b : Code} (h : WP S b fr H Q) : Sq S b Q .normal fr H := h
theorem Sq.ret {b : Code} (h : Q .ret fr H) : Sq S b Q .ret fr H := h
theorem Sq.exit {b : Code} {i : Nat} (h : Q (.exit i) fr H) : Sq S b Q (.exit i) fr H := h
theorem Bk.n {i : Nat} (h : Q .normal fr H) : Bk i Q .normal fr H := h
theorem Bk.ret {i : Nat} (h : Q .ret fr H) : Bk i Q .ret fr H := h
theorem Bk.exit {i : Nat} (h : Q .normal fr H) : Bk i Q (.exit i) fr H := by simp only [Bk, if_true]; exact h
theorem Bk.ex' {i j : Nat} (hij : j ≠ i) (h : Q (.exit j) fr H) : Bk i Q (.exit j) fr H := by simp only [Bk, if_neg hij]; exact h
theorem Lp.n {I : List AV → Heap → Prop} (h : I fr H) : Lp Q I .normal fr H := h
theorem Lp.ret {I : List AV → Heap → Prop} (h : Q .ret fr H) : Lp Q I .ret fr H := h
theorem Lp.exit {I : List AV → Heap → Prop} {i : Nat} (h : Q (.exit i) fr H) : Lp Q I (.exit i) fr H := h
theorem Lx.exit {i : Nat} (h : Q (.exit i) fr H) : Lx Q (.exit i) fr H := ⟨by simp, h⟩
theorem Fe.ret {rs : List ResultVar} {R : AV → Heap → Prop} {vs : List AV} (h : resultsA P H fr rs = some vs) (r : R (packA vs) H) : Fe rs R .ret fr H := ⟨.inr rfl, vs, h, r⟩
theorem Fe.r1 {rs : List ResultVar} {R : AV → Heap → Prop} {v : AV} (h : resultsA P H fr rs = some [v]) (r : R v H) : Fe rs R .ret fr H := ⟨.inr rfl, [v], h, r⟩
theorem Fe.n {rs : List ResultVar} {R : AV → Heap → Prop} {vs : List AV} (h : resultsA P H fr rs = some vs) (r : R (packA vs) H) : Fe rs R .normal fr H := ⟨.inl rfl, vs, h, r⟩
theorem WP.mono {c : Code} {Q' : Ends} (h : WP S c fr H Q') (k : ∀ x fr' H', Q' x fr' H' → Q x fr' H') : WP S c fr H Q := by
  obtain ⟨x, fr', H', h1, h2⟩ := h
  exact ⟨x, fr', H', h1, k _ _ _ h2⟩
theorem WP.skip (h : Q .normal fr H) : WP S .skip fr H Q := ⟨_, _, _, RU.skip, h⟩
theorem WP.ret (h : Q .ret fr H) : WP S .ret fr H Q := ⟨_, _, _, RU.ret, h⟩
theorem WP.exit {id : Nat} (h : Q (.exit id) fr H) : WP S (.exit id) fr H Q := ⟨_, _, _, RU.exit, h⟩
theorem WP.seq {a b : Code} (h : WP S a fr H (Sq S b Q)) : WP S (.seq a b) fr H Q := by
  obtain ⟨x, fr', H', h1, h2⟩ := h
  cases x with
  | normal =>
    obtain ⟨y, fr2, H2, h3, h4⟩ := h2
    exact ⟨y, fr2, H2, RU.seq h1 h3, h4⟩
  | _ => exact ⟨_, _, _, RU.seqx h1 (by simp), h2⟩
theorem WP.seqs {a b c : Code} (h : WP S (.seq a b) fr H (Sq S c Q)) : WP S (.seq (.seq a b) c) fr H Q := WP.seq h
theorem WP.condT {c : Operand} {a b : Code} (hc : ev fr c = some (.b true)) (h : WP S a fr H Q) : WP S (.cond c a b) fr H Q := by
  obtain ⟨x, fr', H', h1, h2⟩ := h
  exact ⟨_, _, _, RU.condT hc h1, h2⟩
theorem WP.condF {c : Operand} {a b : Code} (hc : ev fr c = some (.b false)) (h : WP S b fr H Q) : WP S (.cond c a b) fr H Q := by
  obtain ⟨x, fr', H', h1, h2⟩ := h
  exact ⟨_, _, _, RU.condF hc h1, h2⟩
theorem WP.block {id : Nat} {b : Code} (h : WP S b fr H (Bk id Q)) : WP S (.block id b) fr H Q := by
  obtain ⟨x, fr', H', h1, h2⟩ := h
  refine ⟨_, _, _, RU.block h1, ?_⟩
  cases x with
  | exit j =>
    simp only [Bk] at h2
    by_cases e : j = id
    · rw [if_pos e] at h2; simp only [if_pos e]; exact h2
    · rw [if_neg e] at h2; simp only [if_neg e]; exact h2
  | _ => exact h2
theorem WP.of_ru {c : Code} {x : AX} {fr1 : List AV} {H1 : Heap} (h : RU P S c fr H (x, fr1, H1)) (q : Q x fr1 H1) : WP S c fr H Q := ⟨_, _, _, h, q⟩
/-- A loop of at most so many rounds; any way out. -/
theorem WP.loop {b : Code} {Inv : Nat → List AV → Heap → Prop} (n : Nat) (step : ∀ j fr H, j ≤ n → Inv j fr H → WP S b fr H (Lp Q fun fr' H' => j < n ∧ Inv (j + 1) fr' H')) : ∀ (k j : Nat) (fr : List AV) (H : Heap), j + k = n → Inv j fr H → WP S (.loop b) fr H Q
  | k, j, fr, H, hj, hi => by
    obtain ⟨x, fr', H', h1, h2⟩ := step j fr H (by omega) hi
    cases x with
    | normal =>
      obtain ⟨hlt, h2⟩ := h2
      cases k with
      | zero => omega
      | succ k =>
        obtain ⟨y, fr2, H2, h3, h4⟩ := WP.loop n step k (j + 1) fr' H' (by omega) h2
        exact ⟨y, fr2, H2, RU.loop h1 h3, h4⟩
    | _ => exact ⟨_, _, _, RU.loopx h1 (by simp), h2⟩
theorem WP.loop0 {b : Code} (h : WP S b fr H (Lx Q)) : WP S (.loop b) fr H Q := by
  obtain ⟨x, fr', H', h1, hx, h2⟩ := h
  exact ⟨x, fr', H', RU.loopx h1 hx, h2⟩
/-- A function's call. -/
theorem CA.wp {f : FuncId} {fn : Func} {c : Code} {args : List AV} {R : AV → Heap → Prop} (hf : P.funcs[f]? = some fn) (hb : fn.body = some c)
    (h : WP NS c (args ++ List.replicate (fn.ntmps - args.length) (.t [])) H (Fe fn.results.toList R)) (hs : NS f args H = none := by exact NS_none rfl _ _) :
    ∃ v H', CA P NS f args H (v, H') ∧ R v H' := by
  obtain ⟨x, fr1, H1, h1, h2, vs, h3, h4⟩ := h
  exact ⟨packA vs, H1, CA.of hs hf hb h2 h1 h3, h4⟩

/-- A new variable that holds a value. -/
def BoxA (H : Heap) (e : TypeId) (v q : AV) (H1 : Heap) : Prop := q = .p H.length 0 ∧ H1 = H ++ [.cells e .vr v.cells] ∧ v.cells.all AV.one = true
theorem op_box' {e : TypeId} {x : Operand} {v q : AV} {H1 : Heap} (h : ev fr x = some v) (hb : BoxA H e v q H1) : opA P (.box e x) fr H = some (q, H1) := by
  obtain ⟨rfl, rfl, h1⟩ := hb
  exact op_box h h1
/-- A new variable that holds its type's zero. -/
def AllocA (H : Heap) (e : TypeId) (q : AV) (H1 : Heap) : Prop := ∃ z, zeroA P e = some z ∧ q = .p H.length 0 ∧ H1 = H ++ [.cells e .vr z.cells] ∧ z.cells.all AV.one = true
theorem op_alloc' {e : TypeId} {q : AV} {H1 : Heap} (hb : AllocA H e q H1) : opA P (.alloc e) fr H = some (q, H1) := by
  obtain ⟨z, hz, rfl, rfl, h1⟩ := hb
  exact op_alloc hz h1
theorem op_min {x y : Operand} {a b v : AV} {ats : Array TypeId} (h : ev fr x = some a) (h2 : ev fr y = some b) (hv : minA a b = some v) : opA P (.call { callee := .builtin .min, args := #[x, y], argTypes := ats }) fr H = some (v, H) := by simp [opA, h, h2, hv]
theorem op_build {t : TypeId} {parts : Array (Nat × Operand)} {ps : List (Nat × AV)} {v : AV} (h : evs fr parts.toList = some ps) (hv : buildA P t ps = some v) : opA P (.build t parts) fr H = some (v, H) := by simp [opA, h, hv]
theorem op_mkSlice {t : TypeId} {l c : Operand} {a b v : AV} {H1 : Heap} (h : ev fr l = some a) (h2 : ev fr c = some b) (hv : makeSliceA P H t a b = some (v, H1)) : opA P (.makeSlice t l c) fr H = some (v, H1) := by simp [opA, h, h2, hv]

/-- A variable and what it holds. -/
def VarAt (H : Heap) (q : AV) (t : TypeId) (cs : List AV) : Prop := ∃ b, q = .p b 0 ∧ H[b]? = some (.cells t .vr cs)
theorem VarAt.kp {H H' : Heap} {q : AV} {t : TypeId} {cs : List AV} (h : VarAt H q t cs) (k : Kp H H') : VarAt H' q t cs := by
  obtain ⟨b, h1, h2⟩ := h
  exact ⟨b, h1, k.at_ h2⟩
end
theorem box_new {H : Heap} {e : TypeId} {cs : List AV} (h1 : cs.all AV.one = true) : ∃ b H1, BoxA H e (.g cs) (.p b 0) H1 ∧ Kp H H1 ∧ H1[b]? = some (.cells e .vr cs) ∧ H.length ≤ b :=
  ⟨H.length, _, ⟨rfl, rfl, h1⟩, Kp.app _ _, by simp [AV.cells], Nat.le_refl _⟩
theorem alloc_new {H : Heap} {e : TypeId} {z cs : List AV} {sz : Nat} (hz : zeroA P e = some (.g z)) (hz1 : z.all AV.one = true) (hsz : sizeA P e = some sz) (hzl : z.length = sz) (hl : cs.length = sz) (h1 : cs.all AV.one = true) :
    ∃ b H1 H2, AllocA H e (.p b 0) H1 ∧ storeA P H1 e (.p b 0) (.g cs) = some H2 ∧ Kp H H2 ∧ H2[b]? = some (.cells e .vr cs) ∧ H.length ≤ b ∧ Kp H H1 ∧ H1[b]? = some (.cells e .vr z) ∧ b < H1.length := by
  refine ⟨H.length, H ++ [.cells e .vr z], H ++ [.cells e .vr cs], ⟨.g z, hz, rfl, rfl, hz1⟩, ?_, Kp.app _ _, by simp, Nat.le_refl _, Kp.app _ _, by simp, by simp⟩
  have h : (H ++ [Blk.cells e .vr z])[H.length]? = some (.cells e .vr z) := by simp
  have ho : over z cs 0 = cs := by simp [over, hl, hzl]
  have ho2 : over z (AV.g cs).cells 0 = cs := ho
  simp only [storeA, h, hsz]
  rw [if_pos ⟨rfl, hl, by omega, h1⟩, ho2]
  simp

abbrev tT : TypeId := 26
abbrev tF : TypeId := 48
abbrev tG : TypeId := 64
theorem xT0 (b : Nat) : fieldAddrA P 26 (.p b 0) 0 = some (.p b 0) := by kernel_rfl
theorem xT1 (b : Nat) : fieldAddrA P 26 (.p b 0) 1 = some (.p b 1) := by kernel_rfl
theorem xT2 (b : Nat) : fieldAddrA P 26 (.p b 0) 2 = some (.p b 2) := by kernel_rfl
theorem xT3 (b : Nat) : fieldAddrA P 26 (.p b 0) 3 = some (.p b 3) := by kernel_rfl
theorem xT4 (b : Nat) : fieldAddrA P 26 (.p b 0) 4 = some (.p b 4) := by kernel_rfl
theorem xF0 (b : Nat) : fieldAddrA P 48 (.p b 0) 0 = some (.p b 0) := by kernel_rfl
theorem xF1 (b : Nat) : fieldAddrA P 48 (.p b 0) 1 = some (.p b 1) := by kernel_rfl
theorem xF2 (b : Nat) : fieldAddrA P 48 (.p b 0) 2 = some (.p b 2) := by kernel_rfl
theorem xF3 (b : Nat) : fieldAddrA P 48 (.p b 0) 3 = some (.p b 3) := by kernel_rfl
theorem xF4 (b : Nat) : fieldAddrA P 48 (.p b 0) 4 = some (.p b 4) := by kernel_rfl
theorem xF6 (b : Nat) : fieldAddrA P 48 (.p b 0) 6 = some (.p b 6) := by kernel_rfl
theorem xF7 (b : Nat) : fieldAddrA P 48 (.p b 0) 7 = some (.p b 7) := by kernel_rfl
theorem xG0 (b : Nat) : fieldAddrA P 64 (.p b 0) 0 = some (.p b 0) := by kernel_rfl
theorem xG1 (b : Nat) : fieldAddrA P 64 (.p b 0) 1 = some (.p b 1) := by kernel_rfl
theorem aT : aggA P 26 = some true := by kernel_rfl
theorem aF : aggA P 48 = some true := by kernel_rfl
theorem aG : aggA P 64 = some true := by kernel_rfl
theorem zT : sizeA P 26 = some 5 := by kernel_rfl
theorem zF : sizeA P 48 = some 8 := by kernel_rfl
theorem zG : sizeA P 64 = some 2 := by kernel_rfl
theorem a_int : aggA P 3 = some false := by kernel_rfl
theorem a_i64 : aggA P 2 = some false := by kernel_rfl
theorem a_u32 : aggA P 62 = some false := by kernel_rfl
theorem a_bool : aggA P 4 = some false := by kernel_rfl
theorem a_bs : aggA P 22 = some false := by kernel_rfl
theorem a_ts : aggA P 23 = some false := by kernel_rfl
theorem a_gs : aggA P 24 = some false := by kernel_rfl
theorem a_fs : aggA P 30 = some false := by kernel_rfl
section
variable {H : Heap} {b : Nat} {kn : Kn}
/-- A part of a variable. -/
theorem ldk {t ty : TypeId} {cs : List AV} {o : Nat} {v : AV} (h : H[b]? = some (.cells ty kn cs)) (ha : aggA P t = some false) (hv : cs[o]? = some v) : loadA P H t (.p b o) = some v := by simp [loadA, loadAt, h, ha, hv]
theorem ldw {t ty : TypeId} {cs : List AV} {n : Nat} (h : H[b]? = some (.cells ty kn cs)) (ha : aggA P t = some true) (hz : sizeA P t = some n) (hl : cs.length = n) : loadA P H t (.p b 0) = some (.g cs) := by
  have : cs.take n = cs := by rw [← hl, List.take_length]
  simp [loadA, loadAt, h, ha, hz, hl, this]
end
section
variable {S : CallA} {fr fr1 : List AV} {H H1 : Heap} {ops : Array Oper} {l : List Oper} {v : AV}
theorem opy {o : Op} (h : opA P o fr H = some (v, H1) := by first | with_reducible exact op_move (by with_unfolding_all exact rfl) | with_reducible exact op_assign (by with_unfolding_all exact rfl) | with_reducible exact op_fieldAddr (by with_unfolding_all exact rfl) (by first | exact xT0 _ | exact xT1 _ | exact xT2 _ | exact xT3 _ | exact xT4 _ | exact xF0 _ | exact xF1 _ | exact xF2 _ | exact xF3 _ | exact xF4 _ | exact xF6 _ | exact xF7 _ | exact xG0 _ | exact xG1 _ | assumption) | with_reducible exact op_load (by with_unfolding_all exact rfl) (by first | assumption | exact ldw (by assumption) aT zT (by with_unfolding_all exact rfl) | exact ldw (by assumption) aF zF (by with_unfolding_all exact rfl) | exact ldw (by assumption) aG zG (by with_unfolding_all exact rfl) | exact ldk (by assumption) (by first | exact a_int | exact a_i64 | exact a_u32 | exact a_bool | exact a_bs | exact a_ts | exact a_gs | exact a_fs) (by with_unfolding_all exact rfl)) | with_reducible exact op_len (by with_unfolding_all exact rfl) (by assumption) | with_reducible exact op_bin (c := true) (by with_unfolding_all exact rfl) (by with_unfolding_all exact rfl) (by with_unfolding_all exact rfl) (by assumption) | with_reducible exact op_bin (c := false) (by with_unfolding_all exact rfl) (by with_unfolding_all exact rfl) (by with_unfolding_all exact rfl) (by assumption) | with_reducible exact op_box' (by with_unfolding_all exact rfl) (by assumption) | with_reducible exact op_alloc' (by assumption) | with_reducible exact op_store (by with_unfolding_all exact rfl) (by with_unfolding_all exact rfl) (by assumption) | with_reducible exact op_un (by with_unfolding_all exact rfl) (by with_unfolding_all exact rfl) | with_reducible exact op_pickT (by with_unfolding_all exact rfl) (by with_unfolding_all exact rfl) | with_reducible exact op_pickF (by with_unfolding_all exact rfl) (by with_unfolding_all exact rfl) | with_reducible exact op_extract (by with_unfolding_all exact rfl) (by with_unfolding_all exact rfl) | with_reducible exact op_sliceHi (by with_unfolding_all exact rfl) (by with_unfolding_all exact rfl) (by assumption) | with_reducible exact op_buildSlice (by with_unfolding_all exact rfl) (by assumption) | with_reducible exact op_append (by with_unfolding_all exact rfl) (by with_unfolding_all exact rfl) (by with_unfolding_all exact rfl) (by first | exact elemBs | assumption) (by first | with_unfolding_all exact rfl | assumption) (by assumption) | with_reducible exact op_copy (by with_unfolding_all exact rfl) (by with_unfolding_all exact rfl) (by assumption) | with_reducible exact op_min (by with_unfolding_all exact rfl) (by with_unfolding_all exact rfl) (by assumption) | with_reducible exact op_conv (by with_unfolding_all exact rfl) (by assumption) | with_reducible exact op_indexAddr (by with_unfolding_all exact rfl) (by with_unfolding_all exact rfl) (by assumption) | with_reducible exact op_build (by with_unfolding_all exact rfl) (by assumption) | with_reducible exact op_mkSlice (by with_unfolding_all exact rfl) (by with_unfolding_all exact rfl) (by assumption)) : opA P o fr H = some (v, H1) := h
theorem OS.sy {o : Oper} {r : List AV × Heap} (hg : wantA ops fr o.guard = some true) (hc : isCall o.op = false) (h2 : OS P S ops l (putA fr o.dst v) H1 r) (h1 : opA P o.op fr H = some (v, H1) := by exact opy) : OS P S ops (o :: l) fr H r := OS.opg hg hc h1 h2
/-- Behind a region: what is behind it. -/
theorem WP.rg {id : Nat} {c : Code} {Q : Ends} (k : WP S c fr1 H1 Q)
    (h : OS P S ops ops.toList fr H (fr1, H1) := by repeat (first | with_reducible exact OS.nil | (refine OS.sy rfl rfl ?_; dsimp only [AV.cells, putA, List.set_cons_zero, List.set_cons_succ]) | (refine OS.skip rfl ?_; dsimp only [AV.cells, putA, List.set_cons_zero, List.set_cons_succ]) | (refine OS.cl rfl rfl rfl ?_; dsimp only [AV.cells, putA, List.set_cons_zero, List.set_cons_succ]))) : WP S (.seq (.region id ops false) c) fr H Q := by
  obtain ⟨x, fr', H', h1, h2⟩ := k
  exact ⟨x, fr', H', RU.seq (RU.region h) h1, h2⟩
/-- A region that ends a code. -/
theorem WP.re {id : Nat} {Q : Ends} (k : Q .normal fr1 H1)
    (h : OS P S ops ops.toList fr H (fr1, H1) := by repeat (first | with_reducible exact OS.nil | (refine OS.sy rfl rfl ?_; dsimp only [AV.cells, putA, List.set_cons_zero, List.set_cons_succ]) | (refine OS.skip rfl ?_; dsimp only [AV.cells, putA, List.set_cons_zero, List.set_cons_succ]) | (refine OS.cl rfl rfl rfl ?_; dsimp only [AV.cells, putA, List.set_cons_zero, List.set_cons_succ]))) : WP S (.region id ops false) fr H Q := ⟨_, _, _, RU.region h, k⟩
/-- A drawn region without effects. -/
theorem WP.r0 {id : Nat} {c : Code} {Q : Ends} (k : WP S c fr1 H1 Q)
    (hok : drawOk0 P ops = true := by kernel_rfl)
    (h : OS P S ops ops.toList fr H (fr1, H1) := by repeat (first | with_reducible exact OS.nil | (refine OS.sy rfl rfl ?_; dsimp only [AV.cells, putA, List.set_cons_zero, List.set_cons_succ]) | (refine OS.skip rfl ?_; dsimp only [AV.cells, putA, List.set_cons_zero, List.set_cons_succ]))) : WP S (.seq (.region id ops true) c) fr H Q := by
  obtain ⟨x, fr', H', h1, h2⟩ := k
  exact ⟨x, fr', H', RU.seq (RU.draw0 hok h) h1, h2⟩
/-- Operations of a drawn region, as a pair. -/
def OpsP (P : Program) (call : CallA) (R : Heap → Prop) (l : List Oper) (fr : List AV) (H : Heap) (r : List AV × Heap) : Prop := OpsS P call R l fr H r.1 r.2
/-- A drawn region whose effects stand in one order. -/
theorem WP.rS {id : Nat} {c : Code} {Q : Ends} (R : Heap → Prop) {n0 : Nat} (hR : R H) (h : ∃ fr1 H1, (∀ n, n0 ≤ n → OpsP P (run P S n) R ops.toList fr H (fr1, H1)) ∧ WP S c fr1 H1 Q) (hok : drawOk3 P ops = true := by kernel_rfl) : WP S (.seq (.region id ops true) c) fr H Q := by
  obtain ⟨fr1, H1, h, x, fr', H', h1, h2⟩ := h
  exact ⟨x, fr', H', RU.seq (RU.drawS R hok hR h) h1, h2⟩
theorem WP.rSe {id : Nat} {Q : Ends} (R : Heap → Prop) {n0 : Nat} (hR : R H) (h : ∃ fr1 H1, (∀ n, n0 ≤ n → OpsP P (run P S n) R ops.toList fr H (fr1, H1)) ∧ Q .normal fr1 H1) (hok : drawOk3 P ops = true := by kernel_rfl) : WP S (.region id ops true) fr H Q := by
  obtain ⟨fr1, H1, h, h2⟩ := h
  exact ⟨_, _, _, RU.drawS R hok hR h, h2⟩
theorem OpsP.nil {call : CallA} {R : Heap → Prop} : OpsP P call R [] fr H (fr, H) := OpsS.nil _ _
theorem OpsP.pu {call : CallA} {R : Heap → Prop} {o : Oper} {r : List AV × Heap} (hg : o.guard = none) (he : isEff o.op = false) (h : ∀ H2, R H2 → ∃ H3, opA P o.op fr H2 = some (v, H3)) (t : OpsP P call R l (putA fr o.dst v) H r) : OpsP P call R (o :: l) fr H r := OpsS.pure hg he h t
theorem OpsP.cl {call : CallA} {R : Heap → Prop} {d : Option Tmp} {f : Operand} {args : Array Operand} {ats : Array TypeId} {ty : TypeId} {pos : String} {af : Array Edge} {r : List AV × Heap} {g : FuncId} {as_ : List AV}
    (hf : ev fr f = some (.fn g [])) (ha : evl fr args.toList = some as_) (t : OpsP P call R l (putA fr d v) H1 r) (h1 : call g as_ H = some (v, H1) := by with_reducible assumption) (gr : R H1 := by with_reducible assumption) :
    OpsP P call R (⟨d, .call { callee := .value f, args := args, argTypes := ats }, ty, pos, af, none⟩ :: l) fr H r :=
  OpsS.eff rfl rfl (by rw [← List.append_nil as_] at h1; simp only [oneOp, hf, ha, h1]) gr t
theorem OpsP.op {call : CallA} {R : Heap → Prop} {o : Oper} {r : List AV × Heap} (hg : o.guard = none) (he : isEff o.op = true) (hc : isCall o.op = false) (t : OpsP P call R l (putA fr o.dst v) H1 r) (h1 : opA P o.op fr H = some (v, H1) := by exact opy) (gr : R H1 := by with_reducible assumption) :
    OpsP P call R (o :: l) fr H r := OpsS.eff hg he ((oneOp_pure hc).trans h1) gr t
end
end Go.Proofs.YtjncijimikfdnaaDoor.Rd

/-
  The version that a law takes from a number.
-/
namespace Go.Proofs.YtjncijimikfdnaaDoor.Rd
set_option linter.constructorNameAsVariable false
set_option linter.unusedVariables false
set_option linter.unusedSimpArgs false
open Go Go.Proofs.YtjncijimikfdnaaDoor.Ax Go.Proofs.YtjncijimikfdnaaDoor.Wire
set_option linter.unusedVariables false
set_option maxRecDepth 100000
set_option maxHeartbeats 1000000
theorem remk (n m : Nat) (hm : 0 < m) : binA P .rem 3 false (.i .i64 (n : Int)) (.i .i64 (m : Int)) = some (.i .i64 ((n % m : Nat) : Int)) := by
  show ofSem (Op.intDiv .rem .i64 (n : Int) (m : Int)) = _
  have e : Op.intDiv .rem .i64 (n : Int) (m : Int) = pure (.int .i64 ((n : Int).tmod (m : Int))) := by
    unfold Op.intDiv
    rw [if_neg (by omega)]
  rw [e]
  have : (n : Int).tmod (m : Int) = ((n % m : Nat) : Int) := by rw [Int.tmod_eq_emod_of_nonneg (by omega)]; rfl
  rw [this]
  rfl
theorem ver_walk {H : Heap} {n8 n m s r : Int} (hc : convA P 5 3 (.i .u8 n8) = some (.i .i64 n)) (ha : binA P .add 3 true (.i .i64 m) (.i .i64 1) = some (.i .i64 s)) (hr : binA P .rem 3 false (.i .i64 n) (.i .i64 s) = some (.i .i64 r)) : CA P NS 12 [.i .u8 n8, .i .i64 m] H (.i .i64 r, H) := by
  refine CA.go (fn := Tryd.f12) (vs := [_]) (by kernel_rfl) rfl (by first | exact .inr rfl | exact .inl rfl) ?_
  apply Exists.intro
  apply And.intro
  · dsimp only [Tryd.f12]
    dsimp only [List.length_cons, List.length_nil, List.cons_append, List.nil_append, Nat.reduceSub, Nat.reduceAdd, List.replicate]
    refine RU.seq RU.rg ?_
    refine RU.seq RU.rg ?_
    first | exact RU.ret | exact RU.skip
  · rfl
theorem ver_run {n8 : Int} {most : Nat} (hm : most < 1000) (hn : 0 ≤ n8 ∧ n8 < 256) : ∃ k : Nat, k ≤ most ∧ ∀ H : Heap, CA P NS 12 [.i .u8 n8, .i .i64 (most : Int)] H (.i .i64 (k : Int), H) := by
  obtain ⟨n, rfl⟩ : ∃ n : Nat, n8 = n := ⟨n8.toNat, by omega⟩
  refine ⟨n % (most + 1), by have := Nat.mod_lt n (show 0 < most + 1 by omega); omega, fun H => ver_walk (n := n) (s := ((most + 1 : Nat) : Int)) ?_ ?_ (remk n (most + 1) (by omega))⟩
  · have e : convA P 5 3 (.i .u8 (n : Int)) = some (.i .i64 (IntKind.i64.wrap (n : Int))) := by kernel_rfl
    rw [e]
    simp [IntKind.wrap, IntKind.signed, IntKind.bits]; omega
  · have e : binA P .add 3 true (.i .i64 (most : Int)) (.i .i64 1) = some (.i .i64 (IntKind.i64.wrap ((most : Int) + 1))) := by kernel_rfl
    rw [e]
    simp [IntKind.wrap, IntKind.signed, IntKind.bits]; omega
end Go.Proofs.YtjncijimikfdnaaDoor.Rd

