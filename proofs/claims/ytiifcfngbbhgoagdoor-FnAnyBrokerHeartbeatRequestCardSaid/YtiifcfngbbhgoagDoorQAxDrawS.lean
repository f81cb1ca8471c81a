/-
  THE ABSTRACT MACHINE: regions that draw their order: (1) the effects stand in one order and the other operations come to the same at every heap that comes of the first one; (2) no effects, guards allowed.
-/
import Derived.Test.YtiifcfngbbhgoagDoorQAxDraw2
set_option linter.constructorNameAsVariable false
set_option linter.unusedVariables false
set_option linter.unusedSimpArgs false
namespace Go.Proofs.YtiifcfngbbhgoagDoor.Ax
open Go
inductive OpsS (P : Program) (call : CallA) (R : Heap → Prop) : List Oper → List AV → Heap → List AV → Heap → Prop
  | nil (fr : List AV) (H : Heap) : OpsS P call R [] fr H fr H
  | eff {o : Oper} {l : List Oper} {fr fr' : List AV} {H H1 H' : Heap} {v : AV} (hg : o.guard = none) (he : isEff o.op = true) (h : oneOp P call o.op fr H = some (v, H1)) (g : R H1) (t : OpsS P call R l (putA fr o.dst v) H1 fr' H') : OpsS P call R (o :: l) fr H fr' H'
  | pure {o : Oper} {l : List Oper} {fr fr' : List AV} {H H' : Heap} {v : AV} (hg : o.guard = none) (he : isEff o.op = false) (h : ∀ H2, R H2 → ∃ H3, opA P o.op fr H2 = some (v, H3)) (t : OpsS P call R l (putA fr o.dst v) H fr' H') : OpsS P call R (o :: l) fr H fr' H'
def effOk3 (ops : Array Oper) : Bool := (statEs ops.toList []).all fun e => !e.eff || decide (e.no ≤ e.lo)
def drawOk3 (P : Program) (ops : Array Oper) : Bool := P.follows .mixedOrders && edgesOk ops.toList && slotsOk ops ops.toList && dstsOk ops.toList && effOk3 ops
theorem ops_looks {ops : Array Oper} {o : Oper} : ∀ x ∈ o.op.operands, ∀ t, x = .tmp t → t ∈ o.looksAt ops := by
  intro x hx t ht
  unfold Oper.looksAt
  refine List.mem_append_left _ (List.mem_filterMap.2 ⟨x, by simpa using hx, ?_⟩)
  rw [ht]
theorem lexA_S {P : Program} {call : CallA} {R : Heap → Prop} {ops : Array Oper} : ∀ (l : List Oper) (fr : List AV) (H : Heap) (fr' : List AV) (H' : Heap), OpsS P call R l fr H fr' H' → R H → ∀ (es es0 : List Ent) (Hs : List Heap), (∀ h ∈ Hs, R h) → es.map Ent.key = es0.map Ent.key →
    (∀ e ∈ es, e.eff = false → ∀ H2, R H2 → ∃ H3, opA P e.o.op e.fr H2 = some (e.val, H3)) →
    ∃ es' Hs', lexA P call ops l es Hs fr H = some (es', Hs', fr', H') ∧ (∀ h ∈ Hs', R h) ∧ es'.map Ent.key = (statEs l es0).map Ent.key ∧ (∀ e ∈ es', e.eff = false → ∀ H2, R H2 → ∃ H3, opA P e.o.op e.fr H2 = some (e.val, H3)) := by
  intro l fr H fr' H' h
  induction h with
  | nil fr H => intro _ es es0 Hs hr hk hg; exact ⟨es, Hs, rfl, hr, hk, hg⟩
  | @eff o l fr fr' H H1 H' v hgd he hv g _ ih =>
    intro hR es es0 Hs hr hk hg
    have hr2 : oneOp P call o.op (restr (o.looksAt ops) fr) H = some (v, H1) := by rw [oneOp_restr o.op ops_looks]; exact hv
    have hw : wantA ops (restr (o.looksAt ops) fr) o.guard = some true := by rw [hgd]; rfl
    obtain ⟨es', Hs', h1, h2, h3, h4⟩ := ih g (es ++ [⟨o, true, true, countEff es, loOf es o.after.toList, v, restr (o.looksAt ops) fr⟩]) (es0 ++ [⟨o, true, isEff o.op, countEff es0, loOf es0 o.after.toList, .u, []⟩]) (Hs ++ [H1])
      (fun h hm => by
        rcases List.mem_append.1 hm with hm | hm
        · exact hr h hm
        · simp at hm; subst hm; exact g) (by simp [hk, Ent.key, he, key_count hk, key_lo hk]) (fun e hm hf => by
        rcases List.mem_append.1 hm with hm | hm
        · exact hg e hm hf
        · simp at hm; subst hm; cases hf)
    refine ⟨es', Hs', ?_, h2, h3, h4⟩
    unfold lexA
    simp only [hw, he, if_true, hr2]
    exact h1
  | @pure o l fr fr' H H' v hgd he hv _ ih =>
    intro hR es es0 Hs hr hk hg
    have hw : wantA ops (restr (o.looksAt ops) fr) o.guard = some true := by rw [hgd]; rfl
    have hv2 : ∀ H2, R H2 → ∃ H3, opA P o.op (restr (o.looksAt ops) fr) H2 = some (v, H3) := fun H2 q => by rw [opA_restr o.op ops_looks]; exact hv H2 q
    obtain ⟨es', Hs', h1, h2, h3, h4⟩ := ih hR (es ++ [⟨o, true, false, countEff es, loOf es o.after.toList, v, restr (o.looksAt ops) fr⟩]) (es0 ++ [⟨o, true, isEff o.op, countEff es0, loOf es0 o.after.toList, .u, []⟩]) Hs hr
      (by simp [hk, Ent.key, he, key_count hk, key_lo hk]) (fun e hm hf => by
        rcases List.mem_append.1 hm with hm | hm
        · exact hg e hm hf
        · simp at hm; subst hm; exact hv2)
    refine ⟨es', Hs', ?_, h2, h3, h4⟩
    obtain ⟨H3, hq⟩ := hv2 H hR
    unfold lexA
    simp only [hw, he, hq]
    exact h1
theorem draw_S {P : Program} {call : CallA} {R : Heap → Prop} {ops : Array Oper} {H H' : Heap} {fr fr' : List AV} (hok : drawOk3 P ops = true) (hR : R H) (h : OpsS P call R ops.toList fr H fr' H') : drawA P call ops fr H = some (fr', H') := by
  unfold drawOk3 at hok
  simp only [Bool.and_eq_true] at hok
  obtain ⟨⟨⟨⟨a, b⟩, c⟩, d⟩, e⟩ := hok
  obtain ⟨es', Hs', h1, h2, h3, h4⟩ := lexA_S (ops := ops) _ _ _ _ _ h hR [] [] [H] (fun h hm => by simp at hm; subst hm; exact hR) rfl (fun e he => by simp at he)
  unfold drawA
  simp only [a, b, c, d, Bool.and_self, if_true, h1]
  rw [if_pos]
  rw [List.all_eq_true]
  rintro ⟨x, nx⟩ hx
  have hx := (List.mem_zipIdx_iff_getElem?.1 hx)
  have hx : x ∈ es' := List.mem_of_getElem? hx
  unfold effOk3 at e
  rw [List.all_eq_true] at e
  have hkx : x.key ∈ es'.map Ent.key := List.mem_map_of_mem hx
  rw [h3] at hkx
  obtain ⟨y, hy, hxy⟩ := List.mem_map.1 hkx
  have hy2 := e y hy
  have k1 : y.eff = x.eff := congrArg (fun z => z.2.2.1) hxy
  have k2 : y.no = x.no := congrArg (fun z => z.2.2.2.1) hxy
  have k3 : y.lo = x.lo := congrArg (fun z => z.2.2.2.2) hxy
  rw [k1, k2, k3] at hy2
  cases hxe : x.eff with
  | true => simp [hxe] at hy2; simp [hy2]
  | false =>
    have : floatOk P x (Hs'.take (hiOf es' nx + 1)) = true := by
      unfold floatOk
      rw [List.all_eq_true]
      intro h hh
      obtain ⟨H3, hval⟩ := h4 x hx hxe h (h2 h (List.mem_of_mem_take (List.mem_of_mem_drop hh)))
      rw [hval]
      exact sameV_refl _
    simp [this]
theorem RU.drawS {P : Program} {S : CallA} {id : Nat} {ops : Array Oper} {fr fr1 : List AV} {H H1 : Heap} (R : Heap → Prop) (hok : drawOk3 P ops = true) (hR : R H) {n0 : Nat} (h : ∀ n, n0 ≤ n → OpsS P (run P S n) R ops.toList fr H fr1 H1) : RU P S (.region id ops true) fr H (.normal, fr1, H1) := by
  refine ⟨n0 + 1, fun n hn => ?_⟩
  obtain ⟨m, rfl⟩ : ∃ m, n = m + 1 := ⟨n - 1, by omega⟩
  have := draw_S hok hR (h m (by omega))
  simp only [run] at this
  simp [exec, this]
theorem lexA_app {P : Program} {call : CallA} {ops : Array Oper} : ∀ (l r : List Oper) (es : List Ent) (Hs : List Heap) (fr : List AV) (H : Heap), lexA P call ops (l ++ r) es Hs fr H = (lexA P call ops l es Hs fr H).bind fun x => lexA P call ops r x.1 x.2.1 x.2.2.1 x.2.2.2
  | [], r, es, Hs, fr, H => rfl
  | o :: l, r, es, Hs, fr, H => by
    have ih := lexA_app (P := P) (call := call) (ops := ops) l r
    show lexA P call ops (o :: (l ++ r)) es Hs fr H = (lexA P call ops (o :: l) es Hs fr H).bind _
    cases hw : wantA ops (restr (o.looksAt ops) fr) o.guard with
    | none => simp only [lexA, hw, Option.bind_none]
    | some b =>
      cases b with
      | false => simp only [lexA, hw, ih]
      | true =>
        cases he : isEff o.op with
        | true =>
          cases hv : oneOp P call o.op (restr (o.looksAt ops) fr) H with
          | none => simp only [lexA, hw, he, if_true, hv, Option.bind_none]
          | some x => simp only [lexA, hw, he, if_true, hv, ih]
        | false =>
          cases hv : opA P o.op (restr (o.looksAt ops) fr) H with
          | none => simp only [lexA, hw, he, Bool.false_eq_true, if_false, hv, Option.bind_none]
          | some x => simp only [lexA, hw, he, Bool.false_eq_true, if_false, hv, ih]
theorem countEff_app1 (es : List Ent) (e : Ent) : countEff (es ++ [e]) = countEff es + if e.eff then 1 else 0 := by
  unfold countEff
  rw [List.filter_append]
  cases h : e.eff <;> simp [h]
theorem lexA_len {P : Program} {call : CallA} {ops : Array Oper} : ∀ (l : List Oper) {es es' : List Ent} {Hs Hs' : List Heap} {fr fr' : List AV} {H H' : Heap}, lexA P call ops l es Hs fr H = some (es', Hs', fr', H') → Hs'.length + countEff es = Hs.length + countEff es' ∧ es'.length = es.length + l.length
  | [], es, es', Hs, Hs', fr, fr', H, H', h => by
    simp [lexA] at h
    obtain ⟨rfl, rfl, _⟩ := h
    simp
  | o :: l, es, es', Hs, Hs', fr, fr', H, H', h => by
    unfold lexA at h
    split at h
    · split at h
      · split at h
        · have := lexA_len l h
          rw [countEff_app1] at this
          simp at this ⊢
          omega
        · cases h
      · split at h
        · have := lexA_len l h
          rw [countEff_app1] at this
          simp at this ⊢
          omega
        · cases h
    · have := lexA_len l h
      rw [countEff_app1] at this
      simp at this ⊢
      omega
    · cases h
theorem statEs_app : ∀ (l r : List Oper) (es : List Ent), statEs (l ++ r) es = statEs r (statEs l es)
  | [], r, es => rfl
  | o :: l, r, es => by simp only [List.cons_append, statEs]; exact statEs_app l r _
theorem hiOf_le {es : List Ent} {i : Nat} {E : Ent} (hE : E ∈ es) (h1 : E.eff = true) (h2 : behind E.o i = true) : hiOf es i ≤ E.no := by
  have key : ∀ (l : List Ent) (m : Nat), E ∈ l → l.foldr (fun E m => if E.eff && behind E.o i then min E.no m else m) m ≤ E.no := by
    intro l
    induction l with
    | nil => intro m h; cases h
    | cons x r ih =>
      intro m h
      simp only [List.foldr_cons]
      rcases List.mem_cons.1 h with rfl | h
      · simp [h1, h2]; omega
      · have := ih m h
        split
        · omega
        · exact this
  exact key es es.length hE
def lastOk (ops : Array Oper) : Bool := match ops.toList.getLast? with
  | some o => isEff o.op && (List.range (ops.size - 1)).all fun k => behind o k
  | none => false
def drawOkL (P : Program) (ops : Array Oper) : Bool := drawOk3 P ops && lastOk ops
theorem draw_L {P : Program} {call : CallA} {R : Heap → Prop} {ops : Array Oper} {init : List Oper} {last : Oper} {H H1 H2 : Heap} {fr fr1 : List AV} {v : AV} (hops : ops.toList = init ++ [last]) (hok : drawOkL P ops = true) (hR : R H) (h : OpsS P call R init fr H fr1 H1)
    (hg : last.guard = none) (hv : oneOp P call last.op fr1 H1 = some (v, H2)) : drawA P call ops fr H = some (putA fr1 last.dst v, H2) := by
  unfold drawOkL drawOk3 at hok
  simp only [Bool.and_eq_true] at hok
  obtain ⟨⟨⟨⟨⟨a, b⟩, c⟩, d⟩, e⟩, g⟩ := hok
  unfold lastOk at g
  rw [hops, List.getLast?_append] at g
  simp only [List.getLast?_singleton, Option.some_or, Bool.and_eq_true] at g
  obtain ⟨he, g⟩ := g
  have hsz : ops.size - 1 = init.length := by rw [← Array.length_toList, hops]; simp
  rw [hsz, List.all_eq_true] at g
  obtain ⟨es', Hs', h1, h2, h3, h4⟩ := lexA_S (ops := ops) _ _ _ _ _ h hR [] [] [H] (fun h hm => by simp at hm; subst hm; exact hR) rfl (fun e he => by simp at he)
  obtain ⟨hl1, hl2⟩ := lexA_len _ h1
  simp [countEff] at hl1 hl2
  have hcl : Hs'.length = countEff es' + 1 := by unfold countEff; omega
  have hr2 : oneOp P call last.op (restr (last.looksAt ops) fr1) H1 = some (v, H2) := by rw [oneOp_restr last.op ops_looks]; exact hv
  have hw : wantA ops (restr (last.looksAt ops) fr1) last.guard = some true := by rw [hg]; rfl
  have hlex : lexA P call ops ops.toList [] [H] fr H = some (es' ++ [⟨last, true, true, countEff es', loOf es' last.after.toList, v, restr (last.looksAt ops) fr1⟩], Hs' ++ [H2], putA fr1 last.dst v, H2) := by
    have he' : lexA P call ops ops.toList [] [H] fr H = lexA P call ops (init ++ [last]) [] [H] fr H := by rw [hops]
    rw [he', lexA_app, h1]
    simp only [Option.bind_some]
    unfold lexA
    simp only [hw, he, if_true, hr2]
    rfl
  unfold drawA
  simp only [a, b, c, d, Bool.and_self, if_true, hlex]
  rw [if_pos]
  rw [List.all_eq_true]
  rintro ⟨x, nx⟩ hx
  have hx := (List.mem_zipIdx_iff_getElem?.1 hx)
  have hkey : (es' ++ [(⟨last, true, true, countEff es', loOf es' last.after.toList, v, restr (last.looksAt ops) fr1⟩ : Ent)]).map Ent.key = (statEs ops.toList []).map Ent.key := by
    rw [hops, statEs_app]
    simp only [statEs, List.map_append, h3, List.map_cons, List.map_nil, Ent.key, he, key_count h3, key_lo h3]
  unfold effOk3 at e
  rw [List.all_eq_true] at e
  have hkx : x.key ∈ (es' ++ [(⟨last, true, true, countEff es', loOf es' last.after.toList, v, restr (last.looksAt ops) fr1⟩ : Ent)]).map Ent.key := List.mem_map_of_mem (List.mem_of_getElem? hx)
  rw [hkey] at hkx
  obtain ⟨y, hy, hxy⟩ := List.mem_map.1 hkx
  have hy2 := e y hy
  have k1 : y.eff = x.eff := congrArg (fun z => z.2.2.1) hxy
  have k2 : y.no = x.no := congrArg (fun z => z.2.2.2.1) hxy
  have k3 : y.lo = x.lo := congrArg (fun z => z.2.2.2.2) hxy
  rw [k1, k2, k3] at hy2
  cases hxe : x.eff with
  | true => simp [hxe] at hy2; simp [hy2]
  | false =>
    have hx' : es'[nx]? = some x := by
      rw [List.getElem?_append] at hx
      split at hx
      · exact hx
      · rename_i hge
        have hlt : nx - es'.length < 1 := by have := (List.getElem?_eq_some_iff.1 hx).1; simpa using this
        have h0 : nx - es'.length = 0 := by omega
        rw [h0] at hx
        simp at hx
        subst hx
        cases hxe
    have hnx : nx < es'.length := (List.getElem?_eq_some_iff.1 hx').1
    have hhi := hiOf_le (es := es' ++ [(⟨last, true, true, countEff es', loOf es' last.after.toList, v, restr (last.looksAt ops) fr1⟩ : Ent)]) (i := nx) (E := ⟨last, true, true, countEff es', loOf es' last.after.toList, v, restr (last.looksAt ops) fr1⟩) (by simp) rfl (g nx (List.mem_range.2 (by omega)))
    have hhi : hiOf (es' ++ [(⟨last, true, true, countEff es', loOf es' last.after.toList, v, restr (last.looksAt ops) fr1⟩ : Ent)]) nx ≤ countEff es' := hhi
    generalize hiOf (es' ++ [(⟨last, true, true, countEff es', loOf es' last.after.toList, v, restr (last.looksAt ops) fr1⟩ : Ent)]) nx = hi at hhi
    have : floatOk P x ((Hs' ++ [H2]).take (hi + 1)) = true := by
      unfold floatOk
      rw [List.all_eq_true]
      intro h hh
      have hm := List.mem_of_mem_drop hh
      rw [List.take_append_of_le_length (by omega)] at hm
      obtain ⟨H3, hval⟩ := h4 x (List.mem_of_getElem? hx') hxe h (h2 h (List.mem_of_mem_take hm))
      rw [hval]
      exact sameV_refl _
    simp [this]
theorem RU.drawL {P : Program} {S : CallA} {id : Nat} {ops : Array Oper} {init : List Oper} {last : Oper} {fr fr1 : List AV} {H H1 H2 : Heap} {v : AV} (R : Heap → Prop) (hops : ops.toList = init ++ [last]) (hok : drawOkL P ops = true) (hR : R H) {n0 : Nat} (h : ∀ n, n0 ≤ n → OpsS P (run P S n) R init fr H fr1 H1)
    (hg : last.guard = none) (hc : isCall last.op = false) (hv : opA P last.op fr1 H1 = some (v, H2)) : RU P S (.region id ops true) fr H (.normal, putA fr1 last.dst v, H2) := by
  refine ⟨n0 + 1, fun n hn => ?_⟩
  obtain ⟨m, rfl⟩ : ∃ m, n = m + 1 := ⟨n - 1, by omega⟩
  have := draw_L hops hok hR (h m (by omega)) hg (by rw [oneOp_pure hc]; exact hv)
  simp only [run] at this
  simp [exec, this]
theorem RU.drawT {P : Program} {S : CallA} {id : Nat} {ops : Array Oper} {last : Oper} {fr fr1 : List AV} {H H1 H2 : Heap} {v : AV} (R : Heap → Prop) (hok : drawOkL P ops = true) (hR : R H) {n0 : Nat} (hl : ops.toList.getLast? = some last) (h : ∀ n, n0 ≤ n → OpsS P (run P S n) R ops.toList.dropLast fr H fr1 H1)
    (hg : last.guard = none) (hc : isCall last.op = false) (hv : opA P last.op fr1 H1 = some (v, H2)) : RU P S (.region id ops true) fr H (.normal, putA fr1 last.dst v, H2) :=
  RU.drawL R (init := ops.toList.dropLast) (last := last) (by
    obtain ⟨ys, e⟩ := List.getLast?_eq_some_iff.1 hl
    rw [e]; simp) hok hR h hg hc hv
def drawOk0 (P : Program) (ops : Array Oper) : Bool := P.follows .mixedOrders && edgesOk ops.toList && slotsOk ops ops.toList && dstsOk ops.toList && ops.toList.all (fun o => !isEff o.op)
theorem want_restr {ops : Array Oper} {o : Oper} {fr : List AV} : wantA ops (restr (o.looksAt ops) fr) o.guard = wantA ops fr o.guard := by
  cases hg : o.guard with
  | none => rfl
  | some g =>
    obtain ⟨j, w⟩ := g
    unfold wantA
    simp only
    cases hd : (ops[j]?).bind (·.dst) with
    | none => rfl
    | some d =>
      have hm : d ∈ o.looksAt ops := by
        unfold Oper.looksAt
        refine List.mem_append_right _ ?_
        simp [hg, hd]
      simp only [restr_at]
      cases fr[d]? <;> simp [hm]
theorem lexA_0 {P : Program} {call : CallA} {ops : Array Oper} : ∀ (l : List Oper) (fr : List AV) (H : Heap) (fr' : List AV) (H' : Heap), (∀ o ∈ l, isEff o.op = false) → opsA P call ops l fr H = some (fr', H') → ∀ (es : List Ent),
    (∀ e ∈ es, e.eff = false ∧ (e.wanted = true → ∃ H3, opA P e.o.op e.fr H = some (e.val, H3))) →
    H' = H ∧ ∃ es', lexA P call ops l es [H] fr H = some (es', [H], fr', H') ∧ (∀ e ∈ es', e.eff = false ∧ (e.wanted = true → ∃ H3, opA P e.o.op e.fr H = some (e.val, H3)))
  | [], fr, H, fr', H', _, h, es, hg => by
    simp [opsA] at h
    obtain ⟨rfl, rfl⟩ := h
    exact ⟨rfl, es, rfl, hg⟩
  | o :: l, fr, H, fr', H', ha, h, es, hg => by
    have he' : isEff o.op = false := ha o (by simp)
    have hcl : isCall o.op = false := by
      cases ho : o.op <;> simp [isCall]
      rename_i c
      obtain ⟨cl, _, _⟩ := c
      cases cl <;> simp [ho, isEff] at *
    simp only [opsA] at h
    split at h
    · rename_i hw
      split at h
      rotate_left
      · cases h
      rename_i v H1 hv
      have hv2 := hv
      rw [oneOp_pure hcl] at hv2
      obtain rfl : H1 = H := float_heap he' hv2
      have hr2 : opA P o.op (restr (o.looksAt ops) fr) H1 = some (v, H1) := by rw [opA_restr o.op ops_looks]; exact hv2
      obtain ⟨h0, es', h1, h4⟩ := lexA_0 l _ _ _ _ (fun x hx => ha x (by simp [hx])) h (es ++ [⟨o, true, false, countEff es, loOf es o.after.toList, v, restr (o.looksAt ops) fr⟩]) (fun e hm => by
        rcases List.mem_append.1 hm with hm | hm
        · exact hg e hm
        · simp at hm; subst hm; exact ⟨rfl, fun _ => ⟨_, hr2⟩⟩)
      refine ⟨h0, es', ?_, h4⟩
      unfold lexA
      simp only [want_restr, hw, he', hr2]
      exact h1
    · rename_i hw
      obtain ⟨h0, es', h1, h4⟩ := lexA_0 l _ _ _ _ (fun x hx => ha x (by simp [hx])) h (es ++ [⟨o, false, false, countEff es, loOf es o.after.toList, .t [], restr (o.looksAt ops) fr⟩]) (fun e hm => by
        rcases List.mem_append.1 hm with hm | hm
        · exact hg e hm
        · simp at hm; subst hm; exact ⟨rfl, fun h => by cases h⟩)
      refine ⟨h0, es', ?_, h4⟩
      unfold lexA
      simp only [want_restr, hw]
      exact h1
    · cases h
theorem draw_0 {P : Program} {call : CallA} {ops : Array Oper} {H H' : Heap} {fr fr' : List AV} (hok : drawOk0 P ops = true) (h : opsA P call ops ops.toList fr H = some (fr', H')) : drawA P call ops fr H = some (fr', H') := by
  unfold drawOk0 at hok
  simp only [Bool.and_eq_true] at hok
  obtain ⟨⟨⟨⟨a, b⟩, c⟩, d⟩, e⟩ := hok
  rw [List.all_eq_true] at e
  obtain ⟨h0, es', h1, h4⟩ := lexA_0 (ops := ops) _ _ _ _ _ (fun o ho => by simpa using e o ho) h [] (fun e he => by simp at he)
  unfold drawA
  simp only [a, b, c, d, Bool.and_self, if_true, h1]
  rw [if_pos]
  rw [List.all_eq_true]
  rintro ⟨x, nx⟩ hx
  have hx := (List.mem_zipIdx_iff_getElem?.1 hx)
  have hx : x ∈ es' := List.mem_of_getElem? hx
  obtain ⟨hxe, hx2⟩ := h4 x hx
  cases hw : x.wanted with
  | false => simp [hxe]
  | true =>
    obtain ⟨H3, hval⟩ := hx2 hw
    have : floatOk P x (([H] : List Heap).take (hiOf es' nx + 1)) = true := by
      unfold floatOk
      rw [List.all_eq_true]
      intro h hh
      have hh := List.mem_of_mem_take (List.mem_of_mem_drop hh)
      simp at hh
      subst hh
      rw [hval]
      exact sameV_refl _
    rw [show ([H] : List Heap).take (hiOf es' nx + 1) = [H] by simp] at this
    simp [hxe, this]
theorem RU.draw0 {P : Program} {S : CallA} {id : Nat} {ops : Array Oper} {fr fr1 : List AV} {H H1 : Heap} (hok : drawOk0 P ops = true) (h : OS P S ops ops.toList fr H (fr1, H1)) : RU P S (.region id ops true) fr H (.normal, fr1, H1) := by
  obtain ⟨n1, k1⟩ := h
  refine ⟨n1 + 1, fun n hn => ?_⟩
  obtain ⟨m, rfl⟩ : ∃ m, n = m + 1 := ⟨n - 1, by omega⟩
  have := draw_0 hok (k1 m (by omega))
  simp only [run] at this
  simp [exec, this]
end Go.Proofs.YtiifcfngbbhgoagDoor.Ax

