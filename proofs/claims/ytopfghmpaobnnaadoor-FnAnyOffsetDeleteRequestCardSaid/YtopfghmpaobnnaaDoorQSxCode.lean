import Derived.Test.YtopfghmpaobnnaaDoorQSxOps
/-
  THE CHECKER: code on one way is sound.
-/
namespace Go.Proofs.YtopfghmpaobnnaaDoor.Rd
set_option linter.constructorNameAsVariable false
set_option linter.unusedVariables false
set_option linter.unusedSimpArgs false
open Go Go.Proofs.YtopfghmpaobnnaaDoor.Ax Go.Proofs.YtopfghmpaobnnaaDoor.Wire
set_option linter.unusedVariables false
set_option maxRecDepth 100000
set_option linter.unusedSimpArgs false

/-- An operation, done from some fuel on. -/
def One (o : Oper) (fr : List AV) (H : Heap) (r : AV × Heap) : Prop := ∃ n0, ∀ n, n0 ≤ n → oneOp P (run P NS n) o.op fr H = some r
theorem One.os {o : Oper} {l : List Oper} {ops : Array Oper} {fr : List AV} {H H1 : Heap} {v : AV} {r : List AV × Heap} (hg : wantA ops fr o.guard = some true) (h : One o fr H (v, H1)) (k : OS P NS ops l (putA fr o.dst v) H1 r) : OS P NS ops (o :: l) fr H r := by
  obtain ⟨n1, k1⟩ := h
  obtain ⟨n2, k2⟩ := k
  refine ⟨max n1 n2, fun n hn => ?_⟩
  simp only [opsA, hg, k1 n (by omega), k2 n (by omega)]
theorem One.pure {o : Oper} {fr : List AV} {H H1 : Heap} {v : AV} (hc : isCall o.op = false) (h : opA P o.op fr H = some (v, H1)) : One o fr H (v, H1) := ⟨0, fun n _ => (oneOp_pure hc).trans h⟩
theorem One.call {o : Oper} {f : FuncId} {args : Array Operand} {ats : Array TypeId} {fr : List AV} {H H1 : Heap} {v : AV} {as_ : List AV} (ho : o.op = .call { callee := .value (.func f), args := args, argTypes := ats }) (ha : evl fr args.toList = some as_) (h : CA P NS f as_ H (v, H1)) : One o fr H (v, H1) := by
  obtain ⟨n0, h⟩ := h
  exact ⟨n0, fun n hn => by rw [ho]; simp only [oneOp, ev, ha, List.append_nil]; exact h n hn⟩
theorem evl1 {fr : List AV} {args : Array Operand} {x : Operand} {a : AV} (h : args.toList = [x]) (hx : ev fr x = some a) : evl fr args.toList = some [a] := by
  rw [h]; simp [evl, hx]

theorem opS_sound {C : Cfg} {mode : Option Bool} {inl : Inl} (hC : Prims C) (hI : InlOK C inl) {o : Oper} {s s1 : SS} (hs : opS C mode inl o s = some s1) {st0 : Option B} {σ : Sta} (h : OK C st0 s σ) (hm : ∀ m, mode = some m → σ.st.isSome = m) :
    ∃ a σ1, One o σ.fr σ.H (a, σ1.H) ∧ σ1.fr = putA σ.fr o.dst a ∧ OK C st0 s1 σ1 ∧ Step s s1 σ σ1 ∧ (mode ≠ none → σ1.st = σ.st ∧ s1.evs = s.evs) := by
  unfold opS at hs
  · split at hs
    · rename_i t a x hop
      split at hs
      · rename_i av vv ha hx
        simp only [Option.map_eq_some_iff] at hs
        obtain ⟨s2, hs2, rfl⟩ := hs
        obtain ⟨xa, e1, d1⟩ := evS_sound h.fr ha
        obtain ⟨ya, e2, d2⟩ := evS_sound h.fr hx
        obtain ⟨H1, q1, q2, q3, q4⟩ := h.store hs2 d1 d2
        exact ⟨.u, { σ with H := H1, fr := putA σ.fr o.dst .u }, .pure (by rw [hop]; rfl) (by rw [hop]; exact op_store e1 e2 q1), rfl, q2.put (v := .u) trivial o.dst, q3.put o.dst .u .u, fun _ => ⟨rfl, by rw [(put_fields _ _ _).2.2.1]; exact q4⟩⟩
      · cases hs
    · rename_i f args ats hop
      split at hs
      · rename_i k n fx x hl ha
        split at hs
        · rename_i hc
          obtain ⟨hx, rfl, hfx, hry⟩ := hc
          simp at hs; subst hs
          obtain ⟨xa, e1, rfl⟩ := evS_sound h.fr hx
          obtain ⟨y, H1, st1, c, w, ho, r, hl1, hk, hres⟩ := leaf_both (hC _ _ hl hfx) h.room (h.rd hry)
          obtain ⟨p1, p2⟩ := h.read hry (e := .leaf k n) (vs1 := match σ.st.bind (decK C.flex k n) with | none => [] | some (v, _) => σ.vs ++ [v]) w ho r hl1 hk (by
            show (match σ.st.bind (decK C.flex k n) with | none => _ | some (v, r) => _)
            split at hres
            · rename_i hd; rw [hd]; exact hres
            · rename_i v r hd; rw [hd]; exact ⟨hres.1, rfl, hres.2⟩)
          refine ⟨y, _, .call hop (evl1 ha e1) c, rfl, p1.put (v := .pt (s.base + s.evs.length)) ?_ o.dst, p2.put o.dst _ y, fun hm => absurd rfl hm⟩
          show (σ.η.av ++ [y])[s.base + s.evs.length]? = some y
          rw [← h.avl]; simp
        · cases hs
      · rename_i x hl ha
        split at hs
        · rename_i hc
          obtain ⟨hx, rfl, hry⟩ := hc
          simp at hs; subst hs
          obtain ⟨xa, e1, rfl⟩ := evS_sound h.fr hx
          obtain ⟨y, H1, st1, c, w, ho, r, hl1, hk, hres⟩ := tags_both (hC _ _ hl) h.room (h.rd hry)
          obtain ⟨p1, p2⟩ := h.read hry (e := .tags) (vs1 := match σ.st.bind (Ev.tags.dec true) with | none => [] | some (v, _) => σ.vs ++ [v]) w ho r hl1 hk (by
            show (match σ.st.bind (Ev.tags.dec true) with | none => _ | some (v, r) => _)
            split at hres
            · rename_i hd; rw [hd]; exact hres
            · rename_i v r hd; rw [hd]; exact ⟨hres.1, rfl, hres.2⟩)
          refine ⟨y, _, .call hop (evl1 ha e1) c, rfl, p1.put (v := .pt (s.base + s.evs.length)) ?_ o.dst, p2.put o.dst _ y, fun hm => absurd rfl hm⟩
          show (σ.η.av ++ [y])[s.base + s.evs.length]? = some y
          rw [← h.avl]; simp
        · cases hs
      · rename_i x hl ha
        split at hs
        · rename_i m
          split at hs
          · rename_i hc
            obtain ⟨hx, hry⟩ := hc
            simp at hs; subst hs
            obtain ⟨xa, e1, rfl⟩ := evS_sound h.fr hx
            have c := (hC _ _ hl).run _ _ _ _ _ (h.rd hry)
            rw [hm m rfl] at c
            exact ⟨.b m, { σ with fr := putA σ.fr o.dst (.b m) }, .call hop (evl1 ha e1) c, rfl, h.put (v := .b m) rfl o.dst, (Step.refl s σ).put o.dst _ _, fun _ => ⟨rfl, (put_fields _ _ _).2.2.1⟩⟩
          · cases hs
        · cases hs
      · rename_i x hl ha
        split at hs
        · rename_i m
          split at hs
          · rename_i hc
            obtain ⟨hx, hry⟩ := hc
            simp at hs; subst hs
            obtain ⟨xa, e1, rfl⟩ := evS_sound h.fr hx
            have c := (hC _ _ hl).run _ _ _ _ _ h.room (h.rd hry)
            rw [hm m rfl] at c
            refine ⟨if m then .n else .e, { σ with fr := putA σ.fr o.dst (if m then .n else .e) }, .call hop (evl1 ha e1) c, rfl, h.put ?_ o.dst, (Step.refl s σ).put o.dst _ _, fun _ => ⟨rfl, (put_fields _ _ _).2.2.1⟩⟩
            cases m <;> rfl
          · cases hs
        · cases hs
      · rename_i x hl ha
        split at hs
        · rename_i l o' hx
          simp only [Option.map_eq_some_iff] at hs
          obtain ⟨s2, hs2, rfl⟩ := hs
          obtain ⟨xa, e1, d1⟩ := evS_sound h.fr hx
          obtain ⟨σ1, c, q1, q2, q3, q4, q5⟩ := hI _ _ _ _ _ hs2 st0 σ xa h d1
          exact ⟨.t [], { σ1 with fr := putA σ1.fr o.dst (.t []) }, .call hop (evl1 ha e1) c, by rw [← q1], q2.put (v := .u) trivial o.dst, q3.put o.dst .u (.t []), fun _ => ⟨q5, by rw [(put_fields _ _ _).2.2.1]; exact q4⟩⟩
        · cases hs
      · cases hs
    · rename_i t n ps hop
      split at hs
      · rename_i hc
        obtain ⟨rfl, hps⟩ := hc
        split at hs
        · rename_i e he
          split at hs
          · rename_i sz z hsz hz
            simp at hs; subst hs
            obtain ⟨g1, g2⟩ := h.grow [.cells e .row []]
            refine ⟨.se, { σ with H := σ.H ++ [.cells e .row []], fr := putA σ.fr o.dst .se }, .pure (by rw [hop]; rfl) ?_, rfl, g1.put (v := .z .se) rfl o.dst, g2.put o.dst _ _, fun _ => ⟨rfl, (put_fields _ _ _).2.2.1⟩⟩
            have hnil : ps.toList = [] := by simpa using hps
            rw [hop]
            simp [opA, hnil, evs, buildSliceA, he, hsz, hz, newBlk]
          · cases hs
        · cases hs
      · cases hs
    · rename_i args ats hop
      split at hs
      · rename_i a x t1 t2 ha ht
        split at hs
        · rename_i l e kd hv1 hv2 he hu
          split at hs
          · rename_i sz by_ zs hsz hby hzs
            split at hs
            · rename_i hc
              obtain ⟨c1, c2, c3, rfl⟩ := hc
              simp at hs; subst hs
              obtain ⟨xa, e1, rfl⟩ := evS_sound h.fr hv1
              obtain ⟨ya, e2, n, d1, rfl, d2, d3⟩ := evS_sound h.fr hv2
              obtain ⟨z, z1, rfl, z3⟩ := zerosS_some hzs
              obtain ⟨g1, g2⟩ := h.row d1 d2 (e := e) z3
              have hzl : z.cells.length = sz := by simpa using c2
              refine ⟨.sl σ.H.length 0 n, { σ with η := { σ.η with lv := σ.η.lv ++ [⟨σ.H.length, 0, 0⟩] }, H := σ.H ++ [.cells e .row (zerosA z.cells n)], fr := putA σ.fr o.dst (.sl σ.H.length 0 n) }, .pure (by rw [hop]; rfl) ?_, rfl, g1.put (v := .row s.win.length) ?_ o.dst, g2.put o.dst _ _, fun _ => ⟨rfl, (put_fields _ _ _).2.2.1⟩⟩
              · rw [hop]
                have hb : n * by_ ≤ 140737488355328 := by
                  have := Nat.mul_le_mul (show n ≤ 2147483647 by omega) c3
                  omega
                have hn1 : (n : Int).toNat = n := by omega
                have hzone : (zerosA z.cells n).all AV.one = true := zeros_one z3 n
                simp only [opA, ha, ht, e1, e2, Option.bind_some, hu, appendZ, he, hsz, hby, z1, CK.av]
                rw [if_pos ⟨c1, hzl, z3, by omega, by rw [hn1]; exact hb, by omega⟩, hn1]
                simp only [newBlk, hzone, if_true, Option.map_some]
              · exact ⟨⟨σ.H.length, 0, 0⟩, n, by rw [h.win.1]; simp, d1, rfl⟩
            · cases hs
          · cases hs
        · cases hs
      · cases hs
    · simp only [Option.map_eq_some_iff] at hs
      obtain ⟨v, hv, rfl⟩ := hs
      obtain ⟨hc, a, ha, hd⟩ := pureS_sound h.fr h.win hv
      exact ⟨a, { σ with fr := putA σ.fr o.dst a }, .pure hc ha, rfl, h.put hd o.dst, (Step.refl s σ).put o.dst _ _, fun _ => ⟨rfl, (put_fields _ _ _).2.2.1⟩⟩

theorem wantS_sound {ops : Array Oper} {s : SS} {η : Env} {fr : List AV} (h : FR η s.fr fr) {g : Option (Nat × Bool)} {w : Bool} (hw : wantS ops.toList s g = some w) : wantA ops fr g = some w := by
  unfold wantS at hw
  unfold wantA
  cases g with
  | none => exact hw
  | some x =>
    obtain ⟨j, y⟩ := x
    simp only [Array.getElem?_toList] at hw ⊢
    cases hd : (ops[j]?).bind (·.dst) with
    | none => rw [hd] at hw; cases hw
    | some d =>
      rw [hd] at hw
      simp only at hw ⊢
      split at hw
      · rename_i b hb
        obtain ⟨a, h1, rfl⟩ := FR.at_ h (t := d) hb
        simp only [h1]
        exact hw
      · cases hw
theorem opsS_sound {C : Cfg} {mode : Option Bool} {inl : Inl} (hC : Prims C) (hI : InlOK C inl) {ops : Array Oper} : ∀ (l : List Oper) {s s1 : SS}, opsS C mode inl ops.toList l s = some s1 → ∀ {st0 : Option B} {σ : Sta}, OK C st0 s σ → (∀ m, mode = some m → σ.st.isSome = m) →
    ∃ σ1, OS P NS ops l σ.fr σ.H (σ1.fr, σ1.H) ∧ OK C st0 s1 σ1 ∧ Step s s1 σ σ1 ∧ (mode ≠ none → σ1.st = σ.st ∧ s1.evs = s.evs)
  | [], s, s1, hs, st0, σ, h, hm => by
    simp [opsS] at hs; subst hs
    exact ⟨σ, OS.nil, h, .refl s σ, fun _ => ⟨rfl, rfl⟩⟩
  | o :: l, s, s1, hs, st0, σ, h, hm => by
    unfold opsS at hs
    split at hs
    · rename_i hg
      have hg := wantS_sound h.fr hg
      cases h2 : opS C mode inl o s with
      | none => rw [h2] at hs; cases hs
      | some s2 =>
        rw [h2] at hs
        simp only [Option.bind_some] at hs
        obtain ⟨a, σ2, p1, p2, p3, p4, p5⟩ := opS_sound hC hI h2 h hm
        obtain ⟨σ3, q1, q2, q3, q4⟩ := opsS_sound hC hI (ops := ops) l hs p3 (fun m hm' => by rw [(p5 (by rw [hm']; simp)).1]; exact hm m hm')
        rw [p2] at q1
        exact ⟨σ3, p1.os hg q1, q2, p4.trans q3, fun hm' => ⟨(q4 hm').1.trans (p5 hm').1, (q4 hm').2.trans (p5 hm').2⟩⟩
    · rename_i hg
      have hg := wantS_sound h.fr hg
      obtain ⟨σ3, q1, q2, q3, q4⟩ := opsS_sound hC hI (ops := ops) l hs (h.put (v := .u) (a := .t []) trivial o.dst) hm
      exact ⟨σ3, OS.skip hg q1, q2, ((Step.refl s σ).put o.dst .u (.t [])).trans q3, fun hm' => ⟨(q4 hm').1, (q4 hm').2.trans (put_fields _ _ _).2.2.1⟩⟩
    · cases hs

def XS.ax : XS → AX
  | .normal => .normal
  | .ret => .ret
  | .exit id => .exit id

theorem runS_sound {C : Cfg} {mode : Option Bool} {inl : Inl} (hC : Prims C) (hI : InlOK C inl) : ∀ (n : Nat) (c : Code) {s s1 : SS} {x : XS}, runS C mode inl n c s = some (x, s1) → ∀ {st0 : Option B} {σ : Sta}, OK C st0 s σ → (∀ m, mode = some m → σ.st.isSome = m) →
    ∃ σ1, RU P NS c σ.fr σ.H (x.ax, σ1.fr, σ1.H) ∧ OK C st0 s1 σ1 ∧ Step s s1 σ σ1 ∧ (mode ≠ none → σ1.st = σ.st ∧ s1.evs = s.evs)
  | 0, c, s, s1, x, hs, st0, σ, h, hm => by simp [runS] at hs
  | n + 1, c, s, s1, x, hs, st0, σ, h, hm => by
    cases c with
    | skip =>
      simp [runS] at hs; obtain ⟨rfl, rfl⟩ := hs
      exact ⟨σ, RU.skip, h, .refl s σ, fun _ => ⟨rfl, rfl⟩⟩
    | region id ops dr =>
      cases dr with
      | true => simp [runS] at hs
      | false =>
        simp only [runS, Option.map_eq_some_iff] at hs
        obtain ⟨s2, hs, hh⟩ := hs
        simp at hh; obtain ⟨rfl, rfl⟩ := hh
        obtain ⟨σ1, q1, q2, q3, q4⟩ := opsS_sound hC hI (ops := ops) _ hs h hm
        exact ⟨σ1, RU.region q1, q2, q3, q4⟩
    | seq a b =>
      simp only [runS] at hs
      split at hs
      · rename_i s2 h2
        obtain ⟨σ2, p1, p2, p3, p4⟩ := runS_sound hC hI n a h2 h hm
        obtain ⟨σ3, q1, q2, q3, q4⟩ := runS_sound hC hI n b hs p2 (fun m hm' => by rw [(p4 (by rw [hm']; simp)).1]; exact hm m hm')
        exact ⟨σ3, RU.seq p1 q1, q2, p3.trans q3, fun hm' => ⟨(q4 hm').1.trans (p4 hm').1, (q4 hm').2.trans (p4 hm').2⟩⟩
      · rename_i hr
        obtain ⟨σ2, p1, p2, p3, p4⟩ := runS_sound hC hI n a hs h hm
        refine ⟨σ2, RU.seqx p1 ?_, p2, p3, p4⟩
        cases x with
        | normal => exact absurd hs (fun e => hr _ e)
        | _ => simp [XS.ax]
    | cond cc a b =>
      simp only [runS] at hs
      split at hs
      · rename_i hc
        obtain ⟨xa, e1, rfl⟩ := evS_sound h.fr hc
        obtain ⟨σ2, p1, p2⟩ := runS_sound hC hI n a hs h hm
        exact ⟨σ2, RU.condT e1 p1, p2⟩
      · rename_i hc
        obtain ⟨xa, e1, rfl⟩ := evS_sound h.fr hc
        obtain ⟨σ2, p1, p2⟩ := runS_sound hC hI n b hs h hm
        exact ⟨σ2, RU.condF e1 p1, p2⟩
      · cases hs
    | block id b =>
      simp only [runS] at hs
      split at hs
      · rename_i j s2 h2
        obtain ⟨σ2, p1, p2⟩ := runS_sound hC hI n b h2 h hm
        split at hs
        · rename_i hj; subst hj
          simp at hs; obtain ⟨rfl, rfl⟩ := hs
          exact ⟨σ2, RU.block0 p1, p2⟩
        · rename_i hj
          simp at hs; obtain ⟨rfl, rfl⟩ := hs
          have := RU.block (id := id) p1
          simp only [XS.ax] at this
          rw [if_neg hj] at this
          exact ⟨σ2, this, p2⟩
      · rename_i hr
        obtain ⟨σ2, p1, p2⟩ := runS_sound hC hI n b hs h hm
        cases x with
        | normal => exact ⟨σ2, RU.blockN p1, p2⟩
        | ret => exact ⟨σ2, RU.blockR p1, p2⟩
        | exit j => exact absurd hs (fun e => hr _ _ e)
    | loop b =>
      simp only [runS] at hs
      split at hs
      · cases hs
      · rename_i hr
        obtain ⟨σ2, p1, p2⟩ := runS_sound hC hI n b hs h hm
        cases x with
        | normal => exact absurd hs (fun e => hr _ e)
        | ret => exact ⟨σ2, RU.loopx p1 (by simp [XS.ax]), p2⟩
        | exit j => exact ⟨σ2, RU.loopx p1 (by simp [XS.ax]), p2⟩
    | exit id =>
      simp [runS] at hs; obtain ⟨rfl, rfl⟩ := hs
      exact ⟨σ, RU.exit, h, .refl _ σ, fun _ => ⟨rfl, rfl⟩⟩
    | ret =>
      simp [runS] at hs; obtain ⟨rfl, rfl⟩ := hs
      exact ⟨σ, RU.ret, h, .refl _ σ, fun _ => ⟨rfl, rfl⟩⟩
    | _ => simp [runS] at hs

theorem runL_sound {C : Cfg} {mode : Option Bool} {inl : Inl} (hC : Prims C) (hI : InlOK C inl) {n : Nat} : ∀ (l : List Code) {s s1 : SS} {x : XS}, runL C mode inl n l s = some (x, s1) → ∀ {st0 : Option B} {σ : Sta}, OK C st0 s σ → (∀ m, mode = some m → σ.st.isSome = m) →
    ∃ σ1, RUs l σ.fr σ.H (x.ax, σ1.fr, σ1.H) ∧ OK C st0 s1 σ1 ∧ Step s s1 σ σ1 ∧ (mode ≠ none → σ1.st = σ.st ∧ s1.evs = s.evs)
  | [], s, s1, x, hs, st0, σ, h, hm => by
    simp [runL] at hs; obtain ⟨rfl, rfl⟩ := hs
    exact ⟨σ, rfl, h, .refl _ σ, fun _ => ⟨rfl, rfl⟩⟩
  | c :: l, s, s1, x, hs, st0, σ, h, hm => by
    unfold runL at hs
    split at hs
    · rename_i s2 h2
      obtain ⟨σ2, p1, p2, p3, p4⟩ := runS_sound hC hI n c h2 h hm
      obtain ⟨σ3, q1, q2, q3, q4⟩ := runL_sound hC hI l hs p2 (fun m hm' => by rw [(p4 (by rw [hm']; simp)).1]; exact hm m hm')
      exact ⟨σ3, RUs.cons p1 q1, q2, p3.trans q3, fun hm' => ⟨(q4 hm').1.trans (p4 hm').1, (q4 hm').2.trans (p4 hm').2⟩⟩
    · rename_i hr
      obtain ⟨σ2, p1, p2⟩ := runS_sound hC hI n c hs h hm
      refine ⟨σ2, RUs.stop p1 ?_, p2⟩
      cases x with
      | normal => exact absurd hs (fun e => hr _ e)
      | _ => simp [XS.ax]
end Go.Proofs.YtopfghmpaobnnaaDoor.Rd

