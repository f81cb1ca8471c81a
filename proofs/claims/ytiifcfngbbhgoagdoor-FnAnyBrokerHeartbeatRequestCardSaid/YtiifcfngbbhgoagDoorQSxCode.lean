/-
  THE CHECKER: code on one way is sound.
-/
import Derived.Test.YtiifcfngbbhgoagDoorQSxSt
set_option linter.constructorNameAsVariable false
set_option linter.unusedVariables false
set_option linter.unusedSimpArgs false
namespace Go.Proofs.YtiifcfngbbhgoagDoor.Rd
open Go Go.Proofs.YtiifcfngbbhgoagDoor.Ax Go.Proofs.YtiifcfngbbhgoagDoor.Wire
set_option maxRecDepth 100000
def One (o : Oper) (fr : List AV) (H : Heap) (r : AV × Heap) : Prop := ∃ n0, ∀ n, n0 ≤ n → oneOp P (run P NS n) o.op fr H = some r
theorem One.os {o : Oper} {l : List Oper} {ops : Array Oper} {fr : List AV} {H H1 : Heap} {v : AV} {r : List AV × Heap} (hg : wantA ops fr o.guard = some true) (h : One o fr H (v, H1)) (k : OS P NS ops l (putA fr o.dst v) H1 r) : OS P NS ops (o :: l) fr H r := by
  obtain ⟨n1, k1⟩ := h
  obtain ⟨n2, k2⟩ := k
  refine ⟨max n1 n2, fun n hn => ?_⟩
  simp only [opsA, hg, k1 n (by omega), k2 n (by omega)]
theorem One.pure {o : Oper} {fr : List AV} {H H1 : Heap} {v : AV} (hc : isCall o.op = false) (h : opA P o.op fr H = some (v, H1)) : One o fr H (v, H1) := ⟨0, fun n _ => (oneOp_pure hc).trans h⟩
theorem One.call {o : Oper} {f : FuncId} {args : Array Operand} {ats : Array TypeId} {fr : List AV} {H H1 : Heap} {v : AV} {as_ : List AV} (ho : o.op = .call { callee := .value (.func f), args := args, argTypes := ats }) (ha : evl fr args.toList = some as_) (h : CA P NS f as_ H (v, H1)) : One o fr H (v, H1) := by
  obtain ⟨n0, h⟩ := h
  exact ⟨n0, fun n hn => by rw [ho]; simp only [oneOp, ev, ha, List.append_nil]; exact h n hn⟩
theorem evl1 {fr : List AV} {args : Array Operand} {x : Operand} {a : AV} (h : args.toList = [x]) (hx : ev fr x = some a) : evl fr args.toList = some [a] := by
  rw [h]; simp [evl, hx]
theorem opS_sound {C : Cfg} {mode : Option Bool} {inl : Inl} (hC : Prims C) (hI : InlOK C inl) {o : Oper} {s s1 : SS} (hs : opS C mode inl o s = some s1) {st0 : Option B} {σ : Sta} (h : OK C st0 s σ) (hm : ∀ m, mode = some m → σ.st.isSome = m) :
    ∃ a σ1, One o σ.fr σ.H (a, σ1.H) ∧ σ1.fr = putA σ.fr o.dst a ∧ OK C st0 s1 σ1 ∧ Step s s1 σ σ1 ∧ (mode ≠ none → σ1.st = σ.st ∧ s1.evs = s.evs) := by
  unfold opS at hs
  · split at hs
    · rename_i t a x hop
      split at hs
      · rename_i av vv ha hx
        simp only [Option.map_eq_some_iff] at hs
        obtain ⟨s2, hs2, rfl⟩ := hs
        obtain ⟨xa, e1, d1⟩ := evS_sound h.fr ha
        obtain ⟨ya, e2, d2⟩ := evS_sound h.fr hx
        obtain ⟨H1, q1, q2, q3, q4⟩ := h.store hs2 d1 d2
        exact ⟨.u, { σ with H := H1, fr := putA σ.fr o.dst .u }, .pure (by rw [hop]; rfl) (by rw [hop]; exact op_store e1 e2 q1), rfl, q2.put (v := .u) trivial o.dst, q3.put o.dst .u .u, fun _ => ⟨rfl, by rw [(put_fields _ _ _).2.2.1]; exact q4⟩⟩
      · cases hs
    · rename_i f args ats hop
      split at hs
      · rename_i k n fx x hl ha
        split at hs
        · rename_i hc
          obtain ⟨hx, rfl, hfx, hry⟩ := hc
          simp at hs; subst hs
          obtain ⟨xa, e1, rfl⟩ := evS_sound h.fr hx
          obtain ⟨y, H1, st1, c, w, ho, r, hl1, hk, hres⟩ := leaf_both (hC _ _ hl hfx) h.room (h.rd hry)
          obtain ⟨p1, p2⟩ := h.read hry (e := .leaf k n) (vs1 := match σ.st.bind (decK C.flex k n) with | none => [] | some (v, _) => σ.vs ++ [v]) w ho r hl1 hk (by
            show (match σ.st.bind (decK C.flex k n) with | none => _ | some (v, r) => _)
            split at hres
            · rename_i hd; rw [hd]; exact hres
            · rename_i v r hd; rw [hd]; exact ⟨hres.1, rfl, hres.2⟩)
          refine ⟨y, _, .call hop (evl1 ha e1) c, rfl, p1.put (v := .pt (s.base + s.evs.length)) ?_ o.dst, p2.put o.dst _ y, fun hm => absurd rfl hm⟩
          show (σ.η.av ++ [y])[s.base + s.evs.length]? = some y
          rw [← h.avl]; simp
        · cases hs
      · rename_i x hl ha
        split at hs
        · rename_i hc
          obtain ⟨hx, rfl, hry⟩ := hc
          simp at hs; subst hs
          obtain ⟨xa, e1, rfl⟩ := evS_sound h.fr hx
          obtain ⟨y, H1, st1, c, w, ho, r, hl1, hk, hres⟩ := tags_both (hC _ _ hl) h.room (h.rd hry)
          obtain ⟨p1, p2⟩ := h.read hry (e := .tags) (vs1 := match σ.st.bind (Ev.tags.dec true) with | none => [] | some (v, _) => σ.vs ++ [v]) w ho r hl1 hk (by
            show (match σ.st.bind (Ev.tags.dec true) with | none => _ | some (v, r) => _)
            split at hres
            · rename_i hd; rw [hd]; exact hres
            · rename_i v r hd; rw [hd]; exact ⟨hres.1, rfl, hres.2⟩)
          refine ⟨y, _, .call hop (evl1 ha e1) c, rfl, p1.put (v := .pt (s.base + s.evs.length)) ?_ o.dst, p2.put o.dst _ y, fun hm => absurd rfl hm⟩
          show (σ.η.av ++ [y])[s.base + s.evs.length]? = some y
          rw [← h.avl]; simp
        · cases hs
      · rename_i x hl ha
        split at hs
        · rename_i m
          split at hs
          · rename_i hc
            obtain ⟨hx, hry⟩ := hc
            simp at hs; subst hs
            obtain ⟨xa, e1, rfl⟩ := evS_sound h.fr hx
            have c := (hC _ _ hl).run _ _ _ _ _ (h.rd hry)
            rw [hm m rfl] at c
            exact ⟨.b m, { σ with fr := putA σ.fr o.dst (.b m) }, .call hop (evl1 ha e1) c, rfl, h.put (v := .b m) rfl o.dst, (Step.refl s σ).put o.dst _ _, fun _ => ⟨rfl, (put_fields _ _ _).2.2.1⟩⟩
          · cases hs
        · cases hs
      · rename_i x hl ha
        split at hs
        · rename_i m
          split at hs
          · rename_i hc
            obtain ⟨hx, hry⟩ := hc
            simp at hs; subst hs
            obtain ⟨xa, e1, rfl⟩ := evS_sound h.fr hx
            have c := (hC _ _ hl).run _ _ _ _ _ h.room (h.rd hry)
            rw [hm m rfl] at c
            refine ⟨if m then .n else .e, { σ with fr := putA σ.fr o.dst (if m then .n else .e) }, .call hop (evl1 ha e1) c, rfl, h.put ?_ o.dst, (Step.refl s σ).put o.dst _ _, fun _ => ⟨rfl, (put_fields _ _ _).2.2.1⟩⟩
            cases m <;> rfl
          · cases hs
        · cases hs
      · rename_i x hl ha
        split at hs
        · rename_i l o' hx
          simp only [Option.map_eq_some_iff] at hs
          obtain ⟨s2, hs2, rfl⟩ := hs
          obtain ⟨xa, e1, d1⟩ := evS_sound h.fr hx
          obtain ⟨σ1, c, q1, q2, q3, q4, q5⟩ := hI _ _ _ _ _ hs2 st0 σ xa h d1
          exact ⟨.t [], { σ1 with fr := putA σ1.fr o.dst (.t []) }, .call hop (evl1 ha e1) c, by rw [← q1], q2.put (v := .u) trivial o.dst, q3.put o.dst .u (.t []), fun _ => ⟨q5, by rw [(put_fields _ _ _).2.2.1]; exact q4⟩⟩
        · cases hs
      · cases hs
    · rename_i t n ps hop
      split at hs
      · rename_i hc
        obtain ⟨rfl, hps⟩ := hc
        split at hs
        · rename_i e he
          split at hs
          · rename_i sz z hsz hz
            obtain ⟨g1, g2⟩ := h.grow [.cells e .row []]
            have hnil : ps.toList = [] := by simpa using hps
            split at hs
            · rename_i hu8
              simp at hs; subst hs
              refine ⟨.se, { σ with H := σ.H ++ [.cells e .row []], fr := putA σ.fr o.dst .se }, .pure (by rw [hop]; rfl) ?_, rfl, g1.put (v := .z .se) rfl o.dst, g2.put o.dst _ _, fun _ => ⟨rfl, (put_fields _ _ _).2.2.1⟩⟩
              rw [hop]
              simp [opA, hnil, evs, buildSliceA, he, hsz, hz, newBlk, hu8]
            · rename_i hu8
              simp at hs; subst hs
              refine ⟨.sn, { σ with H := σ.H ++ [.cells e .row []], fr := putA σ.fr o.dst .sn }, .pure (by rw [hop]; rfl) ?_, rfl, g1.put (v := .z .sn) rfl o.dst, g2.put o.dst _ _, fun _ => ⟨rfl, (put_fields _ _ _).2.2.1⟩⟩
              rw [hop]
              simp [opA, hnil, evs, buildSliceA, he, hsz, hz, newBlk]
              try (split <;> first | rfl | (rename_i h8; exact absurd h8 hu8))
          · cases hs
        · cases hs
      · cases hs
    · rename_i args ats hop
      split at hs
      · rename_i a x t1 t2 ha ht
        split at hs
        · rename_i c0 l e kd hv1 hv2 he hu
          split at hs
          rotate_left
          · cases hs
          rename_i hc0
          split at hs
          · rename_i sz by_ zs hsz hby hzs
            split at hs
            · rename_i hc
              obtain ⟨c1, c2, c3, rfl⟩ := hc
              simp at hs; subst hs
              obtain ⟨xa, e1, rfl⟩ := evS_sound h.fr hv1
              obtain ⟨ya, e2, n, d1, rfl, d2, d3⟩ := evS_sound h.fr hv2
              obtain ⟨z, z1, rfl, z3⟩ := zerosS_some hzs
              obtain ⟨g1, g2⟩ := h.row d1 d2 (e := e) z3
              have hzl : z.cells.length = sz := by simpa using c2
              refine ⟨.sl σ.H.length 0 n, { σ with η := { σ.η with lv := σ.η.lv ++ [⟨σ.H.length, 0, 0⟩] }, H := σ.H ++ [.cells e .row (zerosA z.cells n)], fr := putA σ.fr o.dst (.sl σ.H.length 0 n) }, .pure (by rw [hop]; rfl) ?_, rfl, g1.put (v := .row s.win.length) ?_ o.dst, g2.put o.dst _ _, fun _ => ⟨rfl, (put_fields _ _ _).2.2.1⟩⟩
              · rw [hop]
                have hb : n * by_ ≤ 140737488355328 := by
                  have := Nat.mul_le_mul (show n ≤ 2147483647 by omega) c3
                  omega
                have hn1 : (n : Int).toNat = n := by omega
                have hzone : (zerosA z.cells n).all AV.one = true := zeros_one z3 n
                rcases hc0 with rfl | rfl
                all_goals
                  simp only [opA, ha, ht, e1, e2, Option.bind_some, hu, appendZ, he, hsz, hby, z1, CK.av]
                  rw [if_pos ⟨c1, hzl, z3, by omega, by rw [hn1]; exact hb, by omega⟩, hn1]
                  simp only [newBlk, hzone, if_true, Option.map_some]
              · exact ⟨⟨σ.H.length, 0, 0⟩, n, by rw [h.win.1]; simp, d1, rfl⟩
            · cases hs
          · cases hs
        · cases hs
      · cases hs
    · simp only [Option.map_eq_some_iff] at hs
      obtain ⟨v, hv, rfl⟩ := hs
      obtain ⟨hc, a, ha, hd⟩ := pureS_sound h.fr h.win hv
      exact ⟨a, { σ with fr := putA σ.fr o.dst a }, .pure hc ha, rfl, h.put hd o.dst, (Step.refl s σ).put o.dst _ _, fun _ => ⟨rfl, (put_fields _ _ _).2.2.1⟩⟩
theorem wantS_sound {ops : Array Oper} {s : SS} {η : Env} {fr : List AV} (h : FR η s.fr fr) {g : Option (Nat × Bool)} {w : Bool} (hw : wantS ops.toList s g = some w) : wantA ops fr g = some w := by
  unfold wantS at hw
  unfold wantA
  cases g with
  | none => exact hw
  | some x =>
    obtain ⟨j, y⟩ := x
    simp only [Array.getElem?_toList] at hw ⊢
    cases hd : (ops[j]?).bind (·.dst) with
    | none => rw [hd] at hw; cases hw
    | some d =>
      rw [hd] at hw
      simp only at hw ⊢
      split at hw
      · rename_i b hb
        obtain ⟨a, h1, rfl⟩ := FR.at_ h (t := d) hb
        simp only [h1]
        exact hw
      · cases hw
theorem opsS_sound {C : Cfg} {mode : Option Bool} {inl : Inl} (hC : Prims C) (hI : InlOK C inl) {ops : Array Oper} : ∀ (l : List Oper) {s s1 : SS}, opsS C mode inl ops.toList l s = some s1 → ∀ {st0 : Option B} {σ : Sta}, OK C st0 s σ → (∀ m, mode = some m → σ.st.isSome = m) →
    ∃ σ1, OS P NS ops l σ.fr σ.H (σ1.fr, σ1.H) ∧ OK C st0 s1 σ1 ∧ Step s s1 σ σ1 ∧ (mode ≠ none → σ1.st = σ.st ∧ s1.evs = s.evs)
  | [], s, s1, hs, st0, σ, h, hm => by
    simp [opsS] at hs; subst hs
    exact ⟨σ, OS.nil, h, .refl s σ, fun _ => ⟨rfl, rfl⟩⟩
  | o :: l, s, s1, hs, st0, σ, h, hm => by
    unfold opsS at hs
    split at hs
    · rename_i hg
      have hg := wantS_sound h.fr hg
      cases h2 : opS C mode inl o s with
      | none => rw [h2] at hs; cases hs
      | some s2 =>
        rw [h2] at hs
        simp only [Option.bind_some] at hs
        obtain ⟨a, σ2, p1, p2, p3, p4, p5⟩ := opS_sound hC hI h2 h hm
        obtain ⟨σ3, q1, q2, q3, q4⟩ := opsS_sound hC hI (ops := ops) l hs p3 (fun m hm' => by rw [(p5 (by rw [hm']; simp)).1]; exact hm m hm')
        rw [p2] at q1
        exact ⟨σ3, p1.os hg q1, q2, p4.trans q3, fun hm' => ⟨(q4 hm').1.trans (p5 hm').1, (q4 hm').2.trans (p5 hm').2⟩⟩
    · rename_i hg
      have hg := wantS_sound h.fr hg
      obtain ⟨σ3, q1, q2, q3, q4⟩ := opsS_sound hC hI (ops := ops) l hs (h.put (v := .u) (a := .t []) trivial o.dst) hm
      exact ⟨σ3, OS.skip hg q1, q2, ((Step.refl s σ).put o.dst .u (.t [])).trans q3, fun hm' => ⟨(q4 hm').1, (q4 hm').2.trans (put_fields _ _ _).2.2.1⟩⟩
    · cases hs
def XS.ax : XS → AX
  | .normal => .normal
  | .ret => .ret
  | .exit id => .exit id
theorem runS_sound {C : Cfg} {mode : Option Bool} {inl : Inl} (hC : Prims C) (hI : InlOK C inl) : ∀ (n : Nat) (c : Code) {s s1 : SS} {x : XS}, runS C mode inl n c s = some (x, s1) → ∀ {st0 : Option B} {σ : Sta}, OK C st0 s σ → (∀ m, mode = some m → σ.st.isSome = m) →
    ∃ σ1, RU P NS c σ.fr σ.H (x.ax, σ1.fr, σ1.H) ∧ OK C st0 s1 σ1 ∧ Step s s1 σ σ1 ∧ (mode ≠ none → σ1.st = σ.st ∧ s1.evs = s.evs)
  | 0, c, s, s1, x, hs, st0, σ, h, hm => by simp [runS] at hs
  | n + 1, c, s, s1, x, hs, st0, σ, h, hm => by
    cases c with
    | skip =>
      simp [runS] at hs; obtain ⟨rfl, rfl⟩ := hs
      exact ⟨σ, RU.skip, h, .refl s σ, fun _ => ⟨rfl, rfl⟩⟩
    | region id ops dr =>
      cases dr with
      | true => simp [runS] at hs
      | false =>
        simp only [runS, Option.map_eq_some_iff] at hs
        obtain ⟨s2, hs, hh⟩ := hs
        simp at hh; obtain ⟨rfl, rfl⟩ := hh
        obtain ⟨σ1, q1, q2, q3, q4⟩ := opsS_sound hC hI (ops := ops) _ hs h hm
        exact ⟨σ1, RU.region q1, q2, q3, q4⟩
    | seq a b =>
      simp only [runS] at hs
      split at hs
      · rename_i s2 h2
        obtain ⟨σ2, p1, p2, p3, p4⟩ := runS_sound hC hI n a h2 h hm
        obtain ⟨σ3, q1, q2, q3, q4⟩ := runS_sound hC hI n b hs p2 (fun m hm' => by rw [(p4 (by rw [hm']; simp)).1]; exact hm m hm')
        exact ⟨σ3, RU.seq p1 q1, q2, p3.trans q3, fun hm' => ⟨(q4 hm').1.trans (p4 hm').1, (q4 hm').2.trans (p4 hm').2⟩⟩
      · rename_i hr
        obtain ⟨σ2, p1, p2, p3, p4⟩ := runS_sound hC hI n a hs h hm
        refine ⟨σ2, RU.seqx p1 ?_, p2, p3, p4⟩
        cases x with
        | normal => exact absurd hs (fun e => hr _ e)
        | _ => simp [XS.ax]
    | cond cc a b =>
      simp only [runS] at hs
      split at hs
      · rename_i hc
        obtain ⟨xa, e1, rfl⟩ := evS_sound h.fr hc
        obtain ⟨σ2, p1, p2⟩ := runS_sound hC hI n a hs h hm
        exact ⟨σ2, RU.condT e1 p1, p2⟩
      · rename_i hc
        obtain ⟨xa, e1, rfl⟩ := evS_sound h.fr hc
        obtain ⟨σ2, p1, p2⟩ := runS_sound hC hI n b hs h hm
        exact ⟨σ2, RU.condF e1 p1, p2⟩
      · cases hs
    | block id b =>
      simp only [runS] at hs
      split at hs
      · rename_i j s2 h2
        obtain ⟨σ2, p1, p2⟩ := runS_sound hC hI n b h2 h hm
        split at hs
        · rename_i hj; subst hj
          simp at hs; obtain ⟨rfl, rfl⟩ := hs
          exact ⟨σ2, RU.block0 p1, p2⟩
        · rename_i hj
          simp at hs; obtain ⟨rfl, rfl⟩ := hs
          have := RU.block (id := id) p1
          simp only [XS.ax] at this
          rw [if_neg hj] at this
          exact ⟨σ2, this, p2⟩
      · rename_i hr
        obtain ⟨σ2, p1, p2⟩ := runS_sound hC hI n b hs h hm
        cases x with
        | normal => exact ⟨σ2, RU.blockN p1, p2⟩
        | ret => exact ⟨σ2, RU.blockR p1, p2⟩
        | exit j => exact absurd hs (fun e => hr _ _ e)
    | loop b =>
      simp only [runS] at hs
      split at hs
      · cases hs
      · rename_i hr
        obtain ⟨σ2, p1, p2⟩ := runS_sound hC hI n b hs h hm
        cases x with
        | normal => exact absurd hs (fun e => hr _ e)
        | ret => exact ⟨σ2, RU.loopx p1 (by simp [XS.ax]), p2⟩
        | exit j => exact ⟨σ2, RU.loopx p1 (by simp [XS.ax]), p2⟩
    | exit id =>
      simp [runS] at hs; obtain ⟨rfl, rfl⟩ := hs
      exact ⟨σ, RU.exit, h, .refl _ σ, fun _ => ⟨rfl, rfl⟩⟩
    | ret =>
      simp [runS] at hs; obtain ⟨rfl, rfl⟩ := hs
      exact ⟨σ, RU.ret, h, .refl _ σ, fun _ => ⟨rfl, rfl⟩⟩
    | _ => simp [runS] at hs
theorem runL_sound {C : Cfg} {mode : Option Bool} {inl : Inl} (hC : Prims C) (hI : InlOK C inl) {n : Nat} : ∀ (l : List Code) {s s1 : SS} {x : XS}, runL C mode inl n l s = some (x, s1) → ∀ {st0 : Option B} {σ : Sta}, OK C st0 s σ → (∀ m, mode = some m → σ.st.isSome = m) →
    ∃ σ1, RUs l σ.fr σ.H (x.ax, σ1.fr, σ1.H) ∧ OK C st0 s1 σ1 ∧ Step s s1 σ σ1 ∧ (mode ≠ none → σ1.st = σ.st ∧ s1.evs = s.evs)
  | [], s, s1, x, hs, st0, σ, h, hm => by
    simp [runL] at hs; obtain ⟨rfl, rfl⟩ := hs
    exact ⟨σ, rfl, h, .refl _ σ, fun _ => ⟨rfl, rfl⟩⟩
  | c :: l, s, s1, x, hs, st0, σ, h, hm => by
    unfold runL at hs
    split at hs
    · rename_i s2 h2
      obtain ⟨σ2, p1, p2, p3, p4⟩ := runS_sound hC hI n c h2 h hm
      obtain ⟨σ3, q1, q2, q3, q4⟩ := runL_sound hC hI l hs p2 (fun m hm' => by rw [(p4 (by rw [hm']; simp)).1]; exact hm m hm')
      exact ⟨σ3, RUs.cons p1 q1, q2, p3.trans q3, fun hm' => ⟨(q4 hm').1.trans (p4 hm').1, (q4 hm').2.trans (p4 hm').2⟩⟩
    · rename_i hr
      obtain ⟨σ2, p1, p2⟩ := runS_sound hC hI n c hs h hm
      refine ⟨σ2, RUs.stop p1 ?_, p2⟩
      cases x with
      | normal => exact absurd hs (fun e => hr _ e)
      | _ => simp [XS.ax]
end Go.Proofs.YtiifcfngbbhgoagDoor.Rd

namespace Go.Proofs.YtiifcfngbbhgoagDoor.Rd
open Go Go.Proofs.YtiifcfngbbhgoagDoor.Ax Go.Proofs.YtiifcfngbbhgoagDoor.Wire
set_option maxRecDepth 100000
theorem FR.subst {η : Env} {v : SV} {sf : SF} {fr : List AV} (h : FR η sf fr) (k : ∀ a, den η .lq a → den η v a) : FR η (substF v sf) fr := by
  refine ⟨by simp [substF, h.1], fun t x a hx ha => ?_⟩
  simp only [substF, List.getElem?_map, Option.map_eq_some_iff] at hx
  obtain ⟨y, hy, rfl⟩ := hx
  split
  · rename_i e; subst e; exact k a (h.2 t _ a hy ha)
  · exact h.2 t y a hy ha
theorem OK.fr_to {C : Cfg} {st0 : Option B} {s : SS} {σ : Sta} (h : OK C st0 s σ) {sf : SF} (k : FR σ.η sf σ.fr) : OK C st0 { s with fr := sf } σ :=
  ⟨k, h.win, h.ln, h.nd, h.room, h.rd, h.rbl, h.avl, h.one, h.wid, h.zl, h.zer, h.lvj, h.run, h.rep⟩
theorem den_con {η η' : Env} {v : SV} (hc : v.con.isSome = true) {a : AV} (h : den η v a) : den η' v a := by
  cases v <;> first | exact h | simp [SV.con] at hc
theorem den_still {η η' η2 : Env} {v : SV} (hs : v.still = true) (av : Pre η.av η'.av) (av2 : Pre η.av η2.av) {a0 a : AV} (h0 : den η v a0) (h : den η' v a) : den η2 v a := by
  cases v with
  | cel n j =>
    obtain ⟨e, h1, _⟩ := h0
    obtain ⟨e', h2, h3⟩ := h
    rw [av.at_ _ _ h1] at h2; cases h2
    exact ⟨e, av2.at_ _ _ h1, h3⟩
  | u => trivial
  | b x => exact h
  | i k n => exact h
  | z c => exact h
  | _ => simp [SV.still, SV.con] at hs
theorem den_calm {η η' η2 : Env} {l : Nat} {v : SV} (hs : v.calm l = true) (rb : η2.rb = η'.rb) (rb0 : η'.rb = η.rb) (lv0 : Pre η.lv η'.lv) (lv : ∀ k, k ≠ l → η2.lv[k]? = η'.lv[k]?) (lb : ∀ e, η'.lv[l]? = some e → ∃ e2, η2.lv[l]? = some e2 ∧ e2.b = e.b) (ln : η2.ln = η'.ln)
    (av : Pre η.av η'.av) (av2 : Pre η.av η2.av) {a0 a : AV} (h0 : den η v a0) (h : den η' v a) : den η2 v a := by
  cases v with
  | rd => simp only [den, rb] at *; exact h
  | ptr k o =>
    obtain ⟨e', h2, rfl⟩ := h
    have hk : k < l := by simpa [SV.calm] using hs
    exact ⟨e', by rw [lv k (by omega)]; exact h2, rfl⟩
  | pt n =>
    have h1 : η.av[n]? = some a0 := h0
    have h2 : η'.av[n]? = some a := h
    rw [av.at_ _ _ h1] at h2; cases h2
    exact av2.at_ _ _ h1
  | cel n j =>
    obtain ⟨e, h1, _⟩ := h0
    obtain ⟨e', h2, h3⟩ := h
    rw [av.at_ _ _ h1] at h2; cases h2
    exact ⟨e, av2.at_ _ _ h1, h3⟩
  | row k =>
    obtain ⟨e', n', h3, h4, rfl⟩ := h
    by_cases e : k = l
    · subst e
      obtain ⟨e2, q1, q2⟩ := lb _ h3
      exact ⟨e2, n', q1, by rw [ln]; exact h4, by rw [q2]⟩
    · exact ⟨e', n', by rw [lv k e]; exact h3, by rw [ln]; exact h4, rfl⟩
  | len k =>
    obtain ⟨n', h4, h5⟩ := h
    exact ⟨n', by rw [ln]; exact h4, h5⟩
  | idx k =>
    obtain ⟨e', n', h3, h4, h5⟩ := h
    have hk : k < l := by simpa [SV.calm] using hs
    exact ⟨e', n', by rw [lv k (by omega)]; exact h3, by rw [ln]; exact h4, h5⟩
  | nxt k =>
    obtain ⟨e', h3, h5⟩ := h
    have hk : k < l := by simpa [SV.calm] using hs
    exact ⟨e', by rw [lv k (by omega)]; exact h3, h5⟩
  | fin k =>
    obtain ⟨n', h4, h5⟩ := h
    exact ⟨n', by rw [ln]; exact h4, h5⟩
  | vr n lo hi =>
    obtain ⟨k, h1, _⟩ := h0
    obtain ⟨k', h2, h3⟩ := h
    rw [av.at_ _ _ h1] at h2; cases h2
    exact ⟨k, av2.at_ _ _ h1, h3⟩
  | lq => simp [SV.calm] at hs
  | neg => simp [SV.calm] at hs
  | nm k => simp [SV.calm] at hs
  | _ => exact h
theorem den_low {η η2 : Env} {l n : Nat} {v : SV} (hs : v.high l n = false) (rb : η2.rb = η.rb) (lv : ∀ k e, k < l → η.lv[k]? = some e → η2.lv[k]? = some e) (ln : ∀ k e, k < l → η.ln[k]? = some e → η2.ln[k]? = some e) (av : ∀ k e, k < n → η.av[k]? = some e → η2.av[k]? = some e) {a : AV} (h : den η v a) : den η2 v a := by
  cases v with
  | rd => simp only [den, rb] at *; exact h
  | ptr k o => obtain ⟨e, h1, h2⟩ := h; exact ⟨e, lv k e (by simpa [SV.high] using hs) h1, h2⟩
  | pt k => exact av k _ (by simpa [SV.high] using hs) h
  | cel k j => obtain ⟨e, h1, h2⟩ := h; exact ⟨e, av k e (by simpa [SV.high] using hs) h1, h2⟩
  | row k => obtain ⟨e, m, h1, h2, h3⟩ := h; have hk : k < l := (by simpa [SV.high] using hs); exact ⟨e, m, lv k e hk h1, ln k m hk h2, h3⟩
  | len k => obtain ⟨m, h2, h3⟩ := h; exact ⟨m, ln k m (by simpa [SV.high] using hs) h2, h3⟩
  | idx k => obtain ⟨e, m, h1, h2, h3⟩ := h; have hk : k < l := (by simpa [SV.high] using hs); exact ⟨e, m, lv k e hk h1, ln k m hk h2, h3⟩
  | nxt k => obtain ⟨e, h1, h2⟩ := h; exact ⟨e, lv k e (by simpa [SV.high] using hs) h1, h2⟩
  | fin k => obtain ⟨m, h2, h3⟩ := h; exact ⟨m, ln k m (by simpa [SV.high] using hs) h2, h3⟩
  | vr k lo hi => obtain ⟨x, h1, h2⟩ := h; exact ⟨x, av k _ (by simpa [SV.high] using hs) h1, h2⟩
  | lq => simp [SV.high] at hs
  | neg => simp [SV.high] at hs
  | nm k => simp [SV.high] at hs
  | _ => exact h
theorem joinF_length (l n : Nat) (zv zm : SV) : ∀ (p z m : SF) (k : Nat), p.length = k → z.length = k → m.length = k → (joinF l n zv zm p z m).length = k
  | [], z, m, k, h, _, _ => by simp [joinF]; exact h
  | p :: ps, [], m, k, h, h1, _ => by simp at h h1; omega
  | p :: ps, z :: zs, [], k, h, _, h2 => by simp at h h2; omega
  | p :: ps, z :: zs, m :: ms, k, h, h1, h2 => by
    simp only [List.length_cons] at h h1 h2
    simp only [joinF, List.length_cons]
    rw [joinF_length l n zv zm ps zs ms (k - 1) (by omega) (by omega) (by omega)]; omega
theorem joinF_get (l n : Nat) (zv zm : SV) : ∀ {p z m : SF} {t : Nat} {v : SV}, (joinF l n zv zm p z m)[t]? = some v → ∃ a b c, p[t]? = some a ∧ z[t]? = some b ∧ m[t]? = some c ∧ v = joinV l n zv zm a b c
  | [], z, m, t, v, h => by simp [joinF] at h
  | p :: ps, [], m, t, v, h => by simp [joinF] at h
  | p :: ps, z :: zs, [], t, v, h => by simp [joinF] at h
  | p :: ps, z :: zs, m :: ms, t, v, h => by
    simp only [joinF] at h
    cases t with
    | zero => simp at h; exact ⟨p, z, m, rfl, rfl, rfl, h.symm⟩
    | succ t => simp only [List.getElem?_cons_succ] at h ⊢; exact joinF_get l n zv zm h
theorem FR.join {l n : Nat} {zv zm : SV} {p z m : SF} {η η2 : Env} {fr : List AV} {sel : SF} {K : SV} (hsel : (sel = p ∧ K = .row l) ∨ (sel = z ∧ K = zv) ∨ (sel = m ∧ K = zm)) (hf : FR η sel fr) (lp : p.length = sel.length) (lz : z.length = sel.length) (lm : m.length = sel.length)
    (k1 : ∀ a, den η K a → η2.av[n]? = some a) (k2 : ∀ v a, v.high l n = false → den η v a → den η2 v a) : FR η2 (joinF l n zv zm p z m) fr := by
  refine ⟨by rw [joinF_length l n zv zm p z m sel.length lp lz lm]; exact hf.1, fun t v a hv ha => ?_⟩
  obtain ⟨x, y, w, h1, h2, h3, rfl⟩ := joinF_get l n zv zm hv
  unfold joinV
  split
  · rename_i hc
    obtain ⟨rfl, rfl, rfl⟩ := hc
    rcases hsel with ⟨rfl, rfl⟩ | ⟨rfl, rfl⟩ | ⟨rfl, rfl⟩
    · exact k1 a (hf.2 t _ a h1 ha)
    · exact k1 a (hf.2 t _ a h2 ha)
    · exact k1 a (hf.2 t _ a h3 ha)
  · split
    · rename_i hc
      obtain ⟨rfl, rfl, hh⟩ := hc
      have hh : x.high l n = false := by simpa using hh
      rcases hsel with ⟨rfl, _⟩ | ⟨rfl, _⟩ | ⟨rfl, _⟩
      · exact k2 _ a hh (hf.2 t _ a h1 ha)
      · exact k2 _ a hh (hf.2 t _ a h2 ha)
      · exact k2 _ a hh (hf.2 t _ a h3 ha)
    · trivial
structure Mv (win : List SF) (σ σ' : Sta) : Prop where
  rb : σ'.η.rb = σ.η.rb
  lv : ∀ k e, k < win.length → σ.η.lv[k]? = some e → σ'.η.lv[k]? = some e
  ln : Pre σ.η.ln σ'.η.ln
  av : Pre σ.η.av σ'.η.av
  kt : KT (AO σ.η) σ.H (AO σ'.η) σ'.H
  side : Side σ.η win σ.H σ'.H
theorem Step.mv {s s' : SS} {σ σ' : Sta} (h : Step s s' σ σ') : Mv s.win σ σ' := ⟨h.rb, fun k e _ x => h.lv.at_ k e x, by rw [h.ln]; exact .refl _, h.av, h.kt, h.side⟩
theorem Side.trans {η η1 : Env} {win win1 : List SF} {H H1 H2 : Heap} (lv : ∀ k e, k < win.length → η.lv[k]? = some e → η1.lv[k]? = some e) (wl : Wl win win1) (h : Side η win H H1) (k : Side η1 win1 H1 H2) : Side η win H H2 := fun l e w ty kn cs he hw hc => by
  obtain ⟨cs1, c1, c2, c3⟩ := h l e w ty kn cs he hw hc
  obtain ⟨w1, w2, w3⟩ := wl l w hw
  obtain ⟨cs2, d1, d2, d3⟩ := k l e w1 ty kn cs1 (lv _ _ (List.getElem?_eq_some_iff.1 hw).1 he) w2 c1
  exact ⟨cs2, d1, d2.trans c2, fun p hp => (d3 p (by rw [w3]; exact hp)).trans (c3 p hp)⟩
theorem Mv.trans {w w1 : List SF} {σ σ1 σ2 : Sta} (h : Mv w σ σ1) (wl : Wl w w1) (k : Mv w1 σ1 σ2) : Mv w σ σ2 :=
  ⟨k.rb.trans h.rb, fun i e hi x => k.lv i e (by
    obtain ⟨w', h1, _⟩ := wl i w[i] (by simp [hi])
    exact (List.getElem?_eq_some_iff.1 h1).1) (h.lv i e hi x), h.ln.trans k.ln, h.av.trans k.av, h.kt.trans k.kt, Side.trans h.lv wl h.side k.side⟩
theorem OK.len {C : Cfg} {st0 : Option B} {s : SS} {σ : Sta} (h : OK C st0 s σ) {n : Int} {H1 : Heap} {nn1 : Bool} {st1 : Option B} (hrd : RdAt (AO σ.η) tR H1 σ.η.rb nn1 st1) (hl : σ.H.length ≤ H1.length) (hk : ∀ i b, i ≠ σ.η.rb → σ.H[i]? = some b → H1[i]? = some b)
    (hf : s.fr.contains .lq = false) (hw : s.win.all (fun w => !w.contains .lq) = true) (hz : s.zs.all (fun z => (z.getD []).all fun v => v.con.isSome) = true) (hlv : σ.η.ln.length = σ.η.lv.length) (d : Nat) :
    OK C st1 { s with fr := s.fr.set d .lq, live := s.win.length, base := s.base + s.evs.length, evs := [] } { η := { σ.η with ln := σ.η.ln ++ [n.toNat], lq := n }, fr := σ.fr.set d (.i .i32 n), H := H1, nn := nn1, st := st1, vs := [] } ∧
    Mv s.win σ { η := { σ.η with ln := σ.η.ln ++ [n.toNat], lq := n }, fr := σ.fr.set d (.i .i32 n), H := H1, nn := nn1, st := st1, vs := [] } := by
  have hkt : KT (AO σ.η) σ.H (AO σ.η) H1 := ⟨hl, fun i b a x => ⟨a, hk i b (fun e => a (by rw [e]; exact List.mem_cons_self)) x⟩⟩
  have hm : ∀ v a, v ≠ .lq → den σ.η v a → den { σ.η with ln := σ.η.ln ++ [n.toNat], lq := n } v a := fun v a hv d => den_mono (η := σ.η) (η' := { σ.η with ln := σ.η.ln ++ [n.toNat], lq := n }) rfl (.refl _) (.app _ _) (.refl _) (fun e => absurd e hv) d
  have hb : ∀ {l : Nat} {e' : Lv} {b : Blk}, σ.η.lv[l]? = some e' → σ.H[e'.b]? = some b → H1[e'.b]? = some b := fun he hc => hk _ _ (nd_rb h.nd he) hc
  refine ⟨⟨FR.put (h.fr.mono fun v hv a => hm v a (fun e => by subst e; simp [hv] at hf)) (v := .lq) rfl d, ⟨h.win.1, fun l e w he hwl => ?_⟩, by have := h.ln; simp; omega, h.nd, h.room.keep hkt.keep, fun _ => hrd, Nat.lt_of_lt_of_le h.rbl hl, by simp [h.avl], h.one, fun i e a he => by simp at he, h.zl, fun l e w z he hwl hzl => ?_, fun l e hle he => ?_, ?_, fun _ i e v a he => by simp at he⟩,
    ⟨rfl, fun _ _ _ x => x, .app _ _, .refl _, hkt, fun l e w ty kn cs he _ hc => ⟨cs, hb he hc, rfl, fun _ _ => rfl⟩⟩⟩
  · obtain ⟨q1, ty', kn', cs', q2, q3, q4, q5⟩ := h.win.2 _ _ _ he hwl
    refine ⟨q1, ty', kn', cs', hb he q2, q3, q4, fun o v hv => ?_⟩
    obtain ⟨a, a1, a2, a3⟩ := q5 o v hv
    refine ⟨a, a1, a2, hm _ _ (fun e => ?_) a3⟩
    subst e
    rw [List.all_eq_true] at hw
    have := hw w (List.mem_of_getElem? hwl)
    simp at this
    exact this (List.mem_of_getElem? hv)
  · obtain ⟨z1, ty', bl', n', q2, q3, q4, q5⟩ := h.zer _ _ _ _ he hwl hzl
    refine ⟨z1, ty', bl', n', hb he q2, ?_, q4, fun q hq hqn o v hv => ?_⟩
    · show (σ.η.ln ++ [n.toNat])[l]? = some n'
      rw [List.getElem?_append_left (List.getElem?_eq_some_iff.1 q3).1]; exact q3
    · obtain ⟨a, a1, a2, a3⟩ := q5 q hq hqn o v hv
      refine ⟨a, a1, a2, den_con ?_ a3⟩
      rw [List.all_eq_true] at hz
      have := hz _ (List.mem_of_getElem? hzl)
      simp only [Option.getD_some, List.all_eq_true] at this
      exact this v (List.mem_of_getElem? hv)
  · have h1 : l < σ.η.lv.length := (List.getElem?_eq_some_iff.1 he).1
    have h2 := h.win.1
    have hle : s.win.length ≤ l := hle
    omega
  · cases st1 with
    | none => rfl
    | some r => exact ⟨r, rfl, rfl⟩
end Go.Proofs.YtiifcfngbbhgoagDoor.Rd

