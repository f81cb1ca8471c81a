/-
  Unknown tags are read.
-/
import Derived.Test.YtiifcfngbbhgoaaGreatDoorQRdUvB
import Derived.Test.YtiifcfngbbhgoaaGreatDoorQSxSt
import Derived.Test.YtiifcfngbbhgoaaGreatDoorQWireB
set_option linter.constructorNameAsVariable false
set_option linter.unusedVariables false
set_option linter.unusedSimpArgs false
namespace Go.Proofs.YtiifcfngbbhgoaaGreatDoor.Rd
open Go Go.Proofs.YtiifcfngbbhgoaaGreatDoor.Ax Go.Proofs.YtiifcfngbbhgoaaGreatDoor.Wire
set_option maxRecDepth 100000
def Al (A : Nat → Prop) (H : Heap) : List (Int × AV) → List (Nat × B) → Prop
  | [], [] => True
  | (k, v) :: es, (kk, bs) :: ts => k = (kk : Nat) ∧ BytesAt A H v bs ∧ Al A H es ts
  | _, _ => False
theorem Al.of {A : Nat → Prop} {H : Heap} : ∀ {es : List (Int × AV)} {ts : List (Nat × B)}, es.map (·.1) = ts.map (fun t => ((t.1 : Nat) : Int)) → (∀ (j : Nat) (k : Int) (v : AV) (kk : Nat) (bs : B), es[j]? = some (k, v) → ts[j]? = some (kk, bs) → BytesAt A H v bs) → Al A H es ts
  | [], [], _, _ => trivial
  | [], _ :: _, h, _ => by simp at h
  | _ :: _, [], h, _ => by simp at h
  | (k, v) :: es, (kk, bs) :: ts, h, g => by
    simp only [List.map_cons, List.cons.injEq] at h
    exact ⟨h.1, g 0 k v kk bs rfl rfl, Al.of h.2 fun j => g (j + 1)⟩
theorem Al.to {A : Nat → Prop} {H : Heap} : ∀ {es : List (Int × AV)} {ts : List (Nat × B)}, Al A H es ts → es.map (·.1) = ts.map (fun t => ((t.1 : Nat) : Int)) ∧ (∀ (j : Nat) (k : Int) (v : AV) (kk : Nat) (bs : B), es[j]? = some (k, v) → ts[j]? = some (kk, bs) → BytesAt A H v bs)
  | [], [], _ => ⟨rfl, fun j k v kk bs h => by cases h⟩
  | [], _ :: _, h => by cases h
  | _ :: _, [], h => by cases h
  | (k, v) :: es, (kk, bs) :: ts, h => by
    obtain ⟨rfl, h2, h3⟩ := h
    obtain ⟨a, b⟩ := Al.to h3
    refine ⟨by simp [a], fun j => ?_⟩
    cases j with
    | zero =>
      intro k v' kk' bs' e1 e2
      simp at e1 e2
      obtain ⟨_, rfl⟩ := e1
      obtain ⟨_, rfl⟩ := e2
      exact h2
    | succ j => exact fun k v kk bs e1 e2 => b j k v kk bs (by simpa using e1) (by simpa using e2)
def putS (k : Int) (v : AV) : List (Int × AV) → List (Int × AV)
  | [] => [(k, v)]
  | (k', v') :: r => if k < k' then (k, v) :: (k', v') :: r else if k = k' then (k, v) :: r else (k', v') :: putS k v r
theorem Al.put {A : Nat → Prop} {H : Heap} {k : Nat} {v : AV} {bs : B} (hb : BytesAt A H v bs) : ∀ {es : List (Int × AV)} {ts : List (Nat × B)}, Al A H es ts → Al A H (putS k v es) (put k bs ts)
  | [], [], _ => ⟨rfl, hb, trivial⟩
  | [], _ :: _, h => by cases h
  | _ :: _, [], h => by cases h
  | (k', v') :: es, (kk, b') :: ts, h => by
    obtain ⟨rfl, h2, h3⟩ := h
    have ih := Al.put (k := k) hb h3
    unfold putS Wire.put
    by_cases e1 : k < kk
    · rw [if_pos e1, if_pos (by omega)]
      exact ⟨rfl, hb, rfl, h2, h3⟩
    · rw [if_neg e1, if_neg (by omega)]
      by_cases e2 : k = kk
      · rw [if_pos e2, if_pos (by omega)]
        exact ⟨rfl, hb, h3⟩
      · rw [if_neg e2, if_neg (by omega)]
        exact ⟨rfl, h2, ih⟩
theorem putM_perm (k : Int) (v : AV) : ∀ {es : List (Int × AV)}, (es.map (·.1)).Nodup → (putM k v es).Perm ((k, v) :: es.filter (fun e => e.1 != k))
  | [], _ => by simp [putM]
  | (k', v') :: es, h => by
    simp only [List.map_cons, List.nodup_cons] at h
    unfold putM
    by_cases e : k' = k
    · rw [if_pos e]
      subst e
      have : es.filter (fun x => x.1 != k') = es := by
        rw [List.filter_eq_self]
        intro x hx
        have : x.1 ≠ k' := fun e => h.1 (List.mem_map.2 ⟨x, hx, e⟩)
        simpa using this
      simp [this]
    · rw [if_neg e]
      have := putM_perm k v h.2
      rw [List.filter_cons_of_pos (by simpa using e)]
      exact (this.cons _).trans (.swap _ _ _)
theorem putS_perm (k : Int) (v : AV) : ∀ {es : List (Int × AV)}, (es.map (·.1)).Pairwise (· < ·) → (putS k v es).Perm ((k, v) :: es.filter (fun e => e.1 != k))
  | [], _ => by simp [putS]
  | (k', v') :: es, h => by
    simp only [List.map_cons, List.pairwise_cons] at h
    unfold putS
    have hk : k ≤ k' → es.filter (fun x => x.1 != k) = es := by
      intro hle
      rw [List.filter_eq_self]
      intro x hx
      have := h.1 x.1 (List.mem_map.2 ⟨x, hx, rfl⟩)
      have : x.1 ≠ k := by omega
      simpa using this
    by_cases e1 : k < k'
    · rw [if_pos e1, List.filter_cons_of_pos (by simp; omega), hk (by omega)]
    · rw [if_neg e1]
      by_cases e2 : k = k'
      · rw [if_pos e2, List.filter_cons_of_neg (by simp; omega), hk (by omega)]
      · rw [if_neg e2, List.filter_cons_of_pos (by simp; omega)]
        exact ((putS_perm k v h.2).cons _).trans (.swap _ _ _)
theorem okT_sort : ∀ {m : Nat} {ts : List (Nat × B)}, okT m ts → (ts.map (fun t => ((t.1 : Nat) : Int))).Pairwise (· < ·) ∧ ∀ t ∈ ts, m ≤ t.1
  | _, [], _ => ⟨.nil, fun t h => by cases h⟩
  | m, (k, v) :: r, h => by
    obtain ⟨h1, h2, h3, h4⟩ := h
    obtain ⟨b, c⟩ := okT_sort h4
    refine ⟨List.pairwise_cons.2 ⟨fun x hx => ?_, b⟩, fun t ht => ?_⟩
    · obtain ⟨t, ht, rfl⟩ := List.mem_map.1 hx
      have := c t ht
      show ((k : Nat) : Int) < ((t.1 : Nat) : Int)
      omega
    · rcases List.mem_cons.1 ht with rfl | ht
      · exact h1
      · have := c t ht; omega
theorem tagsIn_put {A : Nat → Prop} {H : Heap} {es : List (Int × AV)} {ts : List (Nat × B)} {k : Nat} {v : AV} {bs : B} (h : TagsIn A H es ts) (ho : okT 0 ts) (hb : BytesAt A H v bs) : TagsIn A H (putM k v es) (put k bs ts) := by
  obtain ⟨es', hp, hk, hv⟩ := h
  have hs : (es'.map (·.1)).Pairwise (· < ·) := by rw [hk]; exact (okT_sort ho).1
  have hn : (es'.map (·.1)).Nodup := hs.imp (fun h => by omega)
  have hn2 : (es.map (·.1)).Nodup := ((hp.map (·.1)).nodup_iff).1 hn
  obtain ⟨a, b⟩ := ((Al.of hk hv).put (k := k) hb).to
  exact ⟨putS k v es', ((putS_perm _ v hs).trans ((hp.filter _).cons _)).trans (putM_perm _ v hn2).symm, a, b⟩
def TB (n0 : Nat) (H : Heap) (tb : Nat) (es : List (Int × AV)) : Prop :=
  (es = [] ∧ H[tb]? = some (.cells 60 .vr [.m0])) ∨ ∃ m, H[tb]? = some (.cells 60 .vr [.mp m]) ∧ n0 ≤ m ∧ m ≠ tb ∧ H[m]? = some (.map .u32 es)
theorem kvA (tb : Nat) : fieldAddrA P 60 (.p tb 0) 0 = some (.p tb 0) := by kernel_rfl
theorem aggM : aggA P 58 = some false := by kernel_rfl
theorem sizeM : sizeA P 58 = some 1 := by kernel_rfl
theorem aggT : aggA P 60 = some true := by kernel_rfl
theorem sizeT : sizeA P 60 = some 1 := by kernel_rfl
theorem keyM : keyA P 58 = some .u32 := by kernel_rfl
theorem eqM0 (c : Bool) : binA P .eql 58 c .m0 .m0 = some (.b true) := by kernel_rfl
theorem eqM1 (c : Bool) (m : Nat) : binA P .eql 58 c (.mp m) .m0 = some (.b false) := by kernel_rfl
theorem ldM {H : Heap} {tb : Nat} {v : AV} (h : H[tb]? = some (.cells 60 .vr [v])) : loadA P H 58 (.p tb 0) = some v := by simp [loadA, loadAt, h, aggM]
theorem stM {H : Heap} {tb : Nat} {v w : AV} (h : H[tb]? = some (.cells 60 .vr [v])) (hc : w.cells = [w]) (h1 : w.one = true) : storeA P H 58 (.p tb 0) w = some (H.set tb (.cells 60 .vr [w])) := by
  simp [storeA, h, sizeM, Kn.own, hc, h1, over]
theorem msA {H : Heap} {m : Nat} {es : List (Int × AV)} (h : H[m]? = some (.map .u32 es)) (k : Int) {v : AV} (h1 : v.one = true) : mapSetA P H 58 (.mp m) (.i .u32 k) v = some (H.set m (.map .u32 (putM k v es))) := by
  simp [mapSetA, h, keyM, h1]
theorem set_new {H : Heap} {tb : Nat} {k : Int} {v : AV} (h : H[tb]? = some (.cells 60 .vr [.m0])) (h1 : v.one = true) :
    CA P NS 75 [.p tb 0, .i .u32 k, v] H (.t [], ((H ++ [Blk.map .u32 []]).set tb (.cells 60 .vr [.mp H.length])).set H.length (.map .u32 (putM k v []))) := by
  have hlt := (List.getElem?_eq_some_iff.1 h).1
  have f0 := kvA tb
  have l0 := ldM h
  have e0 := eqM0 true
  have e0' := eqM0 false
  have mk : makeMapA P H 58 = some (.mp H.length, H ++ [Blk.map .u32 []]) := by simp [makeMapA, keyM]
  have h2 : (H ++ [Blk.map .u32 []])[tb]? = some (.cells 60 .vr [.m0]) := by rw [List.getElem?_append_left hlt]; exact h
  have s0 := stM h2 (w := .mp H.length) rfl rfl
  have h3 : ((H ++ [Blk.map .u32 []]).set tb (.cells 60 .vr [.mp H.length]))[tb]? = some (.cells 60 .vr [.mp H.length]) := by rw [List.getElem?_set_self (by simp; omega)]
  have l1 := ldM h3
  have h4 : ((H ++ [Blk.map .u32 []]).set tb (.cells 60 .vr [.mp H.length]))[H.length]? = some (.map .u32 []) := by
    rw [List.getElem?_set_ne (by omega), List.getElem?_append_right (Nat.le_refl _)]; simp
  have m0 := msA h4 k h1
  refine CA.go (fn := Tryz.f75) (vs := []) (by kernel_rfl) rfl (.inl rfl) ?_
  apply Exists.intro
  apply And.intro
  · dsimp only [Tryz.f75]
    dsimp only [List.length_cons, List.length_nil, List.cons_append, List.nil_append, Nat.reduceSub, Nat.reduceAdd, List.replicate]
    refine RU.seq (RU.seq RU.rg (RU.condT rfl RU.rg)) ?_
    exact RU.rg
  · rfl
theorem set_old {H : Heap} {tb m : Nat} {k : Int} {v : AV} {es : List (Int × AV)} (h : H[tb]? = some (.cells 60 .vr [.mp m])) (hm : H[m]? = some (.map .u32 es)) (h1 : v.one = true) :
    CA P NS 75 [.p tb 0, .i .u32 k, v] H (.t [], H.set m (.map .u32 (putM k v es))) := by
  have f0 := kvA tb
  have l0 := ldM h
  have e0 := eqM1 true m
  have e0' := eqM1 false m
  have m0 := msA hm k h1
  refine CA.go (fn := Tryz.f75) (vs := []) (by kernel_rfl) rfl (.inl rfl) ?_
  apply Exists.intro
  apply And.intro
  · dsimp only [Tryz.f75]
    dsimp only [List.length_cons, List.length_nil, List.cons_append, List.nil_append, Nat.reduceSub, Nat.reduceAdd, List.replicate]
    refine RU.seq (RU.seq RU.rg (RU.condF rfl RU.skip)) ?_
    exact RU.rg
  · rfl
theorem set_any {n0 tb : Nat} {H : Heap} {k : Int} {v : AV} {es : List (Int × AV)} (h : TB n0 H tb es) (hn : n0 ≤ H.length) (h1 : v.one = true) :
    ∃ H', CA P NS 75 [.p tb 0, .i .u32 k, v] H (.t [], H') ∧ TB n0 H' tb (putM k v es) ∧ H.length ≤ H'.length ∧
      ∀ (i : Nat) (b : Blk), i ≠ tb → (i < n0 ∨ ∀ kd es, b ≠ .map kd es) → H[i]? = some b → H'[i]? = some b := by
  rcases h with ⟨rfl, h⟩ | ⟨m, h, hm, hne, hb⟩
  · have hlt := (List.getElem?_eq_some_iff.1 h).1
    refine ⟨_, set_new h h1, .inr ⟨H.length, ?_, hn, by omega, ?_⟩, by simp, fun i b hi _ hx => ?_⟩
    · rw [List.getElem?_set_ne (by omega), List.getElem?_set_self (by simp; omega)]
    · rw [List.getElem?_set_self (by simp)]
    · have hil := (List.getElem?_eq_some_iff.1 hx).1
      rw [List.getElem?_set_ne (by omega), List.getElem?_set_ne (by omega), List.getElem?_append_left hil]; exact hx
  · have hml := (List.getElem?_eq_some_iff.1 hb).1
    refine ⟨_, set_old h hb h1, .inr ⟨m, ?_, hm, hne, ?_⟩, by simp, fun i b hi hc hx => ?_⟩
    · rw [List.getElem?_set_ne hne]; exact h
    · rw [List.getElem?_set_self hml]
    · have : i ≠ m := by
        rintro rfl
        rcases hc with hc | hc
        · omega
        · rw [hb] at hx; exact hc _ _ (Option.some.inj hx).symm
      rw [List.getElem?_set_ne (Ne.symm this)]; exact hx
def KC (A : Nat → Prop) (H H' : Heap) : Prop := H.length ≤ H'.length ∧ ∀ (i : Nat) (ty : TypeId) (kn : Kn) (cs : List AV), A i → H[i]? = some (.cells ty kn cs) → H'[i]? = some (.cells ty kn cs)
theorem Keep.kc {A : Nat → Prop} {H H' : Heap} (h : Keep A H H') : KC A H H' := ⟨h.1, fun i _ _ _ a x => h.2 i _ a x⟩
theorem KC.trans {A : Nat → Prop} {H H' H'' : Heap} (h : KC A H H') (k : KC A H' H'') : KC A H H'' := ⟨Nat.le_trans h.1 k.1, fun i _ _ _ a x => k.2 i _ _ _ a (h.2 i _ _ _ a x)⟩
theorem _root_.Go.Proofs.YtiifcfngbbhgoaaGreatDoor.Ax.BytesAt.kc {A : Nat → Prop} {H H' : Heap} {v : AV} {bs : B} (h : BytesAt A H v bs) (k : KC A H H') : BytesAt A H' v bs := by
  cases h with
  | z => exact .z
  | e => exact .e
  | s hA h h0 h1 => exact .s hA (k.2 _ _ _ _ hA h) h0 h1
theorem TagsIn.kc {A : Nat → Prop} {H H' : Heap} {es : List (Int × AV)} {ts : List (Nat × B)} (h : TagsIn A H es ts) (k : KC A H H') : TagsIn A H' es ts := by
  obtain ⟨es', a, b, c⟩ := h
  exact ⟨es', a, b, fun j q v kk bs h1 h2 => (c j q v kk bs h1 h2).kc k⟩
theorem rdAt_kc {A : Nat → Prop} {H H' : Heap} {rb : Nat} {nn : Bool} {st : Option B} (h : RdAt A tR H rb nn st) (k : KC A H H') (e : ∀ b, H[rb]? = some b → H'[rb]? = some b) : RdAt A tR H' rb nn st := by
  cases st with
  | none => exact e _ h
  | some bs =>
    obtain ⟨src, h1, h2, h3⟩ := h
    exact ⟨src, e _ h1, h2.kc k, h3⟩
theorem Room.kc {A : Nat → Prop} {H H' : Heap} {rb : Nat} (h : Room A H rb) (k : KC A H H') : Room A H' rb where
  no := h.no
  new := fun i hi => h.new i (Nat.le_trans k.1 hi)
  be := ⟨h.be.1, h.be.2.elim fun ty x => ⟨ty, k.2 _ _ _ _ h.be.1 x⟩⟩
  err := ⟨h.err.1, h.err.2.elim fun ty x => ⟨ty, k.2 _ _ _ _ h.err.1 x⟩⟩
theorem span_both {A : Nat → Prop} {H : Heap} {rb : Nat} {st : Option B} {l : Int} (R : Room A H rb) (h : RdAt A tR H rb true st) :
    ∃ av H1 st1, CA P NS 72 [.p rb 0, .i .i64 l] H (av, H1) ∧ av.one = true ∧ RdAt A tR H1 rb true st1 ∧ H.length ≤ H1.length ∧ (∀ i b, i ≠ rb → H[i]? = some b → H1[i]? = some b) ∧
      (match st.bind (rdS l) with | none => st1 = none | some (v, r) => st1 = some r ∧ BytesAt A H1 av v) := by
  cases hd : st.bind (rdS l) with
  | none =>
    obtain ⟨H1, c, r, kp⟩ := rd_span_bad R h hd
    obtain ⟨H1', c', _, kp'⟩ := rd_span_bad (room_rb R (rdAt_lt h)) (rdAt_rb R.no h) hd
    cases CA.det c c'
    exact ⟨.s0, H1, none, c, rfl, r, kp.1, kp'.2, rfl⟩
  | some x =>
    obtain ⟨v, r1⟩ := x
    cases st with
    | none => cases hd
    | some bs =>
      simp only [Option.bind_some] at hd
      obtain ⟨av, H1, c, b, _, r, kp⟩ := rd_span_good R h hd
      obtain ⟨av', H1', c', _, _, _, kp'⟩ := rd_span_good (room_rb R (rdAt_lt h)) (rdAt_rb R.no h) hd
      cases CA.det c c'
      exact ⟨av, H1, some r1, c, (BytesAt.one' b).2, r, kp.1, kp'.2, rfl, b⟩
def flatT : Code → List Code
  | .seq a b => flatT a ++ flatT b
  | c => [c]
def loopT : List Code → Code
  | .block _ (.loop b) :: _ => b
  | _ :: r => loopT r
  | [] => .skip
noncomputable def bodyT : Code := loopT (flatT (Tryz.f63.body.getD .skip))
def TFR (rb b2 tb : Nat) (n : Int) (fr : List AV) : Prop := ∃ x1 x5 x6 x7 x8 x9 x10 x11 x12 x13 x14 x15 x16 x17 x18 x19 x20 x21 x22 x23 : AV, fr = [.p rb 0, x1, .p b2 0, .p tb 0, .i .u32 n, x5, x6, x7, x8, x9, x10, x11, x12, x13, x14, x15, x16, x17, x18, x19, x20, x21, x22, x23]
theorem sub32 (n : Nat) (h : n + 1 < 4294967296) (c : Bool) : binA P .sub 53 c (.i .u32 ((n + 1 : Nat) : Int)) (.i .u32 1) = some (.i .u32 (n : Int)) := by
  have e : binA P .sub 53 c (.i .u32 ((n + 1 : Nat) : Int)) (.i .u32 1) = some (.i .u32 (IntKind.u32.wrap (((n + 1 : Nat) : Int) - 1))) := by kernel_rfl
  rw [e]
  simp [IntKind.wrap, IntKind.signed, IntKind.bits]; omega
theorem gtr32 (n : Nat) (c : Bool) : binA P .gtr 53 c (.i .u32 (n : Int)) (.i .u32 0) = some (.b (decide (0 < n))) := by
  have e : binA P .gtr 53 c (.i .u32 (n : Int)) (.i .u32 0) = some (.b (decide ((0 : Int) < (n : Int)))) := by kernel_rfl
  rw [e]; simp
theorem conv32_64 (n : Nat) (h : n < 4294967296) : convA P 53 3 (.i .u32 (n : Int)) = some (.i .i64 (n : Int)) := by
  have e : convA P 53 3 (.i .u32 (n : Int)) = some (.i .i64 (IntKind.i64.wrap (n : Int))) := by kernel_rfl
  rw [e]
  simp [IntKind.wrap, IntKind.signed, IntKind.bits]; omega
theorem tag_out {rb b2 tb : Nat} {fr : List AV} {H : Heap} (h : TFR rb b2 tb 0 fr) : ∃ fr', RU P NS bodyT fr H (.exit 0, fr', H) ∧ TFR rb b2 tb 0 fr' := by
  obtain ⟨x1, x5, x6, x7, x8, x9, x10, x11, x12, x13, x14, x15, x16, x17, x18, x19, x20, x21, x22, x23, rfl⟩ := h
  have g : binA P .gtr 53 true (.i .u32 0) (.i .u32 0) = some (.b false) := by kernel_rfl
  apply Exists.intro
  apply And.intro
  · dsimp only [bodyT, Tryz.f63, Option.getD_some, flatT, loopT, List.cons_append, List.nil_append]
    (apply RU.seqx; rotate_left; focus (simp))
    refine RU.seq RU.rg ?_
    apply RU.condF rfl
    exact RU.exit
  · exact ⟨_, _, _, _, _, _, _, _, _, _, _, _, _, _, _, _, _, _, _, _, rfl⟩
theorem tag_step {rb b2 tb n : Nat} {fr : List AV} {H H1 H2 H3 H4 : Heap} {k : Int} {l : Nat} {av : AV} (h : TFR rb b2 tb ((n + 1 : Nat) : Int) fr) (hn : n + 1 < 4294967296) (hl : l < 4294967296)
    (c1 : CA P NS 70 [.p rb 0] H (.i .u32 k, H1)) (c2 : CA P NS 70 [.p rb 0] H1 (.i .u32 (l : Int), H2))
    (c3 : CA P NS 72 [.p rb 0, .i .i64 (l : Int)] H2 (av, H3)) (c4 : CA P NS 75 [.p tb 0, .i .u32 k, av] H3 (.t [], H4)) :
    ∃ fr', RU P NS bodyT fr H (.normal, fr', H4) ∧ TFR rb b2 tb n fr' := by
  obtain ⟨x1, x5, x6, x7, x8, x9, x10, x11, x12, x13, x14, x15, x16, x17, x18, x19, x20, x21, x22, x23, rfl⟩ := h
  have g := gtr32 (n + 1) true
  rw [decide_eq_true (by omega)] at g
  have s := sub32 n hn true
  have v := conv32_64 l hl
  generalize ((n + 1 : Nat) : Int) = nn at g s
  generalize ((l : Nat) : Int) = ll at c2 c3 v
  apply Exists.intro
  apply And.intro
  · dsimp only [bodyT, Tryz.f63, Option.getD_some, flatT, loopT, List.cons_append, List.nil_append]
    refine RU.seq (RU.seq RU.rg (RU.condT rfl RU.skip)) ?_
    (apply RU.seq; focus (apply RU.blockN; refine RU.seq RU.rg ?_; exact RU.rg))
    exact RU.rg
  · exact ⟨_, _, _, _, _, _, _, _, _, _, _, _, _, _, _, _, _, _, _, _, rfl⟩
theorem TB.keep {n0 tb rb : Nat} {H H' : Heap} {es : List (Int × AV)} (h : TB n0 H tb es) (hn : rb < n0) (ht : tb ≠ rb) (k : ∀ i b, i ≠ rb → H[i]? = some b → H'[i]? = some b) : TB n0 H' tb es := by
  rcases h with ⟨rfl, h⟩ | ⟨m, h, hm, hne, hb⟩
  · exact .inl ⟨rfl, k _ _ ht h⟩
  · exact .inr ⟨m, k _ _ ht h, hm, hne, k _ _ (by omega) hb⟩
theorem rdS_nat (l : Nat) (bs : B) : rdS (l : Int) bs = cut l bs := by
  unfold rdS
  rw [if_neg (by omega)]; simp
def TL (A : Nat → Prop) (rb b2 tb n0 n : Nat) (H : Heap) (st : Option B) (ts : List (Nat × B)) (fr : List AV) : Prop :=
  ∃ fr' H', RU P NS (.loop bodyT) fr H (.exit 0, fr', H') ∧ TFR rb b2 tb 0 fr' ∧ H.length ≤ H'.length ∧ (∀ i b, i ≠ rb → i ≠ tb → i < n0 → H[i]? = some b → H'[i]? = some b) ∧
    ∃ es', TB n0 H' tb es' ∧ (match st.bind (decT n ts) with | none => RdAt A tR H' rb true none | some (ts', r) => RdAt A tR H' rb true (some r) ∧ TagsIn A H' es' ts' ∧ okT 0 ts')
theorem tag_loop {A : Nat → Prop} {rb b2 tb n0 : Nat} (hrt : tb ≠ rb) (hrn : rb < n0) (htb : ¬ A tb) :
    ∀ (n : Nat) (H : Heap) (st : Option B) (ts : List (Nat × B)) (es : List (Int × AV)) (fr : List AV), n < 4294967296 → Room A H rb → RdAt A tR H rb true st → TB n0 H tb es → (st.isSome = true → TagsIn A H es ts ∧ okT 0 ts) → n0 ≤ H.length → TFR rb b2 tb n fr → TL A rb b2 tb n0 n H st ts fr
  | 0, H, st, ts, es, fr, hn, R, h, ht, hi, hl, hf => by
    obtain ⟨fr', r, hf'⟩ := tag_out hf
    refine ⟨fr', H, RU.loopx r (by simp), hf', Nat.le_refl _, fun i b _ _ _ hx => hx, es, ht, ?_⟩
    cases st with
    | none => exact h
    | some bs => exact ⟨h, hi rfl⟩
  | n + 1, H, st, ts, es, fr, hn, R, h, ht, hi, hl, hf => by
    obtain ⟨k, H1, st1, c1, h1, le1, k1, m1⟩ := num_both rd_uvarint R h
    have K1 : Keep A H H1 := ⟨le1, fun i b a x => k1 i b (fun e => R.no (e ▸ a)) x⟩
    have R1 := R.keep K1
    obtain ⟨l, H2, st2, c2, h2, le2, k2, m2⟩ := num_both rd_uvarint R1 h1
    have K2 : Keep A H1 H2 := ⟨le2, fun i b a x => k2 i b (fun e => R.no (e ▸ a)) x⟩
    have R2 := R1.keep K2
    obtain ⟨ln, rfl, hln⟩ : ∃ ln : Nat, l = (ln : Int) ∧ ln < 4294967296 := by
      cases hx : st1.bind rdVi with
      | none => rw [hx] at m2; exact ⟨0, m2.2, by omega⟩
      | some x =>
        rw [hx] at m2
        obtain ⟨v, r⟩ := x
        cases st1 with
        | none => cases hx
        | some b1 =>
          simp only [Option.bind_some, rdVi, Option.map_eq_some_iff] at hx
          obtain ⟨⟨q, r'⟩, hq, he⟩ := hx
          simp at he
          exact ⟨q, by rw [m2.2, ← he.1], rdV_lt hq⟩
    obtain ⟨av, H3, st3, c3, av1, h3, le3, k3, m3⟩ := span_both (l := (ln : Int)) R2 h2
    have K3 : Keep A H2 H3 := ⟨le3, fun i b a x => k3 i b (fun e => R.no (e ▸ a)) x⟩
    have R3 := R2.keep K3
    have ht3 : TB n0 H3 tb es := ((ht.keep hrn hrt k1).keep hrn hrt k2).keep hrn hrt k3
    obtain ⟨H4, c4, ht4, le4, k4⟩ := set_any (k := k) ht3 (by omega) av1
    have K4 : KC A H3 H4 := ⟨le4, fun i ty kn cs a x => k4 i _ (fun e => htb (e ▸ a)) (.inr (fun kd es h => by cases h)) x⟩
    have R4 := R3.kc K4
    have h4 : RdAt A tR H4 rb true st3 := rdAt_kc h3 K4 (fun b x => k4 _ _ (Ne.symm hrt) (.inl hrn) x)
    obtain ⟨fr1, r1, hf1⟩ := tag_step hf hn hln c1 c2 c3 c4
    have fin : ∀ ts1 : List (Nat × B), (st3.isSome = true → TagsIn A H4 (putM k av es) ts1 ∧ okT 0 ts1) → st.bind (decT (n + 1) ts) = st3.bind (decT n ts1) → TL A rb b2 tb n0 (n + 1) H st ts fr := fun ts1 hi1 e => by
      obtain ⟨fr', H', r, hf', le, kp, es', ht', q⟩ := tag_loop hrt hrn htb n H4 st3 ts1 (putM k av es) fr1 (by omega) R4 h4 ht4 hi1 (by omega) hf1
      exact ⟨fr', H', RU.loop r1 r, hf', by omega, fun i b hi hit hin x => kp i b hi hit hin (k4 i b hit (.inl hin) (k3 i b hi (k2 i b hi (k1 i b hi x)))), es', ht', by rw [e]; exact q⟩
    have bad : st3 = none → st.bind (decT (n + 1) ts) = none → TL A rb b2 tb n0 (n + 1) H st ts fr := fun e1 e2 => fin ts (by rw [e1]; intro h; cases h) (by rw [e1, e2]; rfl)
    cases st with
    | none =>
      obtain rfl : st1 = none := m1.1
      obtain rfl : st2 = none := m2.1
      exact bad m3 rfl
    | some bs =>
      simp only [Option.bind_some] at m1 fin bad
      cases e1 : rdV bs with
      | none =>
        have x : rdVi bs = none := by simp [rdVi, e1]
        rw [x] at m1
        obtain rfl : st1 = none := m1.1
        obtain rfl : st2 = none := m2.1
        exact bad m3 (by simp [decT, e1])
      | some x1 =>
        obtain ⟨kn, r⟩ := x1
        have x : rdVi bs = some ((kn : Int), r) := by simp [rdVi, e1]
        rw [x] at m1
        obtain ⟨rfl, rfl⟩ := m1
        simp only [Option.bind_some] at m2
        cases e2 : rdV r with
        | none =>
          have x : rdVi r = none := by simp [rdVi, e2]
          rw [x] at m2
          obtain rfl : st2 = none := m2.1
          exact bad m3 (by simp [decT, e1, e2])
        | some x2 =>
          obtain ⟨ln', r2⟩ := x2
          have x : rdVi r = some ((ln' : Int), r2) := by simp [rdVi, e2]
          rw [x] at m2
          obtain ⟨rfl, e⟩ := m2
          obtain rfl : ln = ln' := by omega
          simp only [Option.bind_some, rdS_nat] at m3
          cases e3 : cut ln r2 with
          | none =>
            rw [e3] at m3
            exact bad m3 (by simp [decT, e1, e2, e3])
          | some x3 =>
            obtain ⟨hd, r3⟩ := x3
            rw [e3] at m3
            obtain ⟨rfl, hb⟩ := m3
            obtain ⟨hi1, hi2⟩ := hi rfl
            have hh := (cut_len e3).1
            exact fin (put kn hd ts) (fun _ => ⟨tagsIn_put (hi1.kc (((Keep.kc K1).trans (Keep.kc K2)).trans ((Keep.kc K3).trans K4))) hi2 (hb.kc K4), okT_put ts 0 kn hd hi2 (Nat.zero_le _) (rdV_lt e1) (by omega)⟩) (by simp [decT, e1, e2, e3])
theorem ldT {H : Heap} {tb : Nat} {v : AV} (h : H[tb]? = some (.cells 60 .vr [v])) : loadA P H 60 (.p tb 0) = some (.g [v]) := by simp [loadA, loadAt, h, aggT, sizeT]
theorem stT {H : Heap} {tb : Nat} {v w : AV} (h : H[tb]? = some (.cells 60 .vr [v])) (h1 : w.one = true) : storeA P H 60 (.p tb 0) (.g [w]) = some (H.set tb (.cells 60 .vr [w])) := by
  simp [storeA, h, sizeT, Kn.own, AV.cells, h1, over]
def frT (rb b : Nat) (n : Int) : List AV := [.p rb 0, .t [], .p b 0, .p (b + 1) 0, .i .u32 n, .t [], .t [], .p rb 0, .i .u32 n, .t [], .t [], .t [], .t [], .t [], .t [], .t [], .t [], .t [], .t [], .t [], .t [], .t [], .t [], .t []]
theorem frT_tfr (rb b : Nat) (n : Int) : TFR rb b (b + 1) n (frT rb b n) := ⟨_, _, _, _, _, _, _, _, _, _, _, _, _, _, _, _, _, _, _, _, rfl⟩
theorem tags_walk {rb n : Nat} {H H3 H4 : Heap} {fr' : List AV} {w v0 : AV} (c : CA P NS 70 [.p rb 0] (H ++ [Blk.cells 60 .vr [.m0]] ++ [Blk.cells 60 .vr [.m0]]) (.i .u32 (n : Int), H3))
    (hL : RU P NS (.loop bodyT) (frT rb H.length n) H3 (.exit 0, fr', H4)) (hf : TFR rb H.length (H.length + 1) 0 fr')
    (h1 : H4[H.length + 1]? = some (.cells 60 .vr [w])) (h2 : H4[H.length]? = some (.cells 60 .vr [v0])) (ho : w.one = true) :
    CA P NS 63 [.p rb 0] H (.g [w], H4.set H.length (.cells 60 .vr [w])) := by
  have z0 : zeroA P 60 = some (.g [.m0]) := by kernel_rfl
  have l0 := ldT h1
  have s0 := stT h2 ho
  have hlt := (List.getElem?_eq_some_iff.1 h2).1
  have l1 : loadA P (H4.set H.length (.cells 60 .vr [w])) 60 (.p H.length 0) = some (.g [w]) := ldT (by rw [List.getElem?_set_self hlt])
  have hl1 : (H ++ [Blk.cells 60 .vr [.m0]]).length = H.length + 1 := by simp
  have a1 : opA P (.alloc 60) [.p rb 0, .t [], .p H.length 0, .t [], .t [], .t [], .t [], .t [], .t [], .t [], .t [], .t [], .t [], .t [], .t [], .t [], .t [], .t [], .t [], .t [], .t [], .t [], .t [], .t []] (H ++ [Blk.cells 60 .vr [.m0]]) = some (.p (H.length + 1) 0, H ++ [Blk.cells 60 .vr [.m0]] ++ [Blk.cells 60 .vr [.m0]]) := by
    rw [op_alloc z0 rfl, hl1]; rfl
  obtain ⟨x1, x5, x6, x7, x8, x9, x10, x11, x12, x13, x14, x15, x16, x17, x18, x19, x20, x21, x22, x23, rfl⟩ := hf
  unfold frT at hL
  generalize ((n : Nat) : Int) = nn at c hL
  refine CA.go (fn := Tryz.f63) (vs := [.g [w]]) (by kernel_rfl) rfl (.inr rfl) ?_
  apply Exists.intro
  apply And.intro
  · dsimp only [bodyT, Tryz.f63, Option.getD_some, flatT, loopT, List.cons_append, List.nil_append] at hL ⊢
    dsimp only [List.length_cons, List.length_nil, List.cons_append, List.nil_append, Nat.reduceSub, Nat.reduceAdd, List.replicate]
    refine RU.seq RU.rg ?_
    (apply RU.seq; focus (apply RU.region; refine OS.st rfl rfl ?_ a1; dsimp only [AV.cells, putA, List.set_cons_zero, List.set_cons_succ]; exact OS.nil))
    (apply RU.seq; focus (refine RU.seq RU.rg ?_; apply RU.block0; exact hL))
    refine RU.seq RU.rg ?_
    exact RU.ret
  · simp [resultsA, l1]
theorem rdt : RdT 63 := by
  have main : ∀ (A : Nat → Prop) (H : Heap) (rb : Nat) (nn : Bool) (st : Option B), Room A H rb → RdAt A tR H rb nn st →
      ∃ w H', CA P NS 63 [.p rb 0] H (.g [w], H') ∧ w.one = true ∧ Keep A H H' ∧ (match st.bind (Ev.tags.dec true) with | none => RdAt A tR H' rb true none | some (v, r) => RdAt A tR H' rb true (some r) ∧ TagRep A H' v (.g [w])) := by
    intro A H rb nn st R h
    have hrb := rdAt_lt h
    let A1 : Nat → Prop := fun i => A i ∧ i ≠ H.length ∧ i ≠ H.length + 1
    let H1 : Heap := H ++ [Blk.cells 60 .vr [.m0]] ++ [Blk.cells 60 .vr [.m0]]
    have hH1 : ∀ i b, H[i]? = some b → H1[i]? = some b := fun i b x => by
      have := (List.getElem?_eq_some_iff.1 x).1
      show (H ++ _ ++ _)[i]? = _
      rw [List.getElem?_append_left (by simp; omega), List.getElem?_append_left this]; exact x
    have hlen : H1.length = H.length + 2 := by simp [H1]
    have k1 : KT A H A1 H1 := ⟨by omega, fun i b a x => by
      have := (List.getElem?_eq_some_iff.1 x).1
      exact ⟨⟨a, by omega, by omega⟩, hH1 i b x⟩⟩
    have R1 : Room A1 H1 rb := R.kt k1 (fun a => R.no a.1) (fun i hi => ⟨R.new i (by omega), by omega, by omega⟩)
    have h1 : RdAt A1 tR H1 rb nn st := rdAt_kt h k1 (by
      show (H ++ _ ++ _)[rb]? = _
      rw [List.getElem?_append_left (by simp; omega), List.getElem?_append_left hrb])
    obtain ⟨k, H3, st3, c, h3, le3, k3, m3⟩ := num_both rd_uvarint R1 h1
    obtain ⟨n, rfl, hn⟩ : ∃ n : Nat, k = (n : Int) ∧ n < 4294967296 := by
      cases hx : st.bind rdVi with
      | none => rw [hx] at m3; exact ⟨0, m3.2, by omega⟩
      | some x =>
        rw [hx] at m3
        obtain ⟨v, r⟩ := x
        cases st with
        | none => cases hx
        | some b1 =>
          simp only [Option.bind_some, rdVi, Option.map_eq_some_iff] at hx
          obtain ⟨⟨q, r'⟩, hq, he⟩ := hx
          simp at he
          exact ⟨q, by rw [m3.2, ← he.1], rdV_lt hq⟩
    have K3 : Keep A1 H1 H3 := ⟨le3, fun i b a x => k3 i b (fun e => R1.no (e ▸ a)) x⟩
    have R3 := R1.keep K3
    have e1 : H1[H.length + 1]? = some (.cells 60 .vr [.m0]) := by
      show (H ++ _ ++ _)[H.length + 1]? = _
      rw [List.getElem?_append_right (by simp)]; simp
    have e0 : H1[H.length]? = some (.cells 60 .vr [.m0]) := by
      show (H ++ _ ++ _)[H.length]? = _
      rw [List.getElem?_append_left (by simp), List.getElem?_append_right (Nat.le_refl _)]; simp
    have t3 : TB (H.length + 2) H3 (H.length + 1) [] := .inl ⟨rfl, k3 _ _ (by omega) e1⟩
    obtain ⟨fr', H4, hr, hf', le4, k4, es', ht4, m4⟩ := tag_loop (A := A1) (b2 := H.length) (n0 := H.length + 2) (by omega) (by omega) (fun a => a.2.2 rfl) n H3 st3 [] [] _ hn R3 h3 t3 (fun _ => ⟨⟨[], .nil, rfl, fun j k v kk bs h => by cases h⟩, trivial⟩) (by omega) (frT_tfr rb H.length n)
    have e4 : H4[H.length]? = some (.cells 60 .vr [.m0]) := k4 _ _ (by omega) (by omega) (by omega) (k3 _ _ (by omega) e0)
    obtain ⟨w, hw, hwo, hwc⟩ : ∃ w, H4[H.length + 1]? = some (.cells 60 .vr [w]) ∧ w.one = true ∧ ((es' = [] ∧ w = .m0) ∨ ∃ m, w = .mp m ∧ H.length + 2 ≤ m ∧ H4[m]? = some (.map .u32 es')) := by
      rcases ht4 with ⟨rfl, h⟩ | ⟨m, h, hm, hne, hb⟩
      · exact ⟨_, h, rfl, .inl ⟨rfl, rfl⟩⟩
      · exact ⟨_, h, rfl, .inr ⟨m, rfl, hm, hb⟩⟩
    refine ⟨w, _, tags_walk c hr hf' hw e4 hwo, hwo, ⟨by simp; omega, fun i b a x => ?_⟩, ?_⟩
    · have hi := (List.getElem?_eq_some_iff.1 x).1
      have hne : i ≠ rb := fun e => R.no (e ▸ a)
      rw [List.getElem?_set_ne (by omega)]
      exact k4 _ _ hne (by omega) (by omega) (k3 _ _ hne (hH1 _ _ x))
    · have kk : KT A1 H4 A (H4.set H.length (.cells 60 .vr [w])) := ⟨by simp, fun i b a x => ⟨a.1, by
        rw [List.getElem?_set_ne (Ne.symm a.2.1)]; exact x⟩⟩
      have krb : (H4.set H.length (.cells 60 .vr [w]))[rb]? = H4[rb]? := by rw [List.getElem?_set_ne (by omega)]
      have hst : st.bind (Ev.tags.dec true) = (st3.bind (decT n [])).map (fun x => (V.t x.1, x.2)) ∨ (st3 = none ∧ st.bind (Ev.tags.dec true) = none) := by
        cases st with
        | none => exact .inr ⟨m3.1, rfl⟩
        | some bs =>
          simp only [Option.bind_some] at m3 ⊢
          cases e1 : rdV bs with
          | none =>
            have x : rdVi bs = none := by simp [rdVi, e1]
            rw [x] at m3
            exact .inr ⟨m3.1, by simp [Ev.dec, e1]⟩
          | some x1 =>
            obtain ⟨kn, r⟩ := x1
            have x : rdVi bs = some ((kn : Int), r) := by simp [rdVi, e1]
            rw [x] at m3
            obtain ⟨rfl, e⟩ := m3
            obtain rfl : n = kn := by omega
            refine .inl ?_
            simp only [Ev.dec, e1, Option.bind_some]
            first | done | (cases decT n [] r <;> rfl)
      rcases hst with e | ⟨rfl, e⟩
      · rw [e]
        cases hd : st3.bind (decT n []) with
        | none =>
          rw [hd] at m4
          exact rdAt_kt m4 kk krb
        | some x =>
          obtain ⟨ts', r⟩ := x
          rw [hd] at m4
          obtain ⟨a, b, c⟩ := m4
          refine ⟨rdAt_kt a kk krb, ts', rfl, c, ?_⟩
          rcases hwc with ⟨rfl, rfl⟩ | ⟨m, rfl, hm, hb⟩
          · refine .inl ⟨?_, rfl⟩
            obtain ⟨es2, p1, p2, _⟩ := b
            have q1 := p1.length_eq
            have q2 := congrArg List.length p2
            rw [List.length_map, List.length_map, q1] at q2
            exact List.eq_nil_of_length_eq_zero q2.symm
          · obtain ⟨es2, p1, p2, p3⟩ := b
            refine .inr ⟨m, es', rfl, ?_, ?_, es2, p1, p2, fun j k v kk' bs q1 q2 => BytesAt.kt (p3 j k v kk' bs q1 q2) kk⟩
            · exact R.new m (by omega)
            · rw [List.getElem?_set_ne (by omega)]; exact hb
      · rw [e]
        exact rdAt_kt m4 kk krb
  constructor
  · intro A H rb nn bs v r R h hd
    obtain ⟨w, H', c, ho, k, m⟩ := main A H rb nn (some bs) R h
    simp only [Option.bind_some, hd] at m
    exact ⟨_, H', c, m.2, rfl, by simp [AV.cells, ho], m.1, k⟩
  · intro A H rb nn st R h hd
    obtain ⟨w, H', c, ho, k, m⟩ := main A H rb nn st R h
    rw [hd] at m
    exact ⟨_, H', c, rfl, by simp [AV.cells, ho], m, k⟩
end Go.Proofs.YtiifcfngbbhgoaaGreatDoor.Rd

