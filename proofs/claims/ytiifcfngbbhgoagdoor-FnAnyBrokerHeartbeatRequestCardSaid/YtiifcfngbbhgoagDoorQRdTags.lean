/-
  Unknown tags are read.
-/
import Derived.Test.YtiifcfngbbhgoagDoorQRdUvB
import Derived.Test.YtiifcfngbbhgoagDoorQSxSt
import Derived.Test.YtiifcfngbbhgoagDoorQWireB
set_option linter.constructorNameAsVariable false
set_option linter.unusedVariables false
set_option linter.unusedSimpArgs false
namespace Go.Proofs.YtiifcfngbbhgoagDoor.Rd
open Go Go.Proofs.YtiifcfngbbhgoagDoor.Ax Go.Proofs.YtiifcfngbbhgoagDoor.Wire
set_option maxRecDepth 100000
def Al (A : Nat → Prop) (H : Heap) : List (Int × AV) → List (Nat × B) → Prop
  | [], [] => True
  | (k, v) :: es, (kk, bs) :: ts => k = (kk : Nat) ∧ BytesAt A H v bs ∧ Al A H es ts
  | _, _ => False
theorem Al.of {A : Nat → Prop} {H : Heap} : ∀ {es : List (Int × AV)} {ts : List (Nat × B)}, es.map (·.1) = ts.map (fun t => ((t.1 : Nat) : Int)) → (∀ (j : Nat) (k : Int) (v : AV) (kk : Nat) (bs : B), es[j]? = some (k, v) → ts[j]? = some (kk, bs) → BytesAt A H v bs) → Al A H es ts
  | [], [], _, _ => trivial
  | [], _ :: _, h, _ => by simp at h
  | _ :: _, [], h, _ => by simp at h
  | (k, v) :: es, (kk, bs) :: ts, h, g => by
    simp only [List.map_cons, List.cons.injEq] at h
    exact ⟨h.1, g 0 k v kk bs rfl rfl, Al.of h.2 fun j => g (j + 1)⟩
theorem Al.to {A : Nat → Prop} {H : Heap} : ∀ {es : List (Int × AV)} {ts : List (Nat × B)}, Al A H es ts → es.map (·.1) = ts.map (fun t => ((t.1 : Nat) : Int)) ∧ (∀ (j : Nat) (k : Int) (v : AV) (kk : Nat) (bs : B), es[j]? = some (k, v) → ts[j]? = some (kk, bs) → BytesAt A H v bs)
  | [], [], _ => ⟨rfl, fun j k v kk bs h => by cases h⟩
  | [], _ :: _, h => by cases h
  | _ :: _, [], h => by cases h
  | (k, v) :: es, (kk, bs) :: ts, h => by
    obtain ⟨rfl, h2, h3⟩ := h
    obtain ⟨a, b⟩ := Al.to h3
    refine ⟨by simp [a], fun j => ?_⟩
    cases j with
    | zero =>
      intro k v' kk' bs' e1 e2
      simp at e1 e2
      obtain ⟨_, rfl⟩ := e1
      obtain ⟨_, rfl⟩ := e2
      exact h2
    | succ j => exact fun k v kk bs e1 e2 => b j k v kk bs (by simpa using e1) (by simpa using e2)
def putS (k : Int) (v : AV) : List (Int × AV) → List (Int × AV)
  | [] => [(k, v)]
  | (k', v') :: r => if k < k' then (k, v) :: (k', v') :: r else if k = k' then (k, v) :: r else (k', v') :: putS k v r
theorem Al.put {A : Nat → Prop} {H : Heap} {k : Nat} {v : AV} {bs : B} (hb : BytesAt A H v bs) : ∀ {es : List (Int × AV)} {ts : List (Nat × B)}, Al A H es ts → Al A H (putS k v es) (put k bs ts)
  | [], [], _ => ⟨rfl, hb, trivial⟩
  | [], _ :: _, h => by cases h
  | _ :: _, [], h => by cases h
  | (k', v') :: es, (kk, b') :: ts, h => by
    obtain ⟨rfl, h2, h3⟩ := h
    have ih := Al.put (k := k) hb h3
    unfold putS Wire.put
    by_cases e1 : k < kk
    · rw [if_pos e1, if_pos (by omega)]
      exact ⟨rfl, hb, rfl, h2, h3⟩
    · rw [if_neg e1, if_neg (by omega)]
      by_cases e2 : k = kk
      · rw [if_pos e2, if_pos (by omega)]
        exact ⟨rfl, hb, h3⟩
      · rw [if_neg e2, if_neg (by omega)]
        exact ⟨rfl, h2, ih⟩
theorem putM_perm (k : Int) (v : AV) : ∀ {es : List (Int × AV)}, (es.map (·.1)).Nodup → (putM k v es).Perm ((k, v) :: es.filter (fun e => e.1 != k))
  | [], _ => by simp [putM]
  | (k', v') :: es, h => by
    simp only [List.map_cons, List.nodup_cons] at h
    unfold putM
    by_cases e : k' = k
    · rw [if_pos e]
      subst e
      have : es.filter (fun x => x.1 != k') = es := by
        rw [List.filter_eq_self]
        intro x hx
        have : x.1 ≠ k' := fun e => h.1 (List.mem_map.2 ⟨x, hx, e⟩)
        simpa using this
      simp [this]
    · rw [if_neg e]
      have := putM_perm k v h.2
      rw [List.filter_cons_of_pos (by simpa using e)]
      exact (this.cons _).trans (.swap _ _ _)
theorem putS_perm (k : Int) (v : AV) : ∀ {es : List (Int × AV)}, (es.map (·.1)).Pairwise (· < ·) → (putS k v es).Perm ((k, v) :: es.filter (fun e => e.1 != k))
  | [], _ => by simp [putS]
  | (k', v') :: es, h => by
    simp only [List.map_cons, List.pairwise_cons] at h
    unfold putS
    have hk : k ≤ k' → es.filter (fun x => x.1 != k) = es := by
      intro hle
      rw [List.filter_eq_self]
      intro x hx
      have := h.1 x.1 (List.mem_map.2 ⟨x, hx, rfl⟩)
      have : x.1 ≠ k := by omega
      simpa using this
    by_cases e1 : k < k'
    · rw [if_pos e1, List.filter_cons_of_pos (by simp; omega), hk (by omega)]
    · rw [if_neg e1]
      by_cases e2 : k = k'
      · rw [if_pos e2, List.filter_cons_of_neg (by simp; omega), hk (by omega)]
      · rw [if_neg e2, List.filter_cons_of_pos (by simp; omega)]
        exact ((putS_perm k v h.2).cons _).trans (.swap _ _ _)
theorem okT_sort : ∀ {m : Nat} {ts : List (Nat × B)}, okT m ts → (ts.map (fun t => ((t.1 : Nat) : Int))).Pairwise (· < ·) ∧ ∀ t ∈ ts, m ≤ t.1
  | _, [], _ => ⟨.nil, fun t h => by cases h⟩
  | m, (k, v) :: r, h => by
    obtain ⟨h1, h2, h3, h4⟩ := h
    obtain ⟨b, c⟩ := okT_sort h4
    refine ⟨List.pairwise_cons.2 ⟨fun x hx => ?_, b⟩, fun t ht => ?_⟩
    · obtain ⟨t, ht, rfl⟩ := List.mem_map.1 hx
      have := c t ht
      show ((k : Nat) : Int) < ((t.1 : Nat) : Int)
      omega
    · rcases List.mem_cons.1 ht with rfl | ht
      · exact h1
      · have := c t ht; omega
theorem tagsIn_put {A : Nat → Prop} {H : Heap} {es : List (Int × AV)} {ts : List (Nat × B)} {k : Nat} {v : AV} {bs : B} (h : TagsIn A H es ts) (ho : okT 0 ts) (hb : BytesAt A H v bs) : TagsIn A H (putM k v es) (put k bs ts) := by
  obtain ⟨es', hp, hk, hv⟩ := h
  have hs : (es'.map (·.1)).Pairwise (· < ·) := by rw [hk]; exact (okT_sort ho).1
  have hn : (es'.map (·.1)).Nodup := hs.imp (fun h => by omega)
  have hn2 : (es.map (·.1)).Nodup := ((hp.map (·.1)).nodup_iff).1 hn
  obtain ⟨a, b⟩ := ((Al.of hk hv).put (k := k) hb).to
  exact ⟨putS k v es', ((putS_perm _ v hs).trans ((hp.filter _).cons _)).trans (putM_perm _ v hn2).symm, a, b⟩
def TB (n0 : Nat) (H : Heap) (tb : Nat) (es : List (Int × AV)) : Prop :=
  (es = [] ∧ H[tb]? = some (.cells 41 .vr [.m0])) ∨ ∃ m, H[tb]? = some (.cells 41 .vr [.mp m]) ∧ n0 ≤ m ∧ m ≠ tb ∧ H[m]? = some (.map .u32 es)
theorem kvA (tb : Nat) : fieldAddrA P 41 (.p tb 0) 0 = some (.p tb 0) := by kernel_rfl
theorem aggM : aggA P 39 = some false := by kernel_rfl
theorem sizeM : sizeA P 39 = some 1 := by kernel_rfl
theorem keyM : keyA P 39 = some .u32 := by kernel_rfl
theorem eqM0 (c : Bool) : binA P .eql 39 c .m0 .m0 = some (.b true) := by kernel_rfl
theorem eqM1 (c : Bool) (m : Nat) : binA P .eql 39 c (.mp m) .m0 = some (.b false) := by kernel_rfl
theorem ldM {H : Heap} {tb : Nat} {v : AV} (h : H[tb]? = some (.cells 41 .vr [v])) : loadA P H 39 (.p tb 0) = some v := by simp [loadA, loadAt, h, aggM]
theorem stM {H : Heap} {tb : Nat} {v w : AV} (h : H[tb]? = some (.cells 41 .vr [v])) (hc : w.cells = [w]) (h1 : w.one = true) : storeA P H 39 (.p tb 0) w = some (H.set tb (.cells 41 .vr [w])) := by
  simp [storeA, h, sizeM, Kn.own, hc, h1, over]
theorem msA {H : Heap} {m : Nat} {es : List (Int × AV)} (h : H[m]? = some (.map .u32 es)) (k : Int) {v : AV} (h1 : v.one = true) : mapSetA P H 39 (.mp m) (.i .u32 k) v = some (H.set m (.map .u32 (putM k v es))) := by
  simp [mapSetA, h, keyM, h1]
theorem set_new {H : Heap} {tb : Nat} {k : Int} {v : AV} (h : H[tb]? = some (.cells 41 .vr [.m0])) (h1 : v.one = true) :
    CA P NS 30 [.p tb 0, .i .u32 k, v] H (.t [], ((H ++ [Blk.map .u32 []]).set tb (.cells 41 .vr [.mp H.length])).set H.length (.map .u32 (putM k v []))) := by
  have hlt := (List.getElem?_eq_some_iff.1 h).1
  have f0 := kvA tb
  have l0 := ldM h
  have e0 := eqM0 true
  have e0' := eqM0 false
  have mk : makeMapA P H 39 = some (.mp H.length, H ++ [Blk.map .u32 []]) := by simp [makeMapA, keyM]
  have h2 : (H ++ [Blk.map .u32 []])[tb]? = some (.cells 41 .vr [.m0]) := by rw [List.getElem?_append_left hlt]; exact h
  have s0 := stM h2 (w := .mp H.length) rfl rfl
  have h3 : ((H ++ [Blk.map .u32 []]).set tb (.cells 41 .vr [.mp H.length]))[tb]? = some (.cells 41 .vr [.mp H.length]) := by rw [List.getElem?_set_self (by simp; omega)]
  have l1 := ldM h3
  have h4 : ((H ++ [Blk.map .u32 []]).set tb (.cells 41 .vr [.mp H.length]))[H.length]? = some (.map .u32 []) := by
    rw [List.getElem?_set_ne (by omega), List.getElem?_append_right (Nat.le_refl _)]; simp
  have m0 := msA h4 k h1
  refine CA.go (fn := Tryd.f30) (vs := []) (by kernel_rfl) rfl (.inl rfl) ?_
  apply Exists.intro
  apply And.intro
  · dsimp only [Tryd.f30]
    dsimp only [List.length_cons, List.length_nil, List.cons_append, List.nil_append, Nat.reduceSub, Nat.reduceAdd, List.replicate]
    refine RU.seq (RU.seq RU.rg (RU.condT rfl RU.rg)) ?_
    exact RU.rg
  · rfl
theorem set_old {H : Heap} {tb m : Nat} {k : Int} {v : AV} {es : List (Int × AV)} (h : H[tb]? = some (.cells 41 .vr [.mp m])) (hm : H[m]? = some (.map .u32 es)) (h1 : v.one = true) :
    CA P NS 30 [.p tb 0, .i .u32 k, v] H (.t [], H.set m (.map .u32 (putM k v es))) := by
  have f0 := kvA tb
  have l0 := ldM h
  have e0 := eqM1 true m
  have e0' := eqM1 false m
  have m0 := msA hm k h1
  refine CA.go (fn := Tryd.f30) (vs := []) (by kernel_rfl) rfl (.inl rfl) ?_
  apply Exists.intro
  apply And.intro
  · dsimp only [Tryd.f30]
    dsimp only [List.length_cons, List.length_nil, List.cons_append, List.nil_append, Nat.reduceSub, Nat.reduceAdd, List.replicate]
    refine RU.seq (RU.seq RU.rg (RU.condF rfl RU.skip)) ?_
    exact RU.rg
  · rfl
def KC (A : Nat → Prop) (H H' : Heap) : Prop := H.length ≤ H'.length ∧ ∀ (i : Nat) (ty : TypeId) (kn : Kn) (cs : List AV), A i → H[i]? = some (.cells ty kn cs) → H'[i]? = some (.cells ty kn cs)
theorem Keep.kc {A : Nat → Prop} {H H' : Heap} (h : Keep A H H') : KC A H H' := ⟨h.1, fun i _ _ _ a x => h.2 i _ a x⟩
theorem KC.trans {A : Nat → Prop} {H H' H'' : Heap} (h : KC A H H') (k : KC A H' H'') : KC A H H'' := ⟨Nat.le_trans h.1 k.1, fun i _ _ _ a x => k.2 i _ _ _ a (h.2 i _ _ _ a x)⟩
theorem _root_.Go.Proofs.YtiifcfngbbhgoagDoor.Ax.BytesAt.kc {A : Nat → Prop} {H H' : Heap} {v : AV} {bs : B} (h : BytesAt A H v bs) (k : KC A H H') : BytesAt A H' v bs := by
  cases h with
  | z => exact .z
  | e => exact .e
  | s hA h h0 h1 => exact .s hA (k.2 _ _ _ _ hA h) h0 h1
theorem TagsIn.kc {A : Nat → Prop} {H H' : Heap} {es : List (Int × AV)} {ts : List (Nat × B)} (h : TagsIn A H es ts) (k : KC A H H') : TagsIn A H' es ts := by
  obtain ⟨es', a, b, c⟩ := h
  exact ⟨es', a, b, fun j q v kk bs h1 h2 => (c j q v kk bs h1 h2).kc k⟩
theorem Room.kc {A : Nat → Prop} {H H' : Heap} {rb : Nat} (h : Room A H rb) (k : KC A H H') : Room A H' rb where
  no := h.no
  new := fun i hi => h.new i (Nat.le_trans k.1 hi)
  be := ⟨h.be.1, h.be.2.elim fun ty x => ⟨ty, k.2 _ _ _ _ h.be.1 x⟩⟩
  err := ⟨h.err.1, h.err.2.elim fun ty x => ⟨ty, k.2 _ _ _ _ h.err.1 x⟩⟩
theorem span_both {A : Nat → Prop} {H : Heap} {rb : Nat} {st : Option B} {l : Int} (R : Room A H rb) (h : RdAt A tR H rb true st) :
    ∃ av H1 st1, CA P NS 31 [.p rb 0, .i .i64 l] H (av, H1) ∧ av.one = true ∧ RdAt A tR H1 rb true st1 ∧ H.length ≤ H1.length ∧ (∀ i b, i ≠ rb → H[i]? = some b → H1[i]? = some b) ∧
      (match st.bind (rdS l) with | none => st1 = none | some (v, r) => st1 = some r ∧ BytesAt A H1 av v) := by
  cases hd : st.bind (rdS l) with
  | none =>
    obtain ⟨H1, c, r, kp⟩ := rd_span_bad R h hd
    obtain ⟨H1', c', _, kp'⟩ := rd_span_bad (room_rb R (rdAt_lt h)) (rdAt_rb R.no h) hd
    cases CA.det c c'
    exact ⟨.s0, H1, none, c, rfl, r, kp.1, kp'.2, rfl⟩
  | some x =>
    obtain ⟨v, r1⟩ := x
    cases st with
    | none => cases hd
    | some bs =>
      simp only [Option.bind_some] at hd
      obtain ⟨av, H1, c, b, _, r, kp⟩ := rd_span_good R h hd
      obtain ⟨av', H1', c', _, _, _, kp'⟩ := rd_span_good (room_rb R (rdAt_lt h)) (rdAt_rb R.no h) hd
      cases CA.det c c'
      exact ⟨av, H1, some r1, c, (BytesAt.one' b).2, r, kp.1, kp'.2, rfl, b⟩
def flatT : Code → List Code
  | .seq a b => flatT a ++ flatT b
  | c => [c]
def loopT : List Code → Code
  | .block _ (.loop b) :: _ => b
  | _ :: r => loopT r
  | [] => .skip
theorem sub32 (n : Nat) (h : n + 1 < 4294967296) (c : Bool) : binA P .sub 49 c (.i .u32 ((n + 1 : Nat) : Int)) (.i .u32 1) = some (.i .u32 (n : Int)) := by
  have e : binA P .sub 49 c (.i .u32 ((n + 1 : Nat) : Int)) (.i .u32 1) = some (.i .u32 (IntKind.u32.wrap (((n + 1 : Nat) : Int) - 1))) := by kernel_rfl
  rw [e]
  simp [IntKind.wrap, IntKind.signed, IntKind.bits]; omega
theorem gtr32 (n : Nat) (c : Bool) : binA P .gtr 49 c (.i .u32 (n : Int)) (.i .u32 0) = some (.b (decide (0 < n))) := by
  have e : binA P .gtr 49 c (.i .u32 (n : Int)) (.i .u32 0) = some (.b (decide ((0 : Int) < (n : Int)))) := by kernel_rfl
  rw [e]; simp
theorem conv32_64 (n : Nat) (h : n < 4294967296) : convA P 49 3 (.i .u32 (n : Int)) = some (.i .i64 (n : Int)) := by
  have e : convA P 49 3 (.i .u32 (n : Int)) = some (.i .i64 (IntKind.i64.wrap (n : Int))) := by kernel_rfl
  rw [e]
  simp [IntKind.wrap, IntKind.signed, IntKind.bits]; omega
theorem TB.keep {n0 tb rb : Nat} {H H' : Heap} {es : List (Int × AV)} (h : TB n0 H tb es) (hn : rb < n0) (ht : tb ≠ rb) (k : ∀ i b, i ≠ rb → H[i]? = some b → H'[i]? = some b) : TB n0 H' tb es := by
  rcases h with ⟨rfl, h⟩ | ⟨m, h, hm, hne, hb⟩
  · exact .inl ⟨rfl, k _ _ ht h⟩
  · exact .inr ⟨m, k _ _ ht h, hm, hne, k _ _ (by omega) hb⟩
theorem rdS_nat (l : Nat) (bs : B) : rdS (l : Int) bs = cut l bs := by
  unfold rdS
  rw [if_neg (by omega)]; simp
end Go.Proofs.YtiifcfngbbhgoagDoor.Rd

