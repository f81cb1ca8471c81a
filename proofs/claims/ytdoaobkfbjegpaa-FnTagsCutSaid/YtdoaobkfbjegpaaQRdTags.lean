/-
  Unknown tags are read.
-/
import Derived.Test.YtdoaobkfbjegpaaQRdUvB
import Derived.Test.YtdoaobkfbjegpaaQSxSt
import Derived.Test.YtdoaobkfbjegpaaQWireB
import Derived.Test.YtdoaobkfbjegpaaQTgFit
set_option linter.constructorNameAsVariable false
set_option linter.unusedVariables false
set_option linter.unusedSimpArgs false
namespace Go.Proofs.Ytdoaobkfbjegpaa.Rd
open Go Go.Proofs.Ytdoaobkfbjegpaa.Ax Go.Proofs.Ytdoaobkfbjegpaa.Wire
set_option maxRecDepth 100000
def Al (A : Nat → Prop) (H : Heap) : List (Int × AV) → List (Nat × B) → Prop
  | [], [] => True
  | (k, v) :: es, (kk, bs) :: ts => k = (kk : Nat) ∧ BytesAt A H v bs ∧ Al A H es ts
  | _, _ => False
theorem Al.of {A : Nat → Prop} {H : Heap} : ∀ {es : List (Int × AV)} {ts : List (Nat × B)}, es.map (·.1) = ts.map (fun t => ((t.1 : Nat) : Int)) → (∀ (j : Nat) (k : Int) (v : AV) (kk : Nat) (bs : B), es[j]? = some (k, v) → ts[j]? = some (kk, bs) → BytesAt A H v bs) → Al A H es ts
  | [], [], _, _ => trivial
  | [], _ :: _, h, _ => by simp at h
  | _ :: _, [], h, _ => by simp at h
  | (k, v) :: es, (kk, bs) :: ts, h, g => by
    simp only [List.map_cons, List.cons.injEq] at h
    exact ⟨h.1, g 0 k v kk bs rfl rfl, Al.of h.2 fun j => g (j + 1)⟩
theorem Al.to {A : Nat → Prop} {H : Heap} : ∀ {es : List (Int × AV)} {ts : List (Nat × B)}, Al A H es ts → es.map (·.1) = ts.map (fun t => ((t.1 : Nat) : Int)) ∧ (∀ (j : Nat) (k : Int) (v : AV) (kk : Nat) (bs : B), es[j]? = some (k, v) → ts[j]? = some (kk, bs) → BytesAt A H v bs)
  | [], [], _ => ⟨rfl, fun j k v kk bs h => by cases h⟩
  | [], _ :: _, h => by cases h
  | _ :: _, [], h => by cases h
  | (k, v) :: es, (kk, bs) :: ts, h => by
    obtain ⟨rfl, h2, h3⟩ := h
    obtain ⟨a, b⟩ := Al.to h3
    refine ⟨by simp [a], fun j => ?_⟩
    cases j with
    | zero =>
      intro k v' kk' bs' e1 e2
      simp at e1 e2
      obtain ⟨_, rfl⟩ := e1
      obtain ⟨_, rfl⟩ := e2
      exact h2
    | succ j => exact fun k v kk bs e1 e2 => b j k v kk bs (by simpa using e1) (by simpa using e2)
def putS (k : Int) (v : AV) : List (Int × AV) → List (Int × AV)
  | [] => [(k, v)]
  | (k', v') :: r => if k < k' then (k, v) :: (k', v') :: r else if k = k' then (k, v) :: r else (k', v') :: putS k v r
theorem Al.put {A : Nat → Prop} {H : Heap} {k : Nat} {v : AV} {bs : B} (hb : BytesAt A H v bs) : ∀ {es : List (Int × AV)} {ts : List (Nat × B)}, Al A H es ts → Al A H (putS k v es) (put k bs ts)
  | [], [], _ => ⟨rfl, hb, trivial⟩
  | [], _ :: _, h => by cases h
  | _ :: _, [], h => by cases h
  | (k', v') :: es, (kk, b') :: ts, h => by
    obtain ⟨rfl, h2, h3⟩ := h
    have ih := Al.put (k := k) hb h3
    unfold putS Wire.put
    by_cases e1 : k < kk
    · rw [if_pos e1, if_pos (by omega)]
      exact ⟨rfl, hb, rfl, h2, h3⟩
    · rw [if_neg e1, if_neg (by omega)]
      by_cases e2 : k = kk
      · rw [if_pos e2, if_pos (by omega)]
        exact ⟨rfl, hb, h3⟩
      · rw [if_neg e2, if_neg (by omega)]
        exact ⟨rfl, h2, ih⟩
theorem putM_perm (k : Int) (v : AV) : ∀ {es : List (Int × AV)}, (es.map (·.1)).Nodup → (putM k v es).Perm ((k, v) :: es.filter (fun e => e.1 != k))
  | [], _ => by simp [putM]
  | (k', v') :: es, h => by
    simp only [List.map_cons, List.nodup_cons] at h
    unfold putM
    by_cases e : k' = k
    · rw [if_pos e]
      subst e
      have : es.filter (fun x => x.1 != k') = es := by
        rw [List.filter_eq_self]
        intro x hx
        have : x.1 ≠ k' := fun e => h.1 (List.mem_map.2 ⟨x, hx, e⟩)
        simpa using this
      simp [this]
    · rw [if_neg e]
      have := putM_perm k v h.2
      rw [List.filter_cons_of_pos (by simpa using e)]
      exact (this.cons _).trans (.swap _ _ _)
theorem putS_perm (k : Int) (v : AV) : ∀ {es : List (Int × AV)}, (es.map (·.1)).Pairwise (· < ·) → (putS k v es).Perm ((k, v) :: es.filter (fun e => e.1 != k))
  | [], _ => by simp [putS]
  | (k', v') :: es, h => by
    simp only [List.map_cons, List.pairwise_cons] at h
    unfold putS
    have hk : k ≤ k' → es.filter (fun x => x.1 != k) = es := by
      intro hle
      rw [List.filter_eq_self]
      intro x hx
      have := h.1 x.1 (List.mem_map.2 ⟨x, hx, rfl⟩)
      have : x.1 ≠ k := by omega
      simpa using this
    by_cases e1 : k < k'
    · rw [if_pos e1, List.filter_cons_of_pos (by simp; omega), hk (by omega)]
    · rw [if_neg e1]
      by_cases e2 : k = k'
      · rw [if_pos e2, List.filter_cons_of_neg (by simp; omega), hk (by omega)]
      · rw [if_neg e2, List.filter_cons_of_pos (by simp; omega)]
        exact ((putS_perm k v h.2).cons _).trans (.swap _ _ _)
theorem okT_sort : ∀ {m : Nat} {ts : List (Nat × B)}, okT m ts → (ts.map (fun t => ((t.1 : Nat) : Int))).Pairwise (· < ·) ∧ ∀ t ∈ ts, m ≤ t.1
  | _, [], _ => ⟨.nil, fun t h => by cases h⟩
  | m, (k, v) :: r, h => by
    obtain ⟨h1, h2, h3, h4⟩ := h
    obtain ⟨b, c⟩ := okT_sort h4
    refine ⟨List.pairwise_cons.2 ⟨fun x hx => ?_, b⟩, fun t ht => ?_⟩
    · obtain ⟨t, ht, rfl⟩ := List.mem_map.1 hx
      have := c t ht
      show ((k : Nat) : Int) < ((t.1 : Nat) : Int)
      omega
    · rcases List.mem_cons.1 ht with rfl | ht
      · exact h1
      · have := c t ht; omega
theorem tagsIn_put {A : Nat → Prop} {H : Heap} {es : List (Int × AV)} {ts : List (Nat × B)} {k : Nat} {v : AV} {bs : B} (h : TagsIn A H es ts) (ho : okT 0 ts) (hb : BytesAt A H v bs) : TagsIn A H (putM k v es) (put k bs ts) := by
  obtain ⟨es', hp, hk, hv⟩ := h
  have hs : (es'.map (·.1)).Pairwise (· < ·) := by rw [hk]; exact (okT_sort ho).1
  have hn : (es'.map (·.1)).Nodup := hs.imp (fun h => by omega)
  have hn2 : (es.map (·.1)).Nodup := ((hp.map (·.1)).nodup_iff).1 hn
  obtain ⟨a, b⟩ := ((Al.of hk hv).put (k := k) hb).to
  exact ⟨putS k v es', ((putS_perm _ v hs).trans ((hp.filter _).cons _)).trans (putM_perm _ v hn2).symm, a, b⟩
def TB (n0 : Nat) (H : Heap) (tb : Nat) (es : List (Int × AV)) : Prop :=
  (es = [] ∧ H[tb]? = some (.cells 49 .vr [.m0])) ∨ ∃ m, H[tb]? = some (.cells 49 .vr [.mp m]) ∧ n0 ≤ m ∧ m ≠ tb ∧ H[m]? = some (.map .u32 es)
theorem kvA (tb : Nat) : fieldAddrA P 49 (.p tb 0) 0 = some (.p tb 0) := by kernel_rfl
theorem aggM : aggA P 47 = some false := by kernel_rfl
theorem sizeM : sizeA P 47 = some 1 := by kernel_rfl
theorem aggT : aggA P 49 = some true := by kernel_rfl
theorem sizeT : sizeA P 49 = some 1 := by kernel_rfl
theorem keyM : keyA P 47 = some .u32 := by kernel_rfl
theorem eqM0 (c : Bool) : binA P .eql 47 c .m0 .m0 = some (.b true) := by kernel_rfl
theorem eqM1 (c : Bool) (m : Nat) : binA P .eql 47 c (.mp m) .m0 = some (.b false) := by kernel_rfl
theorem ldM {H : Heap} {tb : Nat} {v : AV} (h : H[tb]? = some (.cells 49 .vr [v])) : loadA P H 47 (.p tb 0) = some v := by simp [loadA, loadAt, h, aggM]
theorem stM {H : Heap} {tb : Nat} {v w : AV} (h : H[tb]? = some (.cells 49 .vr [v])) (hc : w.cells = [w]) (h1 : w.one = true) : storeA P H 47 (.p tb 0) w = some (H.set tb (.cells 49 .vr [w])) := by
  simp [storeA, h, sizeM, Kn.own, hc, h1, over]
theorem msA {H : Heap} {m : Nat} {es : List (Int × AV)} (h : H[m]? = some (.map .u32 es)) (k : Int) {v : AV} (h1 : v.one = true) : mapSetA P H 47 (.mp m) (.i .u32 k) v = some (H.set m (.map .u32 (putM k v es))) := by
  simp [mapSetA, h, keyM, h1]
theorem set_new {H : Heap} {tb : Nat} {k : Int} {v : AV} (h : H[tb]? = some (.cells 49 .vr [.m0])) (h1 : v.one = true) :
    CA P NS 17 [.p tb 0, .i .u32 k, v] H (.t [], ((H ++ [Blk.map .u32 []]).set tb (.cells 49 .vr [.mp H.length])).set H.length (.map .u32 (putM k v []))) := by
  have hlt := (List.getElem?_eq_some_iff.1 h).1
  have f0 := kvA tb
  have l0 := ldM h
  have e0 := eqM0 true
  have e0' := eqM0 false
  have mk : makeMapA P H 47 = some (.mp H.length, H ++ [Blk.map .u32 []]) := by simp [makeMapA, keyM]
  have h2 : (H ++ [Blk.map .u32 []])[tb]? = some (.cells 49 .vr [.m0]) := by rw [List.getElem?_append_left hlt]; exact h
  have s0 := stM h2 (w := .mp H.length) rfl rfl
  have h3 : ((H ++ [Blk.map .u32 []]).set tb (.cells 49 .vr [.mp H.length]))[tb]? = some (.cells 49 .vr [.mp H.length]) := by rw [List.getElem?_set_self (by simp; omega)]
  have l1 := ldM h3
  have h4 : ((H ++ [Blk.map .u32 []]).set tb (.cells 49 .vr [.mp H.length]))[H.length]? = some (.map .u32 []) := by
    rw [List.getElem?_set_ne (by omega), List.getElem?_append_right (Nat.le_refl _)]; simp
  have m0 := msA h4 k h1
  refine CA.go (fn := Try.f17) (vs := []) (by kernel_rfl) rfl (.inl rfl) ?_
  apply Exists.intro
  apply And.intro
  · dsimp only [Try.f17]
    dsimp only [List.length_cons, List.length_nil, List.cons_append, List.nil_append, Nat.reduceSub, Nat.reduceAdd, List.replicate]
    refine RU.seq (RU.seq RU.rg (RU.condT rfl RU.rg)) ?_
    exact RU.rg
  · rfl
theorem set_old {H : Heap} {tb m : Nat} {k : Int} {v : AV} {es : List (Int × AV)} (h : H[tb]? = some (.cells 49 .vr [.mp m])) (hm : H[m]? = some (.map .u32 es)) (h1 : v.one = true) :
    CA P NS 17 [.p tb 0, .i .u32 k, v] H (.t [], H.set m (.map .u32 (putM k v es))) := by
  have f0 := kvA tb
  have l0 := ldM h
  have e0 := eqM1 true m
  have e0' := eqM1 false m
  have m0 := msA hm k h1
  refine CA.go (fn := Try.f17) (vs := []) (by kernel_rfl) rfl (.inl rfl) ?_
  apply Exists.intro
  apply And.intro
  · dsimp only [Try.f17]
    dsimp only [List.length_cons, List.length_nil, List.cons_append, List.nil_append, Nat.reduceSub, Nat.reduceAdd, List.replicate]
    refine RU.seq (RU.seq RU.rg (RU.condF rfl RU.skip)) ?_
    exact RU.rg
  · rfl
theorem set_any {n0 tb : Nat} {H : Heap} {k : Int} {v : AV} {es : List (Int × AV)} (h : TB n0 H tb es) (hn : n0 ≤ H.length) (h1 : v.one = true) :
    ∃ H', CA P NS 17 [.p tb 0, .i .u32 k, v] H (.t [], H') ∧ TB n0 H' tb (putM k v es) ∧ H.length ≤ H'.length ∧
      ∀ (i : Nat) (b : Blk), i ≠ tb → (i < n0 ∨ ∀ kd es, b ≠ .map kd es) → H[i]? = some b → H'[i]? = some b := by
  rcases h with ⟨rfl, h⟩ | ⟨m, h, hm, hne, hb⟩
  · have hlt := (List.getElem?_eq_some_iff.1 h).1
    refine ⟨_, set_new h h1, .inr ⟨H.length, ?_, hn, by omega, ?_⟩, by simp, fun i b hi _ hx => ?_⟩
    · rw [List.getElem?_set_ne (by omega), List.getElem?_set_self (by simp; omega)]
    · rw [List.getElem?_set_self (by simp)]
    · have hil := (List.getElem?_eq_some_iff.1 hx).1
      rw [List.getElem?_set_ne (by omega), List.getElem?_set_ne (by omega), List.getElem?_append_left hil]; exact hx
  · have hml := (List.getElem?_eq_some_iff.1 hb).1
    refine ⟨_, set_old h hb h1, .inr ⟨m, ?_, hm, hne, ?_⟩, by simp, fun i b hi hc hx => ?_⟩
    · rw [List.getElem?_set_ne hne]; exact h
    · rw [List.getElem?_set_self hml]
    · have : i ≠ m := by
        rintro rfl
        rcases hc with hc | hc
        · omega
        · rw [hb] at hx; exact hc _ _ (Option.some.inj hx).symm
      rw [List.getElem?_set_ne (Ne.symm this)]; exact hx
def KC (A : Nat → Prop) (H H' : Heap) : Prop := H.length ≤ H'.length ∧ ∀ (i : Nat) (ty : TypeId) (kn : Kn) (cs : List AV), A i → H[i]? = some (.cells ty kn cs) → H'[i]? = some (.cells ty kn cs)
theorem Keep.kc {A : Nat → Prop} {H H' : Heap} (h : Keep A H H') : KC A H H' := ⟨h.1, fun i _ _ _ a x => h.2 i _ a x⟩
theorem KC.trans {A : Nat → Prop} {H H' H'' : Heap} (h : KC A H H') (k : KC A H' H'') : KC A H H'' := ⟨Nat.le_trans h.1 k.1, fun i _ _ _ a x => k.2 i _ _ _ a (h.2 i _ _ _ a x)⟩
theorem _root_.Go.Proofs.Ytdoaobkfbjegpaa.Ax.BytesAt.kc {A : Nat → Prop} {H H' : Heap} {v : AV} {bs : B} (h : BytesAt A H v bs) (k : KC A H H') : BytesAt A H' v bs := by
  cases h with
  | z => exact .z
  | e => exact .e
  | s hA h h0 h1 => exact .s hA (k.2 _ _ _ _ hA h) h0 h1
theorem TagsIn.kc {A : Nat → Prop} {H H' : Heap} {es : List (Int × AV)} {ts : List (Nat × B)} (h : TagsIn A H es ts) (k : KC A H H') : TagsIn A H' es ts := by
  obtain ⟨es', a, b, c⟩ := h
  exact ⟨es', a, b, fun j q v kk bs h1 h2 => (c j q v kk bs h1 h2).kc k⟩
theorem rdAt_kc {A : Nat → Prop} {H H' : Heap} {rb : Nat} {nn : Bool} {st : Option B} (h : RdAt A tR H rb nn st) (k : KC A H H') (e : ∀ b, H[rb]? = some b → H'[rb]? = some b) : RdAt A tR H' rb nn st := by
  cases st with
  | none => exact e _ h
  | some bs =>
    obtain ⟨src, h1, h2, h3⟩ := h
    exact ⟨src, e _ h1, h2.kc k, h3⟩
theorem Room.kc {A : Nat → Prop} {H H' : Heap} {rb : Nat} (h : Room A H rb) (k : KC A H H') : Room A H' rb where
  no := h.no
  new := fun i hi => h.new i (Nat.le_trans k.1 hi)
theorem span_both {A : Nat → Prop} {H : Heap} {rb : Nat} {st : Option B} {l : Int} (R : Room A H rb) (h : RdAt A tR H rb true st) :
    ∃ av H1 st1, CA P NS 68 [.p rb 0, .i .i64 l] H (av, H1) ∧ av.one = true ∧ RdAt A tR H1 rb true st1 ∧ H.length ≤ H1.length ∧ (∀ i b, i ≠ rb → H[i]? = some b → H1[i]? = some b) ∧
      (match st.bind (rdS l) with | none => st1 = none | some (v, r) => st1 = some r ∧ BytesAt A H1 av v) := by
  cases hd : st.bind (rdS l) with
  | none =>
    obtain ⟨H1, c, r, kp⟩ := rd_span_bad R h hd
    obtain ⟨H1', c', _, kp'⟩ := rd_span_bad (room_rb R (rdAt_lt h)) (rdAt_rb R.no h) hd
    cases CA.det c c'
    exact ⟨.s0, H1, none, c, rfl, r, kp.1, kp'.2, rfl⟩
  | some x =>
    obtain ⟨v, r1⟩ := x
    cases st with
    | none => cases hd
    | some bs =>
      simp only [Option.bind_some] at hd
      obtain ⟨av, H1, c, b, _, r, kp⟩ := rd_span_good R h hd
      obtain ⟨av', H1', c', _, _, _, kp'⟩ := rd_span_good (room_rb R (rdAt_lt h)) (rdAt_rb R.no h) hd
      cases CA.det c c'
      exact ⟨av, H1, some r1, c, (BytesAt.one' b).2, r, kp.1, kp'.2, rfl, b⟩
def flatT : Code → List Code
  | .seq a b => flatT a ++ flatT b
  | c => [c]
def loopT : List Code → Code
  | .block _ (.loop b) :: _ => b
  | _ :: r => loopT r
  | [] => .skip
theorem sub32 (n : Nat) (h : n + 1 < 4294967296) (c : Bool) : binA P .sub 37 c (.i .u32 ((n + 1 : Nat) : Int)) (.i .u32 1) = some (.i .u32 (n : Int)) := by
  have e : binA P .sub 37 c (.i .u32 ((n + 1 : Nat) : Int)) (.i .u32 1) = some (.i .u32 (IntKind.u32.wrap (((n + 1 : Nat) : Int) - 1))) := by kernel_rfl
  rw [e]
  simp [IntKind.wrap, IntKind.signed, IntKind.bits]; omega
theorem gtr32 (n : Nat) (c : Bool) : binA P .gtr 37 c (.i .u32 (n : Int)) (.i .u32 0) = some (.b (decide (0 < n))) := by
  have e : binA P .gtr 37 c (.i .u32 (n : Int)) (.i .u32 0) = some (.b (decide ((0 : Int) < (n : Int)))) := by kernel_rfl
  rw [e]; simp
theorem conv32_64 (n : Nat) (h : n < 4294967296) : convA P 37 3 (.i .u32 (n : Int)) = some (.i .i64 (n : Int)) := by
  have e : convA P 37 3 (.i .u32 (n : Int)) = some (.i .i64 (IntKind.i64.wrap (n : Int))) := by kernel_rfl
  rw [e]
  simp [IntKind.wrap, IntKind.signed, IntKind.bits]; omega
theorem TB.keep {n0 tb rb : Nat} {H H' : Heap} {es : List (Int × AV)} (h : TB n0 H tb es) (hn : rb < n0) (ht : tb ≠ rb) (k : ∀ i b, i ≠ rb → H[i]? = some b → H'[i]? = some b) : TB n0 H' tb es := by
  rcases h with ⟨rfl, h⟩ | ⟨m, h, hm, hne, hb⟩
  · exact .inl ⟨rfl, k _ _ ht h⟩
  · exact .inr ⟨m, k _ _ ht h, hm, hne, k _ _ (by omega) hb⟩
theorem rdS_nat (l : Nat) (bs : B) : rdS (l : Int) bs = cut l bs := by
  unfold rdS
  rw [if_neg (by omega)]; simp
theorem ldT {H : Heap} {tb : Nat} {v : AV} (h : H[tb]? = some (.cells 49 .vr [v])) : loadA P H 49 (.p tb 0) = some (.g [v]) := by simp [loadA, loadAt, h, aggT, sizeT]
theorem stT {H : Heap} {tb : Nat} {v w : AV} (h : H[tb]? = some (.cells 49 .vr [v])) (h1 : w.one = true) : storeA P H 49 (.p tb 0) (.g [w]) = some (H.set tb (.cells 49 .vr [w])) := by
  simp [storeA, h, sizeT, Kn.own, AV.cells, h1, over]
end Go.Proofs.Ytdoaobkfbjegpaa.Rd

namespace Go.Proofs.Ytdoaobkfbjegpaa.Rd
open Go Go.Proofs.Ytdoaobkfbjegpaa.Ax Go.Proofs.Ytdoaobkfbjegpaa.Wire
set_option maxRecDepth 100000
set_option maxHeartbeats 2000000
theorem aggS : aggA P 22 = some false := by kernel_rfl
theorem sizeS : sizeA P 22 = some 1 := by kernel_rfl
theorem elIs : (elemA P 22).isSome = true := by kernel_rfl
def OutS (L0 : Nat) (H : Heap) (out : AV) (n : Nat) : Prop := (out = .s0 ∧ n = 0) ∨ ∃ i cs, L0 ≤ i ∧ out = .sl i 0 n ∧ H[i]? = some (.cells 39 .row cs) ∧ cs.length = n * 2 ∧ cs.all AV.one = true ∧ 0 < n
theorem OutS.kp {L0 : Nat} {H H' : Heap} {out : AV} {n : Nat} (h : OutS L0 H out n) (k : Kp H H') : OutS L0 H' out n := by
  rcases h with h | ⟨i, cs, h1, h2, h3, h4⟩
  · exact .inl h
  · exact .inr ⟨i, cs, h1, h2, k.at_ h3, h4⟩
theorem OutS.one {L0 : Nat} {H : Heap} {out : AV} {n : Nat} (h : OutS L0 H out n) : out.cells = [out] ∧ out.one = true := by
  rcases h with ⟨rfl, _⟩ | ⟨i, cs, _, rfl, _⟩ <;> exact ⟨rfl, rfl⟩
theorem OutS.push {L0 : Nat} {H : Heap} {out w : AV} {n : Nat} {k : Int} (hL : L0 ≤ H.length) (h : OutS L0 H out n) (hn : n ≤ 4294967296) (hw : w.one = true) :
    ∃ sl H1 out' H', buildSliceA P H 22 1 [(0, .g [.i .u32 k, w])] = some (sl, H1) ∧ sl.isS = false ∧ appendA P H1 22 false out sl = some (out', H') ∧ OutS L0 H' out' (n + 1) ∧ Kp H H1 ∧ H1.length ≤ H'.length ∧ (∀ i o n, out' = .sl i o n → H1.length ≤ i) ∧
      (∀ (j : Nat), j < H1.length → (∀ o n, out ≠ .sl j o n) → H'[j]? = H1[j]?) := by
  have hone : ([AV.i .u32 k, w]).all AV.one = true := by have : (AV.i .u32 k).one = true := rfl; simp [hw, this]
  have hbs : buildSliceA P H 22 1 [(0, .g [.i .u32 k, w])] = some (.sl H.length 0 1, H ++ [.cells 39 .row [.i .u32 k, w]]) := by
    unfold buildSliceA
    simp only [elI, zI, zeroI]
    rw [if_neg (by omega), if_pos ⟨by omega, rfl, rfl, by omega, by omega⟩]
    have hf : fillA (fun i => some (i * 2, 2)) (zerosA (AV.g [.i .u32 0, .s0]).cells 1) [(0, .g [.i .u32 k, w])] = some [.i .u32 k, w] := by
      have hc : (AV.g [AV.i .u32 k, w]).cells.all AV.one = true := hone
      simp only [fillA]
      rw [if_pos ⟨rfl, by simp [zerosA, AV.cells], hc⟩]
      simp [over, zerosA, AV.cells]
    rw [hf]
    simp only [newBlk, hone, if_true, Option.map_some]
  have hf : firstA (H ++ [.cells 39 .row [.i .u32 k, w]]) 2 (.sl H.length 0 1) = some (1, [.i .u32 k, w]) := by
    simp only [firstA, List.getElem?_concat_length]
    rw [if_pos ⟨by simp, by simpa using hone⟩]
    rfl
  have hz : (AV.g [.i .u32 0, .s0]).cells.length = 2 ∧ (AV.g [.i .u32 0, .s0]).cells.all AV.one = true := ⟨rfl, rfl⟩
  refine ⟨.sl H.length 0 1, H ++ [.cells 39 .row [.i .u32 k, w]], .sl (H ++ [Blk.cells 39 .row [.i .u32 k, w]]).length 0 (n + 1), ?_⟩
  rcases h with ⟨rfl, rfl⟩ | ⟨i, cs, hi, rfl, h3, h4, h5, h6⟩
  · refine ⟨(H ++ [Blk.cells 39 .row [.i .u32 k, w]]) ++ [Blk.cells 39 .row [.i .u32 k, w]], hbs, rfl, ?_, .inr ⟨_, [.i .u32 k, w], by simp; omega, rfl, by rw [List.getElem?_concat_length], by simp, hone, by omega⟩, Kp.app _ _, by simp, fun i o n e => by cases e; exact Nat.le_refl _, fun j hj _ => by rw [List.getElem?_append_left hj]⟩
    unfold appendA
    simp only [elI, zI, bytesI, zeroI]
    rw [if_pos ⟨by omega, hz.1, hz.2, by simp⟩]
    simp only [hf]
    rw [if_neg (by omega), if_pos ⟨by omega, by omega⟩]
    simp only [newBlk, hone, if_true, Option.map_some]
  · have hil := (List.getElem?_eq_some_iff.1 h3).1
    have h3' : (H ++ [Blk.cells 39 .row [.i .u32 k, w]])[i]? = some (.cells 39 .row cs) := by rw [List.getElem?_append_left hil]; exact h3
    have ht : cs.take (n * 2) = cs := by rw [← h4, List.take_length]
    have hall : (cs ++ [AV.i .u32 k, w]).all AV.one = true := by rw [List.all_append, h5, hone]; rfl
    refine ⟨((H ++ [Blk.cells 39 .row [.i .u32 k, w]]).set i .dead) ++ [Blk.cells 39 .row (cs ++ [.i .u32 k, w])], hbs, rfl, ?_, .inr ⟨_, cs ++ [.i .u32 k, w], by simp; omega, rfl, ?_, by simp [h4]; omega, hall, by omega⟩, Kp.app _ _, by simp, fun i o n e => by cases e; exact Nat.le_refl _, fun j hj hne => ?_⟩
    · unfold appendA
      simp only [elI, zI, bytesI, zeroI]
      rw [if_pos ⟨by omega, hz.1, hz.2, by simp⟩]
      simp only [hf, h3']
      rw [if_pos (by refine ⟨?_, ?_, ?_, ?_⟩ <;> first | trivial | rfl | omega), ht]
      simp only [newBlk, hall, if_true, Option.map_some, List.length_set]
    · have : ((H ++ [Blk.cells 39 .row [.i .u32 k, w]]).set i .dead).length = (H ++ [Blk.cells 39 .row [.i .u32 k, w]]).length := by simp
      rw [← this, List.getElem?_concat_length]
    · have : i ≠ j := fun e => hne 0 n (by rw [e])
      rw [List.getElem?_append_left (by simpa using hj), List.getElem?_set_ne this]
structure SKeep (H : Heap) (box : Nat) (out : AV) (H' : Heap) (out' : AV) : Prop where
  at_ : ∀ (j : Nat), j < H.length → j ≠ box → (∀ i o n, out = .sl i o n → j ≠ i) → H'[j]? = H[j]?
  new : ∀ i o n, out' = .sl i o n → H.length ≤ i
  len : H.length ≤ H'.length
theorem tagged1_x {L0 : Nat} {H : Heap} {k : Int} {val out : AV} {vb : B} {n box : Nat} (hL : L0 ≤ H.length) (hbx : H[box]? = some (.cells 22 .vr [out])) (hob : ∀ i o n, out = .sl i o n → box ≠ i) (ho : OutS L0 H out n) (hn : n ≤ 4294967296) (hv : BytesAt (Lt H) H val vb) (hvl : vb.length ≤ 1099511627776) :
    ∃ out' H', CA P noS 19 [.i .u32 k, val, .p box 0] H (.t [], H') ∧ H'[box]? = some (.cells 22 .vr [out']) ∧ OutS L0 H' out' (n + 1) ∧ SKeep H box out H' out' ∧ (∀ i o n, out' = .sl i o n → box ≠ i) := by
  have hbl := (List.getElem?_eq_some_iff.1 hbx).1
  obtain ⟨cv, H1, hap, k1, hcs⟩ : ∃ cv H1, appendA P H 28 false .s0 val = some (cv, H1) ∧ Kp H H1 ∧ (cv = .s0 ∨ ∃ j m, cv = .sl j 0 m) := by
    have hf := hv.first
    unfold appendA
    simp only [bty.elem, bty.size, bty.bytes, bty.zero]
    rw [if_pos ⟨by omega, rfl, rfl, by simp⟩]
    simp only [hf]
    by_cases h0 : vb.length = 0
    · rw [if_pos h0]; exact ⟨_, _, rfl, Kp.refl _, .inl rfl⟩
    · rw [if_neg h0, if_pos ⟨by omega, by omega⟩]
      simp only [newBlk, u8s_one, if_true, Option.map_some]
      exact ⟨_, _, rfl, Kp.app _ _, .inr ⟨_, _, rfl⟩⟩
  have hcv : cv.one = true := by rcases hcs with rfl | ⟨j, m, rfl⟩ <;> rfl
  have hL1 : L0 ≤ H1.length := Nat.le_trans hL k1.1
  obtain ⟨sl, H2, out', H3, hbs, hsl, hap2, ho3, k2, l3, n3, q3⟩ := (ho.kp k1).push (w := cv) (k := k) hL1 hn hcv
  have hbu : buildA P 39 [(0, .i .u32 k), (1, cv)] = some (.g [.i .u32 k, cv]) := by
    rcases hcs with rfl | ⟨j, m, rfl⟩ <;> kernel_rfl
  have hb2 : H2[box]? = some (.cells 22 .vr [out]) := k2.at_ (k1.at_ hbx)
  have hb3 : H3[box]? = some (.cells 22 .vr [out]) := by
    rw [q3 box (by have := (List.getElem?_eq_some_iff.1 hb2).1; exact this) (fun o n e => hob box o n e rfl)]; exact hb2
  have hb3l := (List.getElem?_eq_some_iff.1 hb3).1
  have hst : storeA P H3 22 (.p box 0) out' = some (H3.set box (.cells 22 .vr [out'])) := by
    simp [storeA, hb3, sizeS, Kn.own, ho3.one.1, ho3.one.2, over]
  have hlo : ∀ H2 : Heap, H2[box]? = some (.cells 22 .vr [out]) → loadA P H2 22 (.p box 0) = some out := fun H2 h => ldk h aggS rfl
  have hne3 : ∀ i o n, out' = .sl i o n → box ≠ i := fun i o n e => by have := n3 i o n e; have := (List.getElem?_eq_some_iff.1 hb2).1; omega
  refine ⟨out', H3.set box (.cells 22 .vr [out']), ?_, by rw [List.getElem?_set_self hb3l], ?_, ⟨fun j hj hjb hjo => ?_, fun i o n e => by have := n3 i o n e; have := k1.1; have := k2.1; omega, by have := k1.1; have := k2.1; simp; omega⟩, hne3⟩
  · refine CA.goS emp_noS (fn := Try.f19) (vs := []) (by kernel_rfl) rfl (.inl rfl) ?_
    apply Exists.intro
    apply And.intro
    · dsimp only [Try.f19]
      dsimp only [List.length_cons, List.length_nil, List.cons_append, List.nil_append, Nat.reduceSub, Nat.reduceAdd, List.replicate]
      have elIs' := elIs
      have hvs := BytesAt.noS hv
      have hb1 : H1[box]? = some (.cells 22 .vr [out]) := k1.at_ hbx
      refine RU.drawT (v := .u) (H1 := H3) (fr1 := [.i .u32 k, val, .p box 0, .t [], .t [], out, .i .u32 k, val, cv, .g [.i .u32 k, cv], sl, out']) (fun H2 => H2[box]? = some (.cells 22 .vr [out])) (by kernel_rfl) hbx (n0 := 0) rfl (fun n _ => ?_) rfl rfl ?_
      · show OpsP P (run P noS n) _ _ _ _ (_, _)
        dsimp only [List.dropLast]
        (refine OpsP.pu rfl rfl (fun H2 hk => by have hld := hlo H2 hk; exact ⟨_, opy⟩) ?_; dsimp only [AV.cells, putA, List.set_cons_zero, List.set_cons_succ])
        (refine OpsP.pu rfl rfl (fun H2 hk => by exact ⟨_, opy⟩) ?_; dsimp only [AV.cells, putA, List.set_cons_zero, List.set_cons_succ])
        (refine OpsP.pu rfl rfl (fun H2 hk => by exact ⟨_, opy⟩) ?_; dsimp only [AV.cells, putA, List.set_cons_zero, List.set_cons_succ])
        (refine OpsP.op rfl rfl rfl ?_; dsimp only [AV.cells, putA, List.set_cons_zero, List.set_cons_succ])
        (refine OpsP.pu rfl rfl (fun H2 hk => by exact ⟨_, opy⟩) ?_; dsimp only [AV.cells, putA, List.set_cons_zero, List.set_cons_succ])
        (refine OpsP.op rfl rfl rfl ?_; dsimp only [AV.cells, putA, List.set_cons_zero, List.set_cons_succ])
        (refine OpsP.op rfl rfl rfl ?_; dsimp only [AV.cells, putA, List.set_cons_zero, List.set_cons_succ])
        exact OpsP.nil
      · exact op_store rfl rfl hst
    · rfl
  · rcases ho3 with ⟨rfl, h⟩ | ⟨i, cs, h1, rfl, h3, h4⟩
    · omega
    · exact .inr ⟨i, cs, h1, rfl, by rw [List.getElem?_set_ne (hne3 i _ _ rfl)]; exact h3, h4⟩
  · rw [List.getElem?_set_ne (fun e => hjb e.symm)]
    rw [q3 j (by have := k1.1; have := k2.1; omega) (fun o n e => hjo j o n e rfl), k2.2 j (by have := k1.1; omega), k1.2 j hj]
theorem tgRun_det {box : Nat} {K : List Nat} : ∀ {es : List (Int × AV)} {H H1 H2 : Heap}, TgRun box K H es H1 → TgRun box K H es H2 → H1 = H2
  | [], _, _, _, h, k => by cases h; cases k; rfl
  | (k0, v) :: es, H, H1, H2, h, k => by
    cases h with
    | cons h1 _ t1 =>
      cases k with
      | cons h2 _ t2 =>
        have := CA.det h1 h2
        simp only [Prod.mk.injEq, true_and] at this
        subst this
        exact tgRun_det t1 t2
theorem tg_det {args : List AV} {H : Heap} {r r' : AV × Heap} (h : TgRel args H r) (k : TgRel args H r') : r = r' := by
  obtain ⟨x, rfl, hx, hc⟩ := h
  obtain ⟨x', ha, hx', hc'⟩ := k
  simp only [List.cons.injEq, AV.g.injEq, and_true] at ha
  subst ha
  rcases hc with ⟨hn, rfl⟩ | ⟨i, es, es1, rfl, hi, hp, hso, h0, hbig, hrun, hv⟩ <;> rcases hc' with ⟨hn', rfl⟩ | ⟨i', es', es1', hxe, hi', hp', hso', h0', hbig', hrun', hv'⟩
  · rfl
  · subst hxe
    rcases hn with hn | ⟨j, hn, hj⟩
    · cases hn
    · cases hn; rw [hj] at hi'; cases hi'; simp at h0'
  · rcases hn' with hn | ⟨j, hn, hj⟩
    · cases hn
    · cases hn; rw [hj] at hi; cases hi; simp at h0
  · cases hxe
    rw [hi] at hi'; cases hi'
    have he : es1 = es1' := List.Perm.eq_of_pairwise (le := fun a b : Int × AV => a.1 < b.1) (fun a b _ _ h1 h2 => by omega) (List.pairwise_map.1 hso) (List.pairwise_map.1 hso') (hp.trans hp'.symm)
    subst he
    have : r.2 = r'.2 := tgRun_det hrun hrun'
    have h2 : r.1 = r'.1 := by rw [this] at hv; rw [hv] at hv'; exact Option.some.inj hv'
    exact Prod.ext h2 this
theorem tg_ca {args : List AV} {H : Heap} {r : AV × Heap} (h : TgRel args H r) : CA P NS 14 args H r := by
  refine CA.sum ?_
  have hex : ∃ r, TgRel args H r := ⟨r, h⟩
  show tgS 14 args H = some r
  unfold tgS
  rw [dif_pos hex]
  exact congrArg some (tg_det hex.choose_spec h)
theorem tgFold {L0 : Nat} {box : Nat} {K : List Nat} (hL : L0 ≤ box) : ∀ (es : List (Int × AV)) (H : Heap) (out : AV) (n : Nat), n + es.length ≤ 4294967296 →
    (∀ (k : Int) (v : AV), (k, v) ∈ es → ∃ vb : B, BytesAt (fun i => i < L0) H v vb ∧ vb.length ≤ 1099511627776) → H[box]? = some (.cells 22 .vr [out]) → (∀ i o n, out = .sl i o n → box ≠ i) → OutS L0 H out n →
    (∀ j ∈ K, j ≠ box ∧ j < H.length ∧ ∀ i o n, out = .sl i o n → j ≠ i) →
    ∃ out' H', TgRun box K H es H' ∧ H'[box]? = some (.cells 22 .vr [out']) ∧ OutS L0 H' out' (n + es.length) ∧ H.length ≤ H'.length ∧ (∀ j, j < L0 → H'[j]? = H[j]?)
  | [], H, out, n, _, _, hbx, _, ho, _ => ⟨out, H, .nil H, hbx, ho, Nat.le_refl _, fun _ _ => rfl⟩
  | (k, v) :: es, H, out, n, hn, hv, hbx, hob, ho, hK => by
    have hbl := (List.getElem?_eq_some_iff.1 hbx).1
    obtain ⟨vb, hvb, hvl⟩ := hv k v List.mem_cons_self
    simp only [List.length_cons] at hn
    obtain ⟨out1, H1, c1, b1, q1, bk, n1⟩ := tagged1_x (k := k) (L0 := L0) (by omega) hbx hob ho (by omega) (hvb.sub (fun i hi => show i < H.length by omega)) hvl
    have hlow : ∀ j, j < L0 → H1[j]? = H[j]? := fun j hj => bk.at_ j (by omega) (by omega) (fun i o m e => by
      rcases ho with ⟨rfl, _⟩ | ⟨q, cs, h1, rfl, _⟩
      · cases e
      · cases e; omega)
    obtain ⟨out2, H2, r2, b2, q2, l2, w2⟩ := tgFold hL es H1 out1 (n + 1) (by omega) (fun k v hm => by
      obtain ⟨vb, h1, h2⟩ := hv k v (List.mem_cons_of_mem _ hm)
      exact ⟨vb, BytesAt.kt h1 ⟨bk.len, fun i b hi hx => ⟨hi, by rw [hlow i hi]; exact hx⟩⟩, h2⟩) b1 n1 q1
      (fun j hj => ⟨(hK j hj).1, Nat.lt_of_lt_of_le (hK j hj).2.1 bk.len, fun i o m e => by have := bk.new i o m e; have := (hK j hj).2.1; omega⟩)
    refine ⟨out2, H2, .cons c1 (fun j hj => ?_) r2, b2, by simp only [List.length_cons]; rw [show n + (es.length + 1) = n + 1 + es.length by omega]; exact q2, Nat.le_trans bk.len l2, fun j hj => (w2 j hj).trans (hlow j hj)⟩
    obtain ⟨h1, h2, h3⟩ := hK j hj
    exact bk.at_ j h2 h1 h3
theorem tagged_x {H : Heap} {w : AV} {ts : List (Nat × B)} (h : TagRep (Lt H) H (.t ts) (.g [w])) (hl : ts.length ≤ 4294967296) (hv : ∀ t ∈ ts, t.2.length ≤ 1099511627776) : ∃ v H', CA P NS 14 [.g [w]] H (v, H') ∧ Kp H H' := by
  obtain ⟨ts', e, hok, h⟩ := h
  cases e
  rcases h with ⟨rfl, hw⟩ | ⟨i, es, hw, hil, hi, es', hp, hk, hvs⟩
  · simp at hw; subst hw
    exact ⟨_, _, tg_ca ⟨_, rfl, rfl, .inl ⟨.inl rfl, rfl⟩⟩, Kp.refl _⟩
  · simp at hw; subst hw
    by_cases h0 : es.length = 0
    · obtain rfl : es = [] := List.eq_nil_of_length_eq_zero h0
      exact ⟨_, _, tg_ca ⟨_, rfl, rfl, .inl ⟨.inr ⟨i, rfl, hi⟩, rfl⟩⟩, Kp.refl _⟩
    · have hln : es'.length = ts.length := by have := congrArg List.length hk; simpa using this
      have hel := hp.length_eq
      have hso := okT_sort hok
      have hil : i < H.length := hil
      have hH : ∀ j, j < H.length → (tgHeap H (.mp i) es')[j]? = H[j]? := fun j hj => by unfold tgHeap; rw [List.getElem?_append_left hj]
      have hlen : (tgHeap H (.mp i) es').length = H.length + 4 := by simp [tgHeap]
      have hbx : (tgHeap H (.mp i) es')[H.length + 1]? = some (.cells 22 .vr [.s0]) := by unfold tgHeap; rw [List.getElem?_append_right (by omega)]; simp
      obtain ⟨out', H', r, b, q, l, kk⟩ := tgFold (L0 := H.length) (K := [H.length, i, H.length + 2, H.length + 3]) (box := H.length + 1) (by omega) es' (tgHeap H (.mp i) es') .s0 0 (by omega) (fun k v hm => by
        obtain ⟨j, hj⟩ := List.mem_iff_getElem?.1 hm
        have hjl := (List.getElem?_eq_some_iff.1 hj).1
        have ht : ts[j]? = some (ts[j]'(by omega)) := by simp
        obtain ⟨kq, bq⟩ : ∃ kq, kq = ts[j]'(by omega) := ⟨_, rfl⟩
        have hb := hvs j k v (ts[j]'(by omega)).1 (ts[j]'(by omega)).2 hj (by rw [ht])
        refine ⟨_, BytesAt.kt (hb.sub (fun i hi => hi)) ⟨by omega, fun i b hi hx => ⟨hi, by rw [hH i hi]; exact hx⟩⟩, hv _ (List.getElem_mem _)⟩) hbx (fun i o n e => by cases e) (.inl ⟨rfl, rfl⟩) (fun j hj => by
        simp at hj
        refine ⟨by omega, by omega, fun i o n e => by cases e⟩)
      have hld : loadA P H' 22 (.p (H.length + 1) 0) = some out' := ldk b aggS rfl
      have hso' : (es'.map (·.1)).Pairwise (· < ·) := by rw [hk]; exact hso.1
      exact ⟨out', H', tg_ca ⟨_, rfl, rfl, .inr ⟨i, es, es', rfl, hi, hp, hso', by omega, by omega, r, hld⟩⟩, ⟨by omega, fun j hj => by rw [kk j hj, hH j hj]⟩⟩
end Go.Proofs.Ytdoaobkfbjegpaa.Rd

