/-
  LISTS' LENGTHS, STRINGS, OCTETS, as kbin reads them.
-/
import Derived.Test.YtdanlkiojkimaaaGreatDoorQRdUvB
set_option linter.constructorNameAsVariable false
set_option linter.unusedVariables false
set_option linter.unusedSimpArgs false
namespace Go.Proofs.YtdanlkiojkimaaaGreatDoor.Rd
open Go Go.Proofs.YtdanlkiojkimaaaGreatDoor.Ax Go.Proofs.YtdanlkiojkimaaaGreatDoor.Wire
set_option maxRecDepth 100000
set_option maxHeartbeats 1000000
theorem uv_get {A : Nat → Prop} {H : Heap} {rb : Nat} {nn : Bool} {st : Option B} (R : Room A H rb) (h : RdAt A tR H rb nn st) :
    ∃ (n : Nat) (H1 : Heap) (st1 : Option B), n < 4294967296 ∧ CA P NS 161 [.p rb 0] H (.i .u32 (n : Int), H1) ∧ RdAt A tR H1 rb true st1 ∧ Keep A H H1 ∧
      (match st.bind rdV with | none => st1 = none ∧ n = 0 | some (v, r) => st1 = some r ∧ n = v) := by
  cases hd : st.bind rdV with
  | none =>
    have hi : st.bind rdVi = none := by
      cases st with
      | none => rfl
      | some bs => simp only [Option.bind_some, rdVi] at hd ⊢; rw [hd]; rfl
    obtain ⟨H1, c, r, k⟩ := rd_uvarint.bad A H rb nn st R h hi
    exact ⟨0, H1, none, by omega, c, r, k, rfl, rfl⟩
  | some x =>
    obtain ⟨v, r1⟩ := x
    cases st with
    | none => cases hd
    | some bs =>
      simp only [Option.bind_some] at hd
      obtain ⟨H1, c, r, k⟩ := rd_uvarint.good A H rb nn bs (v : Int) r1 R h (by simp [rdVi, hd])
      exact ⟨v, H1, some r1, rdV_lt hd, c, r, k, rfl, rfl⟩
theorem cvu64 (n : Nat) (h : n < 4294967296) : convA P 73 3 (.i .u32 (n : Int)) = some (.i .i64 (n : Int)) := by
  have e : convA P 73 3 (.i .u32 (n : Int)) = some (.i .i64 (IntKind.i64.wrap (n : Int))) := by kernel_rfl
  rw [e]
  simp [IntKind.wrap, IntKind.signed, IntKind.bits]; omega
theorem sub1 (n : Nat) (h : n < 4294967296) : binA P .sub 3 true (.i .i64 (n : Int)) (.i .i64 1) = some (.i .i64 ((n : Int) - 1)) := by
  rw [sub]
  congr 2
  simp [IntKind.wrap, IntKind.signed, IntKind.bits]; omega
theorem cvu32 (n : Nat) (h : n < 4294967296) : convA P 73 21 (.i .u32 (n : Int)) = some (.i .i32 (sgn 4 n)) := by
  have e : convA P 73 21 (.i .u32 (n : Int)) = some (.i .i32 (IntKind.i32.wrap (n : Int))) := by kernel_rfl
  rw [e, wrap_sgn4 h]
theorem sub1i (n : Nat) (h : n < 4294967296) : binA P .sub 21 true (.i .i32 (sgn 4 n)) (.i .i32 1) = some (.i .i32 (sgn 4 ((sgn 4 n - 1) % 4294967296).toNat)) := by
  have e : binA P .sub 21 true (.i .i32 (sgn 4 n)) (.i .i32 1) = some (.i .i32 (IntKind.i32.wrap (sgn 4 n - 1))) := by kernel_rfl
  rw [e]
  congr 2
  unfold sgn
  split <;> simp [IntKind.wrap, IntKind.signed, IntKind.bits] <;> omega
theorem clen_in (n : Nat) (h : n < 4294967296) : inI 4 (sgn 4 ((sgn 4 n - 1) % 4294967296).toNat) := by
  unfold inI sgn
  split <;> split <;> simp <;> omega
theorem carr_ok {H H1 : Heap} {rb : Nat} {src : AV} {bad : Bool} {u m l n : Int} (c1 : CA P NS 161 [.p rb 0] H (.i .u32 u, H1)) (hcv : convA P 73 21 (.i .u32 u) = some (.i .i32 m)) (hsb : binA P .sub 21 true (.i .i32 m) (.i .i32 1) = some (.i .i32 l))
    (hH : H1[rb]? = some (.cells tR .vr [src, .b bad])) (hlen : lenA P 22 src = some (.i .i64 n)) (hc : convA P 21 3 (.i .i32 l) = some (.i .i64 l))
    (hl : binA P .lss 3 false (.i .i64 n) (.i .i64 l) = some (.b false)) :
    CA P NS 121 [.p rb 0] H (.i .i32 l, H1) := by
  have l0 := rd_src hH
  refine CA.go (fn := Tryz.f121) (vs := [_]) (by kernel_rfl) rfl (.inr rfl) ?_
  apply Exists.intro
  apply And.intro
  · dsimp only [Tryz.f121]
    dsimp only [List.length_cons, List.length_nil, List.cons_append, List.nil_append, Nat.reduceSub, Nat.reduceAdd, List.replicate]
    refine RU.seq RU.rg ?_
    refine RU.seq RU.rg ?_
    refine RU.seq (RU.seq RU.rg (RU.condF rfl RU.skip)) ?_
    refine RU.seq RU.rg ?_
    exact RU.ret
  · rfl
theorem carr_short {H H1 : Heap} {rb : Nat} {src : AV} {bad : Bool} {u m l n : Int} (c1 : CA P NS 161 [.p rb 0] H (.i .u32 u, H1)) (hcv : convA P 73 21 (.i .u32 u) = some (.i .i32 m)) (hsb : binA P .sub 21 true (.i .i32 m) (.i .i32 1) = some (.i .i32 l))
    (hH : H1[rb]? = some (.cells tR .vr [src, .b bad])) (hlen : lenA P 22 src = some (.i .i64 n)) (hc : convA P 21 3 (.i .i32 l) = some (.i .i64 l))
    (hl : binA P .lss 3 false (.i .i64 n) (.i .i64 l) = some (.b true)) :
    CA P NS 121 [.p rb 0] H (.i .i32 0, RH H1 rb .s0 true) := by
  have l0 := rd_src hH
  have s1 := st_bad hH
  have s2 : storeA P (RH H1 rb src true) 22 (.p rb 0) .s0 = some (RH H1 rb .s0 true) := by rw [st_src (RH_at hH _ _) rfl rfl, RH_RH]
  refine CA.go (fn := Tryz.f121) (vs := [_]) (by kernel_rfl) rfl (.inr rfl) ?_
  apply Exists.intro
  apply And.intro
  · dsimp only [Tryz.f121]
    dsimp only [List.length_cons, List.length_nil, List.cons_append, List.nil_append, Nat.reduceSub, Nat.reduceAdd, List.replicate]
    refine RU.seq RU.rg ?_
    refine RU.seq RU.rg ?_
    (apply RU.seqx; rotate_left; focus (simp)); refine RU.seq RU.rg ?_; apply RU.condT rfl
    refine RU.seq RU.rg ?_
    refine RU.seq RU.rg ?_
    refine RU.seq RU.rg ?_
    exact RU.ret
  · rfl
theorem rd_carrlen : RdL 121 (rdL true) where
  good A H rb nn bs n r R h hd := by
    obtain ⟨u, H1, st1, hu, c1, R1, k1, m⟩ := uv_get R h
    unfold rdL at hd
    simp only [if_true] at hd
    simp only [Option.bind_some] at m
    cases hi : rdV bs with
    | none => rw [hi] at hd; cases hd
    | some p =>
      obtain ⟨v, r1⟩ := p
      rw [hi] at hd m
      obtain ⟨rfl, rfl⟩ := m
      simp only [Option.map_some, Option.bind_some] at hd
      split at hd
      · cases hd
      · rename_i hlt
        simp only [Option.some.injEq, Prod.mk.injEq] at hd
        obtain ⟨rfl, rfl⟩ := hd
        obtain ⟨src, b, hH, hl, _⟩ := RdAt.cell R1
        refine ⟨H1, carr_ok c1 (cvu32 u hu) (sub1i u hu) hH hl (cvr_i32_i64 _ (clen_in u hu)) ?_, R1, k1⟩
        rw [lss]; simp; simpa using hlt
  bad A H rb nn st R h hd := by
    obtain ⟨u, H1, st1, hu, c1, R1, k1, m⟩ := uv_get R h
    obtain ⟨src, b, hH, hl, _⟩ := RdAt.cell R1
    cases hi : st.bind rdV with
    | none =>
      rw [hi] at m
      obtain ⟨rfl, rfl⟩ := m
      exact ⟨_, H1, carr_ok c1 (cvu32 0 hu) (sub1i 0 hu) hH hl (cvr_i32_i64 _ (clen_in 0 hu)) (by rw [lss]; simp [sgn]), .inr (by simp [sgn]), R1, k1⟩
    | some p =>
      obtain ⟨v, r1⟩ := p
      rw [hi] at m
      obtain ⟨rfl, rfl⟩ := m
      cases st with
      | none => cases hi
      | some bs =>
        simp only [Option.bind_some] at hi hd
        unfold rdL at hd
        simp only [if_true] at hd
        rw [hi] at hd
        simp only [Option.map_some, Option.bind_some] at hd
        split at hd
        · rename_i hlt
          exact ⟨0, _, carr_short c1 (cvu32 u hu) (sub1i u hu) hH hl (cvr_i32_i64 _ (clen_in u hu)) (by rw [lss]; simpa using hlt), .inl rfl, RdAt.bad hH, k1.trans (RH_keep R.no _ _)⟩
        · cases hd
theorem cstring_run {H H1 H2 : Heap} {rb : Nat} {u v l : Int} {av : AV} {x : ByteArray} (c1 : CA P NS 161 [.p rb 0] H (.i .u32 u, H1)) (hc : convA P 73 3 (.i .u32 u) = some (.i .i64 v)) (hs1 : binA P .sub 3 true (.i .i64 v) (.i .i64 1) = some (.i .i64 l)) (c2 : CA P NS 162 [.p rb 0, .i .i64 l] H1 (av, H2)) (h0 : convA P 22 9 av = none) (hs : strA P H2 22 9 av = some (.s x)) :
    CA P NS 137 [.p rb 0] H (.s x, H2) := by
  refine CA.go (fn := Tryz.f137) (vs := [_]) (by kernel_rfl) rfl (.inr rfl) ?_
  apply Exists.intro
  apply And.intro
  · dsimp only [Tryz.f137]
    dsimp only [List.length_cons, List.length_nil, List.cons_append, List.nil_append, Nat.reduceSub, Nat.reduceAdd, List.replicate]
    refine RU.seq RU.rg ?_
    refine RU.seq RU.rg ?_
    refine RU.seq RU.rg ?_
    exact RU.ret
  · rfl
theorem rdv_cstring : RdV 137 true .str false where
  good A H rb nn bs v r R h hd := by
    obtain ⟨u, H1, st1, hu, c1, R1, k1, m⟩ := uv_get R h
    simp only [Option.bind_some] at m
    simp only [decK, rdC, if_true, Bool.false_and, Bool.false_eq_true, if_false] at hd
    cases hi : rdV bs with
    | none => rw [hi] at hd; cases hd
    | some p =>
      obtain ⟨l, r1⟩ := p
      rw [hi] at hd m
      obtain ⟨rfl, rfl⟩ := m
      simp only [Option.map_some, Option.bind_some, Option.map_eq_some_iff] at hd
      obtain ⟨⟨x, r2⟩, hs, hh⟩ := hd
      simp at hh
      obtain ⟨rfl, rfl⟩ := hh
      obtain ⟨av, H2, c2, b2, _, R2, k2⟩ := rd_span_good (R.keep k1) R1 hs
      refine ⟨.s (bst x), H2, cstring_run c1 (cvu64 u hu) (sub1 u hu) c2 (cvB_str _ (BytesAt.sl_of b2)) (by rw [strA_eq, b2.str]; rfl), ?_, rfl, rfl, R2, k1.trans k2⟩
      simp [RepK]
  bad A H rb nn st R h hd := by
    obtain ⟨u, H1, st1, hu, c1, R1, k1, m⟩ := uv_get R h
    have hs : st1.bind (rdS ((u : Int) - 1)) = none := by
      cases st with
      | none => rw [m.1]; rfl
      | some bs =>
        simp only [Option.bind_some, decK, rdC, if_true, Bool.false_and, Bool.false_eq_true, if_false] at hd m
        cases hi : rdV bs with
        | none => rw [hi] at m; rw [m.1]; rfl
        | some p =>
          obtain ⟨l, r1⟩ := p
          rw [hi] at hd m
          obtain ⟨rfl, rfl⟩ := m
          simp only [Option.map_some, Option.bind_some, Option.map_eq_none_iff] at hd ⊢
          exact hd
    obtain ⟨H2, c2, R2, k2⟩ := rd_span_bad (R.keep k1) R1 hs
    exact ⟨.s (bst []), H2, cstring_run c1 (cvu64 u hu) (sub1 u hu) c2 (cvB_str _ (.inl rfl)) (by rw [strA_eq]; rfl), rfl, rfl, R2, k1.trans k2⟩
theorem tyB : elemA P 22 = some tU := bty.elem
theorem rdAt_app {A : Nat → Prop} {H : Heap} {rb : Nat} {nn : Bool} {st : Option B} (h : RdAt A tR H rb nn st) (K : Heap) : RdAt A tR (H ++ K) rb nn st := by
  have hl : ∀ b, H[rb]? = some b → (H ++ K)[rb]? = some b := fun b x => by rw [List.getElem?_append_left (List.getElem?_eq_some_iff.1 x).1]; exact x
  cases st with
  | none => exact hl _ h
  | some bs =>
    obtain ⟨src, h1, h2, h3⟩ := h
    exact ⟨src, hl _ h1, h2.keep (.app _ _ _), h3⟩
theorem zU : zeroA P tU = some (.i .u8 0) := by kernel_rfl
theorem bs0 (H : Heap) : buildSliceA P H 22 0 [] = some (.se, H ++ [.cells tU .row []]) := by simp [buildSliceA, tyB, bty.size, zU, newBlk]
theorem bytes_none {H H1 : Heap} {rb : Nat} {l : Int} (c1 : CA P NS 119 [.p rb 0] H (.i .i32 l, H1)) (ht : binA P .eql 21 true (.i .i32 l) (.i .i32 (-1)) = some (.b true)) :
    CA P NS 153 [.p rb 0] H (.se, H1 ++ [.cells tU .row []]) := by
  have b0 := bs0 H1
  refine CA.go (fn := Tryz.f153) (vs := [_]) (by kernel_rfl) rfl (.inr rfl) ?_
  apply Exists.intro
  apply And.intro
  · dsimp only [Tryz.f153]
    dsimp only [List.length_cons, List.length_nil, List.cons_append, List.nil_append, Nat.reduceSub, Nat.reduceAdd, List.replicate]
    refine RU.seq RU.rg ?_
    refine RU.seq RU.rg ?_
    (apply RU.seqx; rotate_left; focus (simp)); refine RU.seq RU.rg ?_; apply RU.condT rfl
    refine RU.seq RU.rg ?_
    exact RU.ret
  · rfl
theorem bytes_some {H H1 H2 : Heap} {rb : Nat} {l : Int} {av : AV} (c1 : CA P NS 119 [.p rb 0] H (.i .i32 l, H1)) (hcv : convA P 21 3 (.i .i32 l) = some (.i .i64 l)) (ht : binA P .eql 21 true (.i .i32 l) (.i .i32 (-1)) = some (.b false)) (c2 : CA P NS 162 [.p rb 0, .i .i64 l] H1 (av, H2)) :
    CA P NS 153 [.p rb 0] H (av, H2) := by
  refine CA.go (fn := Tryz.f153) (vs := [_]) (by kernel_rfl) rfl (.inr rfl) ?_
  apply Exists.intro
  apply And.intro
  · dsimp only [Tryz.f153]
    dsimp only [List.length_cons, List.length_nil, List.cons_append, List.nil_append, Nat.reduceSub, Nat.reduceAdd, List.replicate]
    refine RU.seq RU.rg ?_
    refine RU.seq RU.rg ?_
    refine RU.seq (RU.seq RU.rg (RU.condF rfl RU.skip)) ?_
    refine RU.seq RU.rg ?_
    exact RU.ret
  · rfl
theorem rdv_bytes : RdV 153 false .bytes false where
  good A H rb nn bs v r R h hd := by
    simp only [decK, rdC, if_true, Bool.true_and, Bool.false_and, Bool.false_eq_true, if_false, decide_eq_true_eq] at hd
    cases hi : rdI 4 bs with
    | none => rw [hi] at hd; cases hd
    | some p =>
      obtain ⟨l, r1⟩ := p
      rw [hi] at hd
      simp only [Option.bind_some] at hd
      obtain ⟨H1, c1, R1, k1⟩ := rd_int32.good A H rb nn bs l r1 R h hi
      have hcv := cvr_i32_i64 l (rdI_in (.inr (.inr (.inl rfl))) hi)
      by_cases hz : l = -1
      · rw [if_pos hz] at hd
        simp only [Option.some.injEq, Prod.mk.injEq] at hd
        obtain ⟨rfl, rfl⟩ := hd
        exact ⟨_, H1 ++ [.cells tU .row []], bytes_none c1 (by rw [eql]; simp; omega), ⟨.e, fun h => by cases h⟩, rfl, rfl, rdAt_app R1 _, k1.trans (.app _ _ _)⟩
      · rw [if_neg hz] at hd
        simp only [Option.map_eq_some_iff] at hd
        obtain ⟨⟨x, r2⟩, hs, hh⟩ := hd
        simp at hh
        obtain ⟨rfl, rfl⟩ := hh
        obtain ⟨av, H2, c2, b2, hn2, R2, k2⟩ := rd_span_good (R.keep k1) R1 hs
        exact ⟨av, H2, bytes_some c1 hcv (by rw [eql]; simp; omega) c2, ⟨b2, fun _ => hn2 rfl⟩, by rw [(BytesAt.one' b2).1]; rfl, by rw [(BytesAt.one' b2).1]; simp [(BytesAt.one' b2).2], R2, k1.trans k2⟩
  bad A H rb nn st R h hd := by
    cases hi : st.bind (rdI 4) with
    | none =>
      obtain ⟨H1, c1, R1, k1⟩ := rd_int32.bad A H rb nn st R h hi
      obtain ⟨H2, c2, R2, k2⟩ := rd_span_bad (l := 0) (R.keep k1) R1 rfl
      exact ⟨_, H2, bytes_some c1 (cvr_i32_i64 0 (by simp [inI])) (by rw [eql]; simp) c2, rfl, rfl, R2, k1.trans k2⟩
    | some p =>
      obtain ⟨l, r1⟩ := p
      cases st with
      | none => cases hi
      | some bs =>
        simp only [Option.bind_some] at hi hd
        obtain ⟨H1, c1, R1, k1⟩ := rd_int32.good A H rb nn bs l r1 R h hi
        have hcv := cvr_i32_i64 l (rdI_in (.inr (.inr (.inl rfl))) hi)
        simp only [decK, rdC, if_true, Bool.true_and, Bool.false_and, Bool.false_eq_true, if_false, decide_eq_true_eq] at hd
        rw [hi] at hd
        simp only [Option.bind_some] at hd
        by_cases hz : l = -1
        · rw [if_pos hz] at hd
          cases hd
        · rw [if_neg hz] at hd
          have hs : (some r1 : Option B).bind (rdS l) = none := by simpa using hd
          obtain ⟨H2, c2, R2, k2⟩ := rd_span_bad (R.keep k1) R1 hs
          exact ⟨_, H2, bytes_some c1 hcv (by rw [eql]; simp; omega) c2, rfl, rfl, R2, k1.trans k2⟩
theorem cbytes_none {H H1 : Heap} {rb : Nat} {u v l : Int} (c1 : CA P NS 161 [.p rb 0] H (.i .u32 u, H1)) (hc : convA P 73 3 (.i .u32 u) = some (.i .i64 v)) (hs1 : binA P .sub 3 true (.i .i64 v) (.i .i64 1) = some (.i .i64 l)) (ht : binA P .eql 3 true (.i .i64 l) (.i .i64 (-1)) = some (.b true)) :
    CA P NS 152 [.p rb 0] H (.se, H1 ++ [.cells tU .row []]) := by
  have b0 := bs0 H1
  refine CA.go (fn := Tryz.f152) (vs := [_]) (by kernel_rfl) rfl (.inr rfl) ?_
  apply Exists.intro
  apply And.intro
  · dsimp only [Tryz.f152]
    dsimp only [List.length_cons, List.length_nil, List.cons_append, List.nil_append, Nat.reduceSub, Nat.reduceAdd, List.replicate]
    refine RU.seq RU.rg ?_
    refine RU.seq RU.rg ?_
    (apply RU.seqx; rotate_left; focus (simp)); refine RU.seq RU.rg ?_; apply RU.condT rfl
    refine RU.seq RU.rg ?_
    exact RU.ret
  · rfl
theorem cbytes_some {H H1 H2 : Heap} {rb : Nat} {u v l : Int} {av : AV} (c1 : CA P NS 161 [.p rb 0] H (.i .u32 u, H1)) (hc : convA P 73 3 (.i .u32 u) = some (.i .i64 v)) (hs1 : binA P .sub 3 true (.i .i64 v) (.i .i64 1) = some (.i .i64 l)) (ht : binA P .eql 3 true (.i .i64 l) (.i .i64 (-1)) = some (.b false)) (c2 : CA P NS 162 [.p rb 0, .i .i64 l] H1 (av, H2)) :
    CA P NS 152 [.p rb 0] H (av, H2) := by
  refine CA.go (fn := Tryz.f152) (vs := [_]) (by kernel_rfl) rfl (.inr rfl) ?_
  apply Exists.intro
  apply And.intro
  · dsimp only [Tryz.f152]
    dsimp only [List.length_cons, List.length_nil, List.cons_append, List.nil_append, Nat.reduceSub, Nat.reduceAdd, List.replicate]
    refine RU.seq RU.rg ?_
    refine RU.seq RU.rg ?_
    refine RU.seq (RU.seq RU.rg (RU.condF rfl RU.skip)) ?_
    refine RU.seq RU.rg ?_
    exact RU.ret
  · rfl
theorem rdv_cbytes : RdV 152 true .bytes false where
  good A H rb nn bs v r R h hd := by
    obtain ⟨u, H1, st1, hu, c1, R1, k1, m⟩ := uv_get R h
    have hl1 : (-1 : Int) ≤ (u : Int) - 1 := by omega
    simp only [Option.bind_some] at m
    simp only [decK, rdC, if_true, Bool.true_and, Bool.false_and, Bool.false_eq_true, if_false, decide_eq_true_eq] at hd
    cases hi : rdV bs with
    | none => rw [hi] at hd; cases hd
    | some p =>
      obtain ⟨l, r1⟩ := p
      rw [hi] at hd m
      obtain ⟨rfl, rfl⟩ := m
      simp only [Option.map_some, Option.bind_some] at hd
      by_cases hz : (u : Int) - 1 = -1
      · rw [if_pos hz] at hd
        simp only [Option.some.injEq, Prod.mk.injEq] at hd
        obtain ⟨rfl, rfl⟩ := hd
        exact ⟨_, H1 ++ [.cells tU .row []], cbytes_none c1 (cvu64 u hu) (sub1 u hu) (by rw [eql]; simp; omega), ⟨.e, fun h => by cases h⟩, rfl, rfl, rdAt_app R1 _, k1.trans (.app _ _ _)⟩
      · rw [if_neg hz] at hd
        simp only [Option.map_eq_some_iff] at hd
        obtain ⟨⟨x, r2⟩, hs, hh⟩ := hd
        simp at hh
        obtain ⟨rfl, rfl⟩ := hh
        obtain ⟨av, H2, c2, b2, hn2, R2, k2⟩ := rd_span_good (R.keep k1) R1 hs
        exact ⟨av, H2, cbytes_some c1 (cvu64 u hu) (sub1 u hu) (by rw [eql]; simp; omega) c2, ⟨b2, fun _ => hn2 rfl⟩, by rw [(BytesAt.one' b2).1]; rfl, by rw [(BytesAt.one' b2).1]; simp [(BytesAt.one' b2).2], R2, k1.trans k2⟩
  bad A H rb nn st R h hd := by
    obtain ⟨u, H1, st1, hu, c1, R1, k1, m⟩ := uv_get R h
    have hl1 : (-1 : Int) ≤ (u : Int) - 1 := by omega
    by_cases hz : (u : Int) - 1 = -1
    · have hst : st1 = none := by
        cases st with
        | none => exact m.1
        | some bs =>
          simp only [Option.bind_some] at m hd
          cases hi : rdV bs with
          | none => rw [hi] at m; exact m.1
          | some p =>
            obtain ⟨l, r1⟩ := p
            rw [hi] at m
            obtain ⟨rfl, rfl⟩ := m
            simp only [decK, rdC, if_true, Bool.true_and, Bool.false_and, Bool.false_eq_true, if_false, decide_eq_true_eq] at hd
            rw [hi] at hd
            simp only [Option.map_some, Option.bind_some] at hd
            rw [if_pos hz] at hd
            cases hd
      subst hst
      exact ⟨_, H1 ++ [.cells tU .row []], cbytes_none c1 (cvu64 u hu) (sub1 u hu) (by rw [eql]; simp; omega), rfl, rfl, rdAt_app R1 _, k1.trans (.app _ _ _)⟩
    · have hs : st1.bind (rdS ((u : Int) - 1)) = none := by
        cases st with
        | none => rw [m.1]; rfl
        | some bs =>
          simp only [Option.bind_some] at m hd
          cases hi : rdV bs with
          | none => rw [hi] at m; rw [m.1]; rfl
          | some p =>
            obtain ⟨l, r1⟩ := p
            rw [hi] at m
            obtain ⟨rfl, rfl⟩ := m
            simp only [decK, rdC, if_true, Bool.true_and, Bool.false_and, Bool.false_eq_true, if_false, decide_eq_true_eq] at hd
            rw [hi] at hd
            simp only [Option.map_some, Option.bind_some] at hd ⊢
            rw [if_neg hz] at hd
            simpa using hd
      obtain ⟨H2, c2, R2, k2⟩ := rd_span_bad (R.keep k1) R1 hs
      exact ⟨_, H2, cbytes_some c1 (cvu64 u hu) (sub1 u hu) (by rw [eql]; simp; omega) c2, rfl, rfl, R2, k1.trans k2⟩
end Go.Proofs.YtdanlkiojkimaaaGreatDoor.Rd

