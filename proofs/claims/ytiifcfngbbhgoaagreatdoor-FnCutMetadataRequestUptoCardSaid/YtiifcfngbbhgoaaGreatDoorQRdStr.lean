/-
  TEXTS AND LENGTHS, as kbin reads them.
-/
import Derived.Test.YtiifcfngbbhgoaaGreatDoorQSxDef
import Derived.Test.YtiifcfngbbhgoaaGreatDoorQApKit
import Derived.Test.YtiifcfngbbhgoaaGreatDoorQRdStep
set_option linter.constructorNameAsVariable false
set_option linter.unusedVariables false
set_option linter.unusedSimpArgs false
namespace Go.Proofs.YtiifcfngbbhgoaaGreatDoor.Rd
open Go Go.Proofs.YtiifcfngbbhgoaaGreatDoor.Ax Go.Proofs.YtiifcfngbbhgoaaGreatDoor.Wire
set_option maxRecDepth 100000
set_option maxHeartbeats 1000000
theorem cvr_i16_i64 (n : Int) (h : inI 2 n) : convA P 40 3 (.i .i16 n) = some (.i .i64 n) := by
  have e : convA P 40 3 (.i .i16 n) = some (.i .i64 (IntKind.i64.wrap n)) := by kernel_rfl
  have h1 := h.1
  have h2 := h.2
  simp at h1 h2
  rw [e]
  simp [IntKind.wrap, IntKind.signed, IntKind.bits]
  split <;> omega
theorem cvr_i32_i64 (n : Int) (h : inI 4 n) : convA P 21 3 (.i .i32 n) = some (.i .i64 n) := by
  have e : convA P 21 3 (.i .i32 n) = some (.i .i64 (IntKind.i64.wrap n)) := by kernel_rfl
  have h1 := h.1
  have h2 := h.2
  simp at h1 h2
  rw [e]
  simp [IntKind.wrap, IntKind.signed, IntKind.bits]
  split <;> omega
theorem cvB_str (a : AV) (h : a = .s0 ∨ a = .se ∨ ∃ i o n, a = .sl i o n) : convA P 22 9 a = none := by
  rcases h with rfl | rfl | ⟨i, o, n, rfl⟩ <;> kernel_rfl
theorem strA_eq (H : Heap) (a : AV) : strA P H 22 9 a = (strOf H a).map .s := by kernel_rfl
theorem BytesAt.sl_of {A : Nat → Prop} {H : Heap} {av : AV} {bs : B} (h : BytesAt A H av bs) : av = .s0 ∨ av = .se ∨ ∃ i o n, av = .sl i o n := by
  cases h with
  | z => exact .inl rfl
  | e => exact .inr (.inl rfl)
  | s => exact .inr (.inr ⟨_, _, _, rfl⟩)
theorem inI20 : inI 2 0 := by simp [inI]
theorem string_run {H H1 H2 : Heap} {rb : Nat} {l : Int} {av : AV} {x : ByteArray} (c1 : CA P NS 74 [.p rb 0] H (.i .i16 l, H1)) (hc : convA P 40 3 (.i .i16 l) = some (.i .i64 l)) (c2 : CA P NS 72 [.p rb 0, .i .i64 l] H1 (av, H2)) (h0 : convA P 22 9 av = none) (hs : strA P H2 22 9 av = some (.s x)) :
    CA P NS 58 [.p rb 0] H (.s x, H2) := by
  refine CA.go (fn := Tryz.f58) (vs := [_]) (by kernel_rfl) rfl (.inr rfl) ?_
  apply Exists.intro
  apply And.intro
  · dsimp only [Tryz.f58]
    dsimp only [List.length_cons, List.length_nil, List.cons_append, List.nil_append, Nat.reduceSub, Nat.reduceAdd, List.replicate]
    refine RU.seq RU.rg ?_
    refine RU.seq RU.rg ?_
    refine RU.seq RU.rg ?_
    exact RU.ret
  · rfl
theorem rdv_string : RdV 58 false .str false where
  good A H rb nn bs v r R h hd := by
    simp only [decK, rdC, Bool.false_eq_true, if_false, Bool.false_and] at hd
    cases hi : rdI 2 bs with
    | none => rw [hi] at hd; cases hd
    | some p =>
      obtain ⟨l, r1⟩ := p
      rw [hi] at hd
      simp only [Option.bind_some, Option.map_eq_some_iff] at hd
      obtain ⟨⟨x, r2⟩, hs, hh⟩ := hd
      simp at hh
      obtain ⟨rfl, rfl⟩ := hh
      obtain ⟨H1, c1, R1, k1⟩ := rd_int16.good A H rb nn bs l r1 R h hi
      obtain ⟨av, H2, c2, b2, _, R2, k2⟩ := rd_span_good (R.keep k1) R1 hs
      refine ⟨.s (bst x), H2, string_run c1 (cvr_i16_i64 l (rdI_in (.inr (.inl rfl)) hi)) c2 (cvB_str _ (BytesAt.sl_of b2)) (by rw [strA_eq, b2.str]; rfl), ?_, rfl, rfl, R2, k1.trans k2⟩
      simp [RepK]
  bad A H rb nn st R h hd := by
    have hcase : (st.bind (rdI 2) = none) ∨ ∃ bs l r1, st = some bs ∧ rdI 2 bs = some (l, r1) ∧ rdS l r1 = none := by
      cases st with
      | none => exact .inl rfl
      | some bs =>
        simp only [Option.bind_some, decK, rdC, Bool.false_eq_true, if_false, Bool.false_and] at hd
        cases hi : rdI 2 bs with
        | none => exact .inl hi
        | some p =>
          obtain ⟨l, r1⟩ := p
          rw [hi] at hd
          simp only [Option.bind_some, Option.map_eq_none_iff] at hd
          exact .inr ⟨bs, l, r1, rfl, hi, hd⟩
    rcases hcase with hi | ⟨bs, l, r1, rfl, hi, hs⟩
    · obtain ⟨H1, c1, R1, k1⟩ := rd_int16.bad A H rb nn st R h hi
      obtain ⟨H2, c2, R2, k2⟩ := rd_span_bad (l := 0) (R.keep k1) R1 rfl
      exact ⟨.s (bst []), H2, string_run c1 (cvr_i16_i64 0 inI20) c2 (cvB_str _ (.inl rfl)) (by rw [strA_eq]; rfl), rfl, rfl, R2, k1.trans k2⟩
    · obtain ⟨H1, c1, R1, k1⟩ := rd_int16.good A H rb nn bs l r1 R h hi
      obtain ⟨H2, c2, R2, k2⟩ := rd_span_bad (R.keep k1) R1 hs
      exact ⟨.s (bst []), H2, string_run c1 (cvr_i16_i64 l (rdI_in (.inr (.inl rfl)) hi)) c2 (cvB_str _ (.inl rfl)) (by rw [strA_eq]; rfl), rfl, rfl, R2, k1.trans k2⟩
theorem arrlen_ok {H H1 : Heap} {rb : Nat} {src : AV} {bad : Bool} {l n : Int} (c1 : CA P NS 71 [.p rb 0] H (.i .i32 l, H1)) (hH : H1[rb]? = some (.cells tR .vr [src, .b bad])) (hlen : lenA P 22 src = some (.i .i64 n)) (hc : convA P 21 3 (.i .i32 l) = some (.i .i64 l))
    (hl : binA P .lss 3 false (.i .i64 n) (.i .i64 l) = some (.b false)) :
    CA P NS 50 [.p rb 0] H (.i .i32 l, H1) := by
  have l0 := rd_src hH
  refine CA.go (fn := Tryz.f50) (vs := [_]) (by kernel_rfl) rfl (.inr rfl) ?_
  apply Exists.intro
  apply And.intro
  · dsimp only [Tryz.f50]
    dsimp only [List.length_cons, List.length_nil, List.cons_append, List.nil_append, Nat.reduceSub, Nat.reduceAdd, List.replicate]
    refine RU.seq RU.rg ?_
    refine RU.seq RU.rg ?_
    refine RU.seq (RU.seq RU.rg (RU.condF rfl RU.skip)) ?_
    refine RU.seq RU.rg ?_
    exact RU.ret
  · rfl
theorem arrlen_short {H H1 : Heap} {rb : Nat} {src : AV} {bad : Bool} {l n : Int} (c1 : CA P NS 71 [.p rb 0] H (.i .i32 l, H1)) (hH : H1[rb]? = some (.cells tR .vr [src, .b bad])) (hlen : lenA P 22 src = some (.i .i64 n)) (hc : convA P 21 3 (.i .i32 l) = some (.i .i64 l))
    (hl : binA P .lss 3 false (.i .i64 n) (.i .i64 l) = some (.b true)) :
    CA P NS 50 [.p rb 0] H (.i .i32 0, RH H1 rb .s0 true) := by
  have l0 := rd_src hH
  have s1 := st_bad hH
  have s2 : storeA P (RH H1 rb src true) 22 (.p rb 0) .s0 = some (RH H1 rb .s0 true) := by rw [st_src (RH_at hH _ _) rfl rfl, RH_RH]
  refine CA.go (fn := Tryz.f50) (vs := [_]) (by kernel_rfl) rfl (.inr rfl) ?_
  apply Exists.intro
  apply And.intro
  · dsimp only [Tryz.f50]
    dsimp only [List.length_cons, List.length_nil, List.cons_append, List.nil_append, Nat.reduceSub, Nat.reduceAdd, List.replicate]
    refine RU.seq RU.rg ?_
    refine RU.seq RU.rg ?_
    (apply RU.seqx; rotate_left; focus (simp)); refine RU.seq RU.rg ?_; apply RU.condT rfl
    refine RU.seq RU.rg ?_
    refine RU.seq RU.rg ?_
    refine RU.seq RU.rg ?_
    exact RU.ret
  · rfl
theorem rd_arrlen : RdN 50 .i32 (rdL false) where
  good A H rb nn bs n r R h hd := by
    unfold rdL at hd
    simp only [Bool.false_eq_true, if_false] at hd
    cases hi : rdI 4 bs with
    | none => rw [hi] at hd; cases hd
    | some p =>
      obtain ⟨l, r1⟩ := p
      rw [hi] at hd
      simp only [Option.bind_some] at hd
      split at hd
      · cases hd
      · rename_i hlt
        simp at hd
        obtain ⟨rfl, rfl⟩ := hd
        obtain ⟨H1, c1, R1, k1⟩ := rd_int32.good A H rb nn bs l r1 R h hi
        obtain ⟨src, b, hH, hl, _⟩ := RdAt.cell R1
        refine ⟨H1, arrlen_ok c1 hH hl (cvr_i32_i64 l (rdI_in (.inr (.inr (.inl rfl))) hi)) ?_, R1, k1⟩
        rw [lss]; simp; simpa using hlt
  bad A H rb nn st R h hd := by
    have hcase : (st.bind (rdI 4) = none) ∨ ∃ bs l r1, st = some bs ∧ rdI 4 bs = some (l, r1) ∧ (r1.length : Int) < l := by
      cases st with
      | none => exact .inl rfl
      | some bs =>
        simp only [Option.bind_some, rdL, Bool.false_eq_true, if_false] at hd
        cases hi : rdI 4 bs with
        | none => exact .inl hi
        | some p =>
          obtain ⟨l, r1⟩ := p
          rw [hi] at hd
          simp only [Option.bind_some] at hd
          split at hd
          · rename_i hlt; exact .inr ⟨bs, l, r1, rfl, hi, hlt⟩
          · cases hd
    rcases hcase with hi | ⟨bs, l, r1, rfl, hi, hlt⟩
    · obtain ⟨H1, c1, R1, k1⟩ := rd_int32.bad A H rb nn st R h hi
      obtain ⟨src, b, hH, hl, _⟩ := RdAt.cell R1
      exact ⟨H1, arrlen_ok c1 hH hl (cvr_i32_i64 0 (by simp [inI])) (by rw [lss]; simp), R1, k1⟩
    · obtain ⟨H1, c1, R1, k1⟩ := rd_int32.good A H rb nn bs l r1 R h hi
      obtain ⟨src, b, hH, hl, _⟩ := RdAt.cell R1
      exact ⟨_, arrlen_short c1 hH hl (cvr_i32_i64 l (rdI_in (.inr (.inr (.inl rfl))) hi)) (by rw [lss]; simpa using hlt), RdAt.bad hH, k1.trans (RH_keep R.no _ _)⟩
theorem rdok : RdOk 51 := ⟨fun A H rb nn st h => rd_ok h⟩
theorem rddone : RdDone 52 := ⟨fun A H rb nn st R h => by
  cases st with
  | none => exact rd_done_bad R h
  | some bs => exact rd_done_good h⟩
end Go.Proofs.YtiifcfngbbhgoaaGreatDoor.Rd

namespace Go.Proofs.YtiifcfngbbhgoaaGreatDoor.Wire
theorem uvd_len : ∀ (k : Nat) {p r : B} {n : Nat}, uvd k p = some (n, r) → (uv n).length + r.length ≤ p.length
  | _, [], r, n, h => by simp [uvd] at h
  | 0, b :: p, r, n, h => by
    simp only [uvd] at h
    split at h
    · simp at h
      obtain ⟨rfl, rfl⟩ := h
      rename_i hb
      rw [uv, dif_pos (by omega)]
      simp
      omega
    · cases h
  | k + 1, b :: p, r, n, h => by
    simp only [uvd] at h
    split at h
    · simp at h
      obtain ⟨rfl, rfl⟩ := h
      rename_i hb
      rw [uv, dif_pos hb]
      simp
      omega
    · rename_i hb
      simp only [Option.map_eq_some_iff] at h
      obtain ⟨⟨m, r'⟩, h1, h2⟩ := h
      simp at h2
      obtain ⟨rfl, rfl⟩ := h2
      have ih := uvd_len k h1
      have hb2 := u8_lt b
      rw [uv]
      split
      · rename_i hlt
        have : 1 ≤ (uv m).length := uv_pos m
        simp; omega
      · rename_i hlt
        have : (b.toNat - 128 + 128 * m) / 128 = m := by omega
        rw [this]
        simp; omega
theorem rdV_len {p r : B} {n : Nat} (h : rdV p = some (n, r)) : (uv n).length + r.length ≤ p.length := uvd_len 4 h
theorem uv_mono : ∀ (b a : Nat), a ≤ b → (uv a).length ≤ (uv b).length := by
  intro b
  induction b using Nat.strongRecOn with
  | ind b ih =>
    intro a hab
    rw [uv]
    split
    · simp; exact uv_pos b
    · rename_i ha
      have hb : uv b = UInt8.ofNat (b % 128 + 128) :: uv (b / 128) := by rw [uv.eq_1 b, dif_neg (by omega)]
      rw [hb]
      simp
      exact ih (b / 128) (by omega) (a / 128) (Nat.div_le_div_right hab)
theorem rdI_len {s : Nat} {p r : B} {n : Int} (h : rdI s p = some (n, r)) : s + r.length = p.length := by
  unfold rdI at h
  simp only [Option.map_eq_some_iff] at h
  obtain ⟨⟨a, b⟩, h1, h2⟩ := h
  simp at h2
  obtain ⟨hl, rfl⟩ := cut_len h1
  rw [← h2.2]; simp [hl]
theorem rdU_len {s : Nat} {p r : B} {n : Int} (h : rdU s p = some (n, r)) : s + r.length = p.length := by
  unfold rdU at h
  simp only [Option.map_eq_some_iff] at h
  obtain ⟨⟨a, b⟩, h1, h2⟩ := h
  simp at h2
  obtain ⟨hl, rfl⟩ := cut_len h1
  rw [← h2.2]; simp [hl]
theorem rdC_len {flex : Bool} {s : Nat} {p r : B} {l : Int} (h : rdC flex s p = some (l, r)) : (l < 0 → (cnt0 flex s).length + r.length ≤ p.length) ∧ (∀ n : Nat, l = n → (cnt flex s n).length + r.length ≤ p.length) ∧ (cnt flex s 0).length + r.length ≤ p.length := by
  unfold rdC at h
  split at h
  · rename_i hf
    simp only [Option.map_eq_some_iff] at h
    obtain ⟨⟨n, r'⟩, h1, h2⟩ := h
    simp at h2
    obtain ⟨rfl, rfl⟩ := h2
    have hl := rdV_len h1
    have hp := uv_pos n
    have h1' : (uv 1).length = 1 := by rw [uv, dif_pos (by omega)]; rfl
    refine ⟨fun _ => ?_, fun m hm => ?_, ?_⟩
    · simp only [cnt0, hf, if_true, List.length_singleton]; omega
    · have : n = m + 1 := by omega
      simp only [cnt, hf, if_true]
      rw [← this]; exact hl
    · simp only [cnt, hf, if_true, Nat.zero_add]
      rw [h1']; omega
  · rename_i hf
    have hl := rdI_len h
    have hf : flex = false := by simpa using hf
    subst hf
    refine ⟨fun _ => ?_, fun m hm => ?_, ?_⟩ <;> simp only [cnt0, cnt, Bool.false_eq_true, if_false, be_length] <;> omega
theorem decK_len {flex : Bool} {k : K} {null : Bool} {v : V} {p r : B} (h : decK flex k null p = some (v, r)) : (encK flex k v).length + r.length ≤ p.length := by
  have num : ∀ (k : K) {s : Nat}, (∀ n, encK flex k (.i n) = be s n) → ∀ {n : Int} {r' : B}, (rdI s p = some (n, r') ∨ rdU s p = some (n, r')) → v = .i n → r' = r → (encK flex k v).length + r.length ≤ p.length := by
    intro k s he n r' h1 h2 h3
    subst h2 h3
    rw [he, be_length]
    rcases h1 with h1 | h1
    · exact Nat.le_of_eq (rdI_len h1)
    · exact Nat.le_of_eq (rdU_len h1)
  have txt : ∀ (s : Nat), (((rdC flex s p).bind fun (l, r) => if null && l < 0 then some (V.nul, r) else (rdS l r).map fun (h, r) => (V.s h, r)) = some (v, r)) → (v = .nul ∧ (cnt0 flex s).length + r.length ≤ p.length) ∨ ∃ x, v = .s x ∧ (cnt flex s x.length).length + x.length + r.length ≤ p.length := by
    intro s h
    cases hc : rdC flex s p with
    | none => rw [hc] at h; cases h
    | some q =>
      obtain ⟨l, r1⟩ := q
      rw [hc] at h
      simp only [Option.bind_some] at h
      obtain ⟨h1, h2, h3⟩ := rdC_len hc
      split at h
      · rename_i hn
        simp at h
        obtain ⟨rfl, rfl⟩ := h
        simp at hn
        exact .inl ⟨rfl, h1 hn.2⟩
      · simp only [Option.map_eq_some_iff] at h
        obtain ⟨⟨x, r2⟩, hs, hh⟩ := h
        simp at hh
        obtain ⟨rfl, rfl⟩ := hh
        obtain ⟨hx, rfl⟩ := rdS_len hs
        have := h2 x.length hx.symm
        simp at this
        exact .inr ⟨x, rfl, by omega⟩
  cases k with
  | bool =>
    simp only [decK, Option.map_eq_some_iff] at h
    obtain ⟨⟨a, b⟩, h1, h2⟩ := h
    simp at h2
    obtain ⟨hl, rfl⟩ := cut_len h1
    rw [← h2.1, ← h2.2]
    simp [encK, hl]
    try omega
  | uuid =>
    simp only [decK, Option.map_eq_some_iff] at h
    obtain ⟨⟨a, b⟩, h1, h2⟩ := h
    simp at h2
    obtain ⟨hl, rfl⟩ := cut_len h1
    rw [← h2.1, ← h2.2]
    simp [encK]
  | u16 =>
    simp only [decK, Option.map_eq_some_iff] at h
    obtain ⟨⟨a, b⟩, h1, h2⟩ := h
    simp at h2
    exact num .u16 (s := 2) (fun n => rfl) (.inr h1) h2.1.symm h2.2
  | f64 =>
    simp only [decK, Option.map_eq_some_iff] at h
    obtain ⟨⟨a, b⟩, h1, h2⟩ := h
    simp at h2
    exact num .f64 (s := 8) (fun n => rfl) (.inr h1) h2.1.symm h2.2
  | i8 =>
    simp only [decK, Option.map_eq_some_iff] at h
    obtain ⟨⟨a, b⟩, h1, h2⟩ := h
    simp at h2
    exact num .i8 (s := 1) (fun n => rfl) (.inl h1) h2.1.symm h2.2
  | i16 =>
    simp only [decK, Option.map_eq_some_iff] at h
    obtain ⟨⟨a, b⟩, h1, h2⟩ := h
    simp at h2
    exact num .i16 (s := 2) (fun n => rfl) (.inl h1) h2.1.symm h2.2
  | i32 =>
    simp only [decK, Option.map_eq_some_iff] at h
    obtain ⟨⟨a, b⟩, h1, h2⟩ := h
    simp at h2
    exact num .i32 (s := 4) (fun n => rfl) (.inl h1) h2.1.symm h2.2
  | i64 =>
    simp only [decK, Option.map_eq_some_iff] at h
    obtain ⟨⟨a, b⟩, h1, h2⟩ := h
    simp at h2
    exact num .i64 (s := 8) (fun n => rfl) (.inl h1) h2.1.symm h2.2
  | str =>
    rcases txt 2 h with ⟨rfl, h2⟩ | ⟨x, rfl, h2⟩
    · exact h2
    · show (cnt flex 2 x.length ++ x).length + r.length ≤ p.length
      simp; omega
  | pstr =>
    rcases txt 2 h with ⟨rfl, h2⟩ | ⟨x, rfl, h2⟩
    · exact h2
    · show (cnt flex 2 x.length ++ x).length + r.length ≤ p.length
      simp; omega
  | bytes =>
    simp only [decK] at h
    cases hc : rdC flex 4 p with
    | none => rw [hc] at h; cases h
    | some q =>
      obtain ⟨l, r1⟩ := q
      rw [hc] at h
      simp only [Option.bind_some] at h
      obtain ⟨h1, h2, h3⟩ := rdC_len hc
      split at h
      · rename_i hn
        simp at h
        obtain ⟨rfl, rfl⟩ := h
        simp at hn
        exact h1 hn.2
      · split at h
        · simp at h
          obtain ⟨rfl, rfl⟩ := h
          show (cnt flex 4 0 ++ []).length + r1.length ≤ p.length
          rw [List.append_nil]; exact h3
        · simp only [Option.map_eq_some_iff] at h
          obtain ⟨⟨x, r2⟩, hs, hh⟩ := h
          simp at hh
          obtain ⟨rfl, rfl⟩ := hh
          obtain ⟨hx, rfl⟩ := rdS_len hs
          have := h2 x.length hx.symm
          show (cnt flex 4 x.length ++ x).length + r2.length ≤ p.length
          simp at this ⊢; omega
theorem rdL_len {flex : Bool} {p r : B} {l : Int} (h : rdL flex p = some (l, r)) : (cnt0 flex 4).length + r.length ≤ p.length ∧ (cnt flex 4 l.toNat).length + r.length ≤ p.length := by
  unfold rdL at h
  split at h
  · rename_i hf
    cases hv : rdV p with
    | none => rw [hv] at h; cases h
    | some q =>
      obtain ⟨n, r1⟩ := q
      rw [hv] at h
      simp only [Option.map_some, Option.bind_some] at h
      split at h
      · cases h
      · simp at h
        obtain ⟨rfl, rfl⟩ := h
        have hl := rdV_len hv
        have hp := uv_pos n
        have hn := rdV_lt hv
        have h1' : (uv 1).length = 1 := by rw [uv, dif_pos (by omega)]; rfl
        refine ⟨by simp only [cnt0, hf, if_true, List.length_singleton]; omega, ?_⟩
        simp only [cnt, hf, if_true]
        have key : (sgn 4 (((sgn 4 n) - 1) % 4294967296).toNat).toNat + 1 ≤ n ∨ (sgn 4 (((sgn 4 n) - 1) % 4294967296).toNat).toNat = 0 := by
          unfold sgn
          simp only [Nat.reduceMul, Nat.reduceSub, Nat.reducePow]
          split <;> split <;> omega
        rcases key with hk | hk
        · have := uv_mono n _ hk
          omega
        · rw [hk]; simp only [Nat.zero_add]; omega
  · rename_i hf
    have hf : flex = false := by simpa using hf
    subst hf
    cases hv : rdI 4 p with
    | none => rw [hv] at h; cases h
    | some q =>
      obtain ⟨n, r1⟩ := q
      rw [hv] at h
      simp only [Option.bind_some] at h
      split at h
      · cases h
      · simp at h
        obtain ⟨rfl, rfl⟩ := h
        have hl := rdI_len hv
        simp only [cnt0, cnt, Bool.false_eq_true, if_false, be_length]
        omega
theorem many_len {d : B → Option (V × B)} {e : V → B} (hd : ∀ {p r : B} {v : V}, d p = some (v, r) → (e v).length + r.length ≤ p.length) : ∀ (n : Nat) {p r : B} {vs : List V}, many d n p = some (vs, r) → (vs.flatMap e).length + r.length ≤ p.length
  | 0, p, r, vs, h => by simp [many] at h; obtain ⟨rfl, rfl⟩ := h; simp
  | n + 1, p, r, vs, h => by
    simp only [many] at h
    cases hq : d p with
    | none => rw [hq] at h; cases h
    | some q =>
      obtain ⟨v, r1⟩ := q
      rw [hq] at h
      simp only [Option.bind_some, Option.map_eq_some_iff] at h
      obtain ⟨⟨us, r2⟩, h1, h2⟩ := h
      simp at h2
      obtain ⟨rfl, rfl⟩ := h2
      have a := hd hq
      have b := many_len hd n h1
      rw [List.flatMap_cons, List.length_append]
      omega
theorem put_enc (k : Nat) (v : B) : ∀ (ts : List (Nat × B)), (encT (put k v ts)).length ≤ (encT ts).length + ((uv k).length + ((uv v.length).length + v.length))
  | [] => by simp [put, encT]
  | (k', v') :: r => by
    unfold put
    split
    · simp [encT]; omega
    · split
      · simp [encT]; omega
      · have := put_enc k v r
        simp only [encT, List.flatMap_cons, List.length_append] at this ⊢
        omega
theorem decT_len : ∀ (n : Nat) {ts us : List (Nat × B)} {p r : B}, decT n ts p = some (us, r) → (encT us).length + r.length ≤ (encT ts).length + p.length
  | 0, ts, us, p, r, h => by simp [decT] at h; obtain ⟨rfl, rfl⟩ := h; omega
  | n + 1, ts, us, p, r, h => by
    simp only [decT] at h
    cases hk : rdV p with
    | none => rw [hk] at h; cases h
    | some q =>
      obtain ⟨k, r1⟩ := q
      rw [hk] at h
      simp only [Option.bind_some] at h
      cases hl : rdV r1 with
      | none => rw [hl] at h; cases h
      | some q =>
        obtain ⟨l, r2⟩ := q
        rw [hl] at h
        simp only [Option.bind_some] at h
        cases hc : cut l r2 with
        | none => rw [hc] at h; cases h
        | some q =>
          obtain ⟨x, r3⟩ := q
          rw [hc] at h
          simp only [Option.bind_some] at h
          have ih := decT_len n h
          have a := rdV_len hk
          have b := rdV_len hl
          obtain ⟨hx, rfl⟩ := cut_len hc
          have c := put_enc k x ts
          rw [hx] at c
          simp at b
          omega
theorem dec_len {flex : Bool} : ∀ {f : F} {v : V} {p r : B}, dec flex f p = some (v, r) → (enc flex f v).length + r.length ≤ p.length
  | .nil, v, p, r, h => by simp [dec] at h; obtain ⟨rfl, rfl⟩ := h; simp [enc]
  | .leaf o k n f, v, p, r, h => by
    simp only [dec] at h
    cases hk : decK flex k n p with
    | none => rw [hk] at h; cases h
    | some q =>
      obtain ⟨x, r1⟩ := q
      rw [hk] at h
      simp only [Option.bind_some, Option.map_eq_some_iff] at h
      obtain ⟨⟨w, r2⟩, h1, h2⟩ := h
      simp at h2
      obtain ⟨rfl, rfl⟩ := h2
      have a := decK_len hk
      have b := dec_len h1
      simp only [enc, List.length_append]
      omega
  | .list o sz n e f, v, p, r, h => by
    simp only [dec] at h
    cases hk : rdL flex p with
    | none => rw [hk] at h; cases h
    | some q =>
      obtain ⟨l, r1⟩ := q
      rw [hk] at h
      simp only [Option.bind_some] at h
      obtain ⟨g1, g2⟩ := rdL_len hk
      split at h
      · simp only [Option.bind_some, Option.map_eq_some_iff] at h
        obtain ⟨⟨w, r2⟩, h1, h2⟩ := h
        simp at h2
        obtain ⟨rfl, rfl⟩ := h2
        have b := dec_len h1
        simp only [enc, List.length_append]
        omega
      · cases hm : many (dec flex e) l.toNat r1 with
        | none => rw [hm] at h; cases h
        | some q =>
          obtain ⟨us, r2⟩ := q
          rw [hm] at h
          simp only [Option.map_some, Option.bind_some, Option.map_eq_some_iff] at h
          obtain ⟨⟨w, r3⟩, h1, h2⟩ := h
          simp at h2
          obtain ⟨rfl, rfl⟩ := h2
          have a := many_len (d := dec flex e) (e := enc flex e) (fun h => dec_len h) _ hm
          have b := dec_len h1
          have hu := (many_ok _ hm).1
          simp only [enc, List.length_append]
          rw [hu]
          omega
  | .tags o f, v, p, r, h => by
    simp only [dec] at h
    cases hk : rdV p with
    | none => rw [hk] at h; cases h
    | some q =>
      obtain ⟨n, r1⟩ := q
      rw [hk] at h
      simp only [Option.bind_some] at h
      cases hm : decT n [] r1 with
      | none => rw [hm] at h; cases h
      | some q =>
        obtain ⟨ts, r2⟩ := q
        rw [hm] at h
        simp only [Option.bind_some, Option.map_eq_some_iff] at h
        obtain ⟨⟨w, r3⟩, h1, h2⟩ := h
        simp at h2
        obtain ⟨rfl, rfl⟩ := h2
        have a := rdV_len hk
        have b := decT_len n hm
        have c := dec_len h1
        have d := (decT_ok n hm trivial).2
        have e := uv_mono n ts.length (by simpa using d)
        have f0 : (encT []).length = 0 := rfl
        simp only [enc, List.length_append]
        omega
end Go.Proofs.YtiifcfngbbhgoaaGreatDoor.Wire

namespace Go.Proofs.YtiifcfngbbhgoaaGreatDoor.Rd
open Go Go.Proofs.YtiifcfngbbhgoaaGreatDoor.Ax Go.Proofs.YtiifcfngbbhgoaaGreatDoor.Wire
set_option maxRecDepth 100000
structure Globs (H : Heap) (rb0 : Nat) : Prop where
  be : ∃ ty, H[1]? = some (.cells ty .ro [])
  nbe : rb0 ≠ 1
  err : ∃ ty, H[0]? = some (.cells ty .ro [.e])
  nerr : rb0 ≠ 0
  lt : rb0 < H.length
theorem Globs.room {H H' : Heap} {rb0 mb : Nat} (h : Globs H rb0) (hm : H.length ≤ mb) (hl : H.length ≤ H'.length) (hmb : mb < H'.length) (hk : ∀ i b, i < H.length → H[i]? = some b → H'[i]? = some b) : Room (fun i => i ∉ [rb0, mb]) H' rb0 where
  no := by simp
  new := fun i hi => by have := h.lt; simp; omega
  be := by
    obtain ⟨ty, x⟩ := h.be
    have hlt := (List.getElem?_eq_some_iff.1 x).1
    have := h.nbe
    exact ⟨by simp; omega, ty, hk _ _ hlt x⟩
  err := by
    obtain ⟨ty, x⟩ := h.err
    have hlt := (List.getElem?_eq_some_iff.1 x).1
    have := h.nerr
    exact ⟨by simp; omega, ty, hk _ _ hlt x⟩
theorem Globs.keep {H H' : Heap} {rb0 : Nat} (h : Globs H rb0) (hl : H.length ≤ H'.length) (hk : ∀ i b, i < H.length → H[i]? = some b → H'[i]? = some b) : Globs H' rb0 where
  be := h.be.elim fun ty x => ⟨ty, hk _ _ (List.getElem?_eq_some_iff.1 x).1 x⟩
  nbe := h.nbe
  err := h.err.elim fun ty x => ⟨ty, hk _ _ (List.getElem?_eq_some_iff.1 x).1 x⟩
  nerr := h.nerr
  lt := Nat.lt_of_lt_of_le h.lt hl
theorem OutAt.bytes {L0 : Nat} {H : Heap} {out : AV} {bs : B} (h : OutAt L0 H out bs) : BytesAt (fun i => L0 ≤ i) H out bs := by
  rcases h with ⟨rfl, rfl⟩ | ⟨i, hi, rfl, hb, h0⟩
  · exact .z
  · exact .s hi hb h0 (by rw [List.drop_zero, ← u8s_length bs, List.take_length])
theorem BytesAt.noS {A : Nat → Prop} {H : Heap} {av : AV} {bs : B} (h : BytesAt A H av bs) : av.isS = false := by cases h <;> rfl
structure DatAt (H : Heap) (data : AV) (bs : B) : Prop where
  first : firstA H 1 data = some (bs.length, u8s bs)
  noS : data.isS = false
theorem BytesAt.dat {A : Nat → Prop} {H : Heap} {av : AV} {bs : B} (h : BytesAt A H av bs) : DatAt H av bs := ⟨h.first, BytesAt.noS h⟩
theorem DatAt.kp {H H' : Heap} {d : AV} {bs : B} (h : DatAt H d bs) (k : ∀ (i : Nat) (b : Blk), H[i]? = some b → H'[i]? = some b) : DatAt H' d bs := by
  refine ⟨?_, h.noS⟩
  have h1 := h.first
  have h2 := h.noS
  cases d with
  | s x => cases h2
  | sl i o n =>
    simp only [firstA] at h1 ⊢
    cases hi : H[i]? with
    | none => rw [hi] at h1; cases h1
    | some b => rw [k i b hi]; rw [hi] at h1; exact h1
  | _ => exact h1
theorem DatAt.app {H : Heap} {d : AV} {bs : B} (h : DatAt H d bs) (K : Heap) : DatAt (H ++ K) d bs := h.kp fun i b hi => by rw [List.getElem?_append_left (List.getElem?_eq_some_iff.1 hi).1]; exact hi
theorem neq_e : binA P .neq 50 true .e .n = some (.b true) := by kernel_rfl
theorem neq_n : binA P .neq 50 true .n .n = some (.b false) := by kernel_rfl
theorem OutAt.below {L0 : Nat} {H : Heap} {out : AV} {bs : B} (h : OutAt L0 H out bs) : BytesAt (fun i => i < H.length) H out bs := by
  rcases h with ⟨rfl, rfl⟩ | ⟨i, hi, rfl, hb, h0⟩
  · exact .z
  · exact .s (List.getElem?_eq_some_iff.1 hb).1 hb h0 (by rw [List.drop_zero, ← u8s_length bs, List.take_length])
theorem unF_nodes : ∀ (pl : List (Ev × Nat)), unF (nodes pl) = pl
  | [] => rfl
  | (e, o) :: r => by cases e <;> simp [nodes, Ev.node, unF, unF_nodes r]
end Go.Proofs.YtiifcfngbbhgoaaGreatDoor.Rd

