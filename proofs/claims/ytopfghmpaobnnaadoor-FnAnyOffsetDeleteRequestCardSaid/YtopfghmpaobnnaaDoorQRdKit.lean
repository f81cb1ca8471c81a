import Derived.Test.YtopfghmpaobnnaaDoorQRdBe
/-
  A READER's BLOCK: what its loads and stores come to; what a reading function is asked.
-/
namespace Go.Proofs.YtopfghmpaobnnaaDoor.Rd
set_option linter.constructorNameAsVariable false
set_option linter.unusedVariables false
set_option linter.unusedSimpArgs false
open Go Go.Proofs.YtopfghmpaobnnaaDoor.Ax Go.Proofs.YtopfghmpaobnnaaDoor.Wire
set_option linter.unusedSimpArgs false
set_option maxRecDepth 100000

/-- The heap with another reader in its block. -/
def RH (H : Heap) (rb : Nat) (src : AV) (bad : Bool) : Heap := H.set rb (.cells tR .vr [src, .b bad])
theorem RH_at {H : Heap} {rb : Nat} {b : Blk} (h : H[rb]? = some b) (src : AV) (bad : Bool) : (RH H rb src bad)[rb]? = some (.cells tR .vr [src, .b bad]) := by
  unfold RH
  rw [List.getElem?_set_self (List.getElem?_eq_some_iff.1 h).1]
theorem RH_RH (H : Heap) (rb : Nat) (s : AV) (b : Bool) (s' : AV) (b' : Bool) : RH (RH H rb s b) rb s' b' = RH H rb s' b' := by
  unfold RH
  rw [List.set_set]
theorem RH_keep {A : Nat → Prop} {H : Heap} {rb : Nat} (h : ¬ A rb) (s : AV) (b : Bool) : Keep A H (RH H rb s b) := Keep.set h _
theorem RH_len (H : Heap) (rb : Nat) (s : AV) (b : Bool) : (RH H rb s b).length = H.length := by simp [RH]
section
variable {H : Heap} {rb : Nat} {src : AV} {bad : Bool}
theorem rd_src (h : H[rb]? = some (.cells tR .vr [src, .b bad])) : loadA P H 22 (.p rb 0) = some src := by simp [loadA, loadAt, h, aggB]
theorem rd_bad (h : H[rb]? = some (.cells tR .vr [src, .b bad])) : loadA P H 4 (.p rb 1) = some (.b bad) := by simp [loadA, loadAt, h, aggb]
theorem st_src (h : H[rb]? = some (.cells tR .vr [src, .b bad])) {v : AV} (hc : v.cells = [v]) (h1 : v.one = true) : storeA P H 22 (.p rb 0) v = some (RH H rb v bad) := by
  simp [storeA, h, sizeB, Kn.own, hc, h1, over, RH]
theorem st_bad (h : H[rb]? = some (.cells tR .vr [src, .b bad])) : storeA P H 4 (.p rb 1) (.b true) = some (RH H rb src true) := by
  simp [storeA, h, sizeb, Kn.own, AV.cells, AV.one, over, RH]
end
theorem BytesAt.one' {A : Nat → Prop} {H : Heap} {av : AV} {bs : B} (h : BytesAt A H av bs) : av.cells = [av] ∧ av.one = true := by cases h <;> exact ⟨rfl, rfl⟩

/-- The reader's block is not one of those that stay; all new ones are; and so are the variables that are read. -/
structure Room (A : Nat → Prop) (H : Heap) (rb : Nat) : Prop where
  no : ¬ A rb
  new : ∀ i, H.length ≤ i → A i
  be : A 0 ∧ ∃ ty, H[0]? = some (.cells ty .ro [])
  err : A 1 ∧ ∃ ty, H[1]? = some (.cells ty .ro [.e])
theorem Room.keep {A : Nat → Prop} {H H' : Heap} {rb : Nat} (h : Room A H rb) (k : Keep A H H') : Room A H' rb where
  no := h.no
  new := fun i hi => h.new i (Nat.le_trans k.1 hi)
  be := ⟨h.be.1, h.be.2.elim fun ty x => ⟨ty, k.2 _ _ h.be.1 x⟩⟩
  err := ⟨h.err.1, h.err.2.elim fun ty x => ⟨ty, k.2 _ _ h.err.1 x⟩⟩
theorem Room.app {A : Nat → Prop} {H : Heap} {rb : Nat} (h : Room A H rb) (K : Heap) : Room A (H ++ K) rb := h.keep (Keep.app A H K)
theorem Room.ldBE {A : Nat → Prop} {H : Heap} {rb : Nat} (h : Room A H rb) : loadA P H 166 (.gp 0) = some (.g []) := by
  obtain ⟨_, ty, x⟩ := h.be
  have a : aggA P 166 = some true := by kernel_rfl
  have b : sizeA P 166 = some 0 := by kernel_rfl
  simp [loadA, isRo, loadAt, x, a, b]
theorem Room.ldErr {A : Nat → Prop} {H : Heap} {rb : Nat} (h : Room A H rb) : loadA P H 66 (.gp 1) = some .e := by
  obtain ⟨_, ty, x⟩ := h.err
  have a : aggA P 66 = some false := by kernel_rfl
  simp [loadA, isRo, loadAt, x, a]

theorem RdAt.cell {A : Nat → Prop} {H : Heap} {rb : Nat} {nn : Bool} {st : Option B} (h : RdAt A tR H rb nn st) : ∃ src bad, H[rb]? = some (.cells tR .vr [src, .b bad]) ∧ lenA P 22 src = some (.i .i64 ((st.getD []).length : Nat)) ∧ (st = none → src = .s0) := by
  cases st with
  | none => exact ⟨.s0, true, h, by kernel_rfl, fun _ => rfl⟩
  | some bs =>
    obtain ⟨src, h1, h2, _⟩ := h
    exact ⟨src, false, h1, h2.len bty, fun h => by cases h⟩
theorem RdAt.bad {A : Nat → Prop} {H : Heap} {rb : Nat} {b : Blk} (h : H[rb]? = some b) : RdAt A tR (RH H rb .s0 true) rb true none := RH_at h _ _
theorem RdAt.good {A : Nat → Prop} {H : Heap} {rb : Nat} {b : Blk} {src : AV} {bs : B} {nn : Bool} (hA : ¬ A rb) (h : H[rb]? = some b) (hb : BytesAt A H src bs) (hn : nn = true → src ≠ .s0) : RdAt A tR (RH H rb src false) rb nn (some bs) :=
  ⟨src, RH_at h _ _, hb.keep (RH_keep hA _ _), hn⟩

/-- A function that reads a number. -/
structure RdN (f : FuncId) (kd : IntKind) (d : B → Option (Int × B)) : Prop where
  good : ∀ (A : Nat → Prop) (H : Heap) (rb : Nat) (nn : Bool) (bs : B) (n : Int) (r : B), Room A H rb → RdAt A tR H rb nn (some bs) → d bs = some (n, r) →
    ∃ H', CA P NS f [.p rb 0] H (.i kd n, H') ∧ RdAt A tR H' rb true (some r) ∧ Keep A H H'
  bad : ∀ (A : Nat → Prop) (H : Heap) (rb : Nat) (nn : Bool) (st : Option B), Room A H rb → RdAt A tR H rb nn st → st.bind d = none →
    ∃ H', CA P NS f [.p rb 0] H (.i kd 0, H') ∧ RdAt A tR H' rb true none ∧ Keep A H H'

theorem cut_none {n : Nat} {bs : B} (h : cut n bs = none) : bs.length < n := by
  unfold cut at h
  split at h
  · cases h
  · omega
theorem bind_cut {α : Type} {n : Nat} {st : Option B} {g : B × B → Option α} (hg : ∀ x, (g x).isSome = true) (hn : 0 < n) (h : (st.bind fun bs => (cut n bs).bind g) = none) : (st.getD []).length < n := by
  cases st with
  | none => simpa using hn
  | some bs =>
    simp only [Option.bind_some] at h
    cases hc : cut n bs with
    | none => simpa using cut_none hc
    | some x =>
      rw [hc] at h
      simp only [Option.bind_some] at h
      have := hg x
      rw [h] at this; cases this

theorem rdI_none {s : Nat} {st : Option B} (hs : 0 < s) (h : st.bind (rdI s) = none) : (st.getD []).length < s := by
  cases st with
  | none => simpa using hs
  | some bs =>
    simp only [Option.bind_some, rdI, Option.map_eq_none_iff] at h
    simpa using cut_none h
theorem rdU_none {s : Nat} {st : Option B} (hs : 0 < s) (h : st.bind (rdU s) = none) : (st.getD []).length < s := by
  cases st with
  | none => simpa using hs
  | some bs =>
    simp only [Option.bind_some, rdU, Option.map_eq_none_iff] at h
    simpa using cut_none h
theorem rdS_some {l : Int} {bs h r : B} (e : rdS l bs = some (h, r)) : ∃ n : Nat, l = n ∧ n ≤ bs.length ∧ h = bs.take n ∧ r = bs.drop n := by
  unfold rdS cut at e
  split at e
  · cases e
  · split at e
    · simp at e
      exact ⟨l.toNat, by omega, by assumption, e.1.symm, e.2.symm⟩
    · cases e
theorem rdS_none {l : Int} {bs : B} (e : rdS l bs = none) : ((bs.length : Nat) : Int) < l ∨ l < 0 := by
  unfold rdS cut at e
  split at e
  · right; assumption
  · split at e
    · cases e
    · left; omega
theorem cut1 {bs h r : B} (e : cut 1 bs = some (h, r)) : ∃ b0, h = [b0] ∧ bs = b0 :: r := by
  obtain ⟨hl, rfl⟩ := cut_len e
  rcases h with _ | ⟨b0, _ | ⟨b1, h⟩⟩ <;> simp at hl
  exact ⟨b0, rfl, rfl⟩
theorem cut2 {bs h r : B} (e : cut 2 bs = some (h, r)) : ∃ b0 b1, h = [b0, b1] ∧ bs = b0 :: b1 :: r := by
  obtain ⟨hl, rfl⟩ := cut_len e
  rcases h with _ | ⟨b0, _ | ⟨b1, _ | ⟨b2, h⟩⟩⟩ <;> simp at hl
  exact ⟨b0, b1, rfl, rfl⟩
theorem cut4 {bs h r : B} (e : cut 4 bs = some (h, r)) : ∃ b0 b1 b2 b3, h = [b0, b1, b2, b3] ∧ bs = b0 :: b1 :: b2 :: b3 :: r := by
  obtain ⟨hl, rfl⟩ := cut_len e
  rcases h with _ | ⟨b0, _ | ⟨b1, _ | ⟨b2, _ | ⟨b3, _ | ⟨b4, h⟩⟩⟩⟩⟩ <;> simp at hl
  exact ⟨b0, b1, b2, b3, rfl, rfl⟩
theorem cut8 {bs h r : B} (e : cut 8 bs = some (h, r)) : ∃ b0 b1 b2 b3 b4 b5 b6 b7, h = [b0, b1, b2, b3, b4, b5, b6, b7] ∧ bs = b0 :: b1 :: b2 :: b3 :: b4 :: b5 :: b6 :: b7 :: r := by
  obtain ⟨hl, rfl⟩ := cut_len e
  rcases h with _ | ⟨b0, _ | ⟨b1, _ | ⟨b2, _ | ⟨b3, _ | ⟨b4, _ | ⟨b5, _ | ⟨b6, _ | ⟨b7, _ | ⟨b8, h⟩⟩⟩⟩⟩⟩⟩⟩⟩ <;> simp at hl
  exact ⟨b0, b1, b2, b3, b4, b5, b6, b7, rfl, rfl⟩
theorem rdI_some {s : Nat} {bs r : B} {n : Int} (h : rdI s bs = some (n, r)) : ∃ h, cut s bs = some (h, r) ∧ n = sgn s (nat h) := by
  unfold rdI at h
  cases hc : cut s bs with
  | none => rw [hc] at h; cases h
  | some x => rw [hc] at h; simp at h; exact ⟨x.1, by rw [← h.2], h.1.symm⟩
theorem rdU_some {s : Nat} {bs r : B} {n : Int} (h : rdU s bs = some (n, r)) : ∃ h, cut s bs = some (h, r) ∧ n = (nat h : Nat) := by
  unfold rdU at h
  cases hc : cut s bs with
  | none => rw [hc] at h; cases h
  | some x => rw [hc] at h; simp at h; exact ⟨x.1, by rw [← h.2], h.1.symm⟩

theorem wrap_sgn2 {n : Nat} (h : n < 65536) : IntKind.i16.wrap (n : Int) = sgn 2 n := by
  unfold sgn
  split <;> simp [IntKind.wrap, IntKind.signed, IntKind.bits] <;> omega
theorem wrap_sgn4 {n : Nat} (h : n < 4294967296) : IntKind.i32.wrap (n : Int) = sgn 4 n := by
  unfold sgn
  split <;> simp [IntKind.wrap, IntKind.signed, IntKind.bits] <;> omega
theorem wrap_sgn1 {n : Nat} (h : n < 256) : IntKind.i8.wrap (n : Int) = sgn 1 n := by
  unfold sgn
  split <;> simp [IntKind.wrap, IntKind.signed, IntKind.bits] <;> omega
theorem wrap_sgn8 {n : Nat} (h : n < 18446744073709551616) : IntKind.i64.wrap (n : Int) = sgn 8 n := by
  unfold sgn
  split <;> simp [IntKind.wrap, IntKind.signed, IntKind.bits] <;> omega
theorem nat_lt2 (b0 b1 : UInt8) : nat [b0, b1] < 65536 := by have := nat_lt [b0, b1]; simpa using this
theorem nat_lt4 (b0 b1 b2 b3 : UInt8) : nat [b0, b1, b2, b3] < 4294967296 := by have := nat_lt [b0, b1, b2, b3]; simpa using this
theorem nat_lt8 (b0 b1 b2 b3 b4 b5 b6 b7 : UInt8) : nat [b0, b1, b2, b3, b4, b5, b6, b7] < 18446744073709551616 := by have := nat_lt [b0, b1, b2, b3, b4, b5, b6, b7]; simpa using this
theorem nat2 (b0 b1 : UInt8) : b0.toNat * 2 ^ 8 + b1.toNat = nat [b0, b1] := by simp [nat]
theorem nat4 (b0 b1 b2 b3 : UInt8) : b0.toNat * 2 ^ 24 + (b1.toNat * 2 ^ 16 + (b2.toNat * 2 ^ 8 + b3.toNat)) = nat [b0, b1, b2, b3] := by simp [nat]
end Go.Proofs.YtopfghmpaobnnaaDoor.Rd

