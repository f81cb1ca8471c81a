/-
  Numbers in groups of seven bits are read.
-/
import Derived.Test.YtiifcfngbbhgoagDoorQRdUv
import Derived.Test.YtiifcfngbbhgoagDoorQRdStep
import Derived.Test.YtiifcfngbbhgoagDoorQWire
import Derived.Test.YtiifcfngbbhgoagDoorQWireB
set_option linter.constructorNameAsVariable false
set_option linter.unusedVariables false
set_option linter.unusedSimpArgs false
namespace Go.Proofs.YtiifcfngbbhgoagDoor.Rd
open Go Go.Proofs.YtiifcfngbbhgoagDoor.Ax Go.Proofs.YtiifcfngbbhgoagDoor.Wire
set_option maxRecDepth 100000
theorem and8 (t : TypeId) (c : Bool) (b : UInt8) (k : Nat) (hk : k < 256) : binA P .and t c (.i .u8 (b.toNat : Nat)) (.i .u8 (k : Int)) = some (.i .u8 ((b.toNat &&& k : Nat) : Int)) := by
  have hb : b.toNat < 256 := u8_lt b
  show ofSem (Op.intBits .and .u8 (b.toNat : Int) (k : Int)) = _
  have e : (BitVec.ofInt 8 (b.toNat : Int) &&& BitVec.ofInt 8 (k : Int)).toNat = b.toNat &&& k := by
    have h1 : BitVec.ofInt 8 (b.toNat : Int) = BitVec.ofNat 8 b.toNat := BitVec.ofInt_natCast 8 b.toNat
    have h2 : BitVec.ofInt 8 (k : Int) = BitVec.ofNat 8 k := BitVec.ofInt_natCast 8 k
    rw [h1, h2, BitVec.toNat_and, BitVec.toNat_ofNat, BitVec.toNat_ofNat, Nat.mod_eq_of_lt (by omega), Nat.mod_eq_of_lt (by omega)]
  have hl : b.toNat &&& k ≤ b.toNat := Nat.and_le_left
  rw [show Op.intBits .and .u8 (b.toNat : Int) (k : Int) = pure (.int .u8 (IntKind.u8.wrap ((BitVec.ofInt 8 (b.toNat : Int) &&& BitVec.ofInt 8 (k : Int)).toNat : Int))) from rfl, e]
  have e2 : IntKind.u8.wrap ((b.toNat &&& k : Nat) : Int) = ((b.toNat &&& k : Nat) : Int) := by
    generalize b.toNat &&& k = z at hl
    simp [IntKind.wrap, IntKind.signed, IntKind.bits]; omega
  rw [e2]
  rfl
theorem and8_127 (t : TypeId) (c : Bool) (b : UInt8) : binA P .and t c (.i .u8 (b.toNat : Nat)) (.i .u8 127) = some (.i .u8 ((b.toNat % 128 : Nat) : Int)) := by
  have := and8 t c b 127 (by omega)
  rw [show b.toNat &&& 127 = b.toNat % 128 from Nat.and_two_pow_sub_one_eq_mod b.toNat 7] at this
  exact this
theorem and_128 : ∀ b : Fin 256, (b.val &&& 128 = if b.val < 128 then 0 else 128) := by decide
theorem and8_128 (t : TypeId) (c : Bool) (b : UInt8) : binA P .and t c (.i .u8 (b.toNat : Nat)) (.i .u8 128) = some (.i .u8 ((if b.toNat < 128 then 0 else 128 : Nat) : Int)) := by
  have := and8 t c b 128 (by omega)
  rw [and_128 ⟨b.toNat, u8_lt b⟩] at this
  exact this
theorem conv8n (n : Nat) (h : n < 256) : convA P 5 49 (.i .u8 (n : Int)) = some (.i .u32 (n : Int)) := by
  have e : convA P 5 49 (.i .u8 (n : Int)) = some (.i .u32 (IntKind.u32.wrap (n : Int))) := by kernel_rfl
  rw [e]
  simp [IntKind.wrap, IntKind.signed, IntKind.bits]; omega
theorem shlw (t : TypeId) (c : Bool) (n : Nat) (hn : n = 7 ∨ n = 14 ∨ n = 21 ∨ n = 28) (a : Int) : binA P .shl t c (.i .u32 a) (.i .u64 (n : Int)) = some (.i .u32 (IntKind.u32.wrap (a * 2 ^ n))) := by
  have e2 : Op.shift .shl .u32 a .u64 (n : Int) = pure (.int .u32 (IntKind.u32.wrap (a * 2 ^ n))) := by
    rcases hn with rfl | rfl | rfl | rfl <;> rfl
  show ofSem (Op.shift .shl .u32 a .u64 (n : Int)) = _
  rw [e2]
  rfl
theorem shln (t : TypeId) (c : Bool) (n : Nat) (hn : n = 7 ∨ n = 14 ∨ n = 21 ∨ n = 28) (a : Nat) (h : a * 2 ^ n < 2 ^ 32) : binA P .shl t c (.i .u32 (a : Int)) (.i .u64 (n : Int)) = some (.i .u32 ((a * 2 ^ n : Nat) : Int)) := by
  rw [shlw t c n hn]
  have : ((a : Int) * 2 ^ n) = ((a * 2 ^ n : Nat) : Int) := by simp
  rw [this]
  generalize a * 2 ^ n = y at h
  congr 2
  simp [IntKind.wrap, IntKind.signed, IntKind.bits]; omega
theorem orn (t : TypeId) (c : Bool) {x a n : Nat} (hx : x < 2 ^ n) (hlt : a * 2 ^ n + x < 2 ^ 32) : binA P .or t c (.i .u32 (x : Int)) (.i .u32 ((a * 2 ^ n : Nat) : Int)) = some (.i .u32 ((a * 2 ^ n + x : Nat) : Int)) := by
  have h := or_add (w := 32) (a := a) (b := x) (n := n) hx hlt
  have e : IntKind.u32.wrap ((a * 2 ^ n + x : Nat) : Int) = ((a * 2 ^ n + x : Nat) : Int) := by
    generalize a * 2 ^ n + x = y at hlt
    simp [IntKind.wrap, IntKind.signed, IntKind.bits]; omega
  show ofSem (Op.intBits .or .u32 (x : Int) ((a * 2 ^ n : Nat) : Int)) = _
  rw [show Op.intBits .or .u32 (x : Int) ((a * 2 ^ n : Nat) : Int) = pure (.int .u32 (IntKind.u32.wrap ((BitVec.ofInt 32 (x : Int) ||| BitVec.ofInt 32 ((a * 2 ^ n : Nat) : Int)).toNat : Int))) from rfl, h, e]
  rfl
theorem orw (t : TypeId) (c : Bool) (x y : Int) : ∃ z, binA P .or t c (.i .u32 x) (.i .u32 y) = some (.i .u32 z) := ⟨_, rfl⟩
theorem lssT {n : Nat} {k : Nat} (h : n < k) : binA P .lss 3 true (.i .i64 (n : Int)) (.i .i64 (k : Int)) = some (.b true) := by
  rw [lss]; simpa using h
theorem lssF {n : Nat} {k : Nat} (h : k ≤ n) : binA P .lss 3 true (.i .i64 (n : Int)) (.i .i64 (k : Int)) = some (.b false) := by
  rw [lss]; simpa using h
theorem eqT {b : UInt8} (h : b.toNat < 128) : binA P .eql 5 true (.i .u8 ((if b.toNat < 128 then 0 else 128 : Nat) : Int)) (.i .u8 0) = some (.b true) := by
  rw [eql, if_pos h]; rfl
theorem eqF {b : UInt8} (h : ¬ b.toNat < 128) : binA P .eql 5 true (.i .u8 ((if b.toNat < 128 then 0 else 128 : Nat) : Int)) (.i .u8 0) = some (.b false) := by
  rw [eql, if_neg h]; rfl
theorem uv_run {A : Nat → Prop} {H : Heap} {src : AV} {bs : B} (hb : BytesAt A H src bs) : ∃ (w : Nat) (n : Int), CA P NS 44 [src] H (.t [.i .u32 (w : Int), .i .i64 n], H) ∧
    match rdV bs with | some (m, r) => w = m ∧ ∃ k : Nat, n = (k : Int) ∧ 0 < k ∧ k ≤ bs.length ∧ r = bs.drop k | none => w = 0 ∧ n ≤ 0 := by
  have hlen := hb.len bty
  rcases bs with _ | ⟨b0, bs⟩
  · exact ⟨0, 0, uvl_0 hlen (lssT (by simp)), by simp [rdV, uvd]⟩
  have q0 := u8_lt b0
  obtain ⟨p0, i0, l0⟩ := hb.idx bty .i64 (n := 0) (b := b0) rfl
  have g0 := lssF (n := (b0 :: bs).length) (k := 1) (by simp)
  by_cases h0 : b0.toNat < 128
  · refine ⟨_, _, uvp_0 hlen g0 i0 l0 (and8_127 _ _ b0) (conv8n _ (by omega)) (and8_128 _ _ b0) (eqT h0), ?_⟩
    simp only [rdV, uvd, if_pos h0]
    exact ⟨Nat.mod_eq_of_lt h0, 1, rfl, by omega, by simp, rfl⟩
  rcases bs with _ | ⟨b1, bs⟩
  · exact ⟨0, 0, uvl_1 hlen g0 i0 l0 (and8_127 _ _ b0) (conv8n _ (by omega)) (and8_128 _ _ b0) (eqF h0) (lssT (by simp)), by simp [rdV, uvd, h0]⟩
  have q1 := u8_lt b1
  obtain ⟨p1, i1, l1⟩ := hb.idx bty .i64 (n := 1) (b := b1) rfl
  have g1 := lssF (n := (b0 :: b1 :: bs).length) (k := 2) (by simp)
  have o1 := orn 49 false (x := b0.toNat % 128) (a := b1.toNat % 128) (n := 7) (by omega) (by omega)
  by_cases h1 : b1.toNat < 128
  · refine ⟨_, _, uvp_1 hlen g0 i0 l0 (and8_127 _ _ b0) (conv8n _ (by omega)) (and8_128 _ _ b0) (eqF h0) g1 i1 l1 (and8_127 _ _ b1) (conv8n _ (by omega)) (and8_128 _ _ b1) (eqT h1) (shln _ _ 7 (by simp) _ (by omega)) o1, ?_⟩
    simp only [rdV, uvd, if_neg h0, if_pos h1]
    exact ⟨by simp; omega, 2, rfl, by omega, by simp, rfl⟩
  rcases bs with _ | ⟨b2, bs⟩
  · exact ⟨0, 0, uvl_2 hlen g0 i0 l0 (and8_127 _ _ b0) (conv8n _ (by omega)) (and8_128 _ _ b0) (eqF h0) g1 i1 l1 (and8_127 _ _ b1) (conv8n _ (by omega)) (and8_128 _ _ b1) (eqF h1) (shln _ _ 7 (by simp) _ (by omega)) o1 (lssT (by simp)), by simp [rdV, uvd, h0, h1]⟩
  have q2 := u8_lt b2
  obtain ⟨p2, i2, l2⟩ := hb.idx bty .i64 (n := 2) (b := b2) rfl
  have g2 := lssF (n := (b0 :: b1 :: b2 :: bs).length) (k := 3) (by simp)
  have o2 := orn 49 false (x := (b1.toNat % 128) * 2 ^ 7 + b0.toNat % 128) (a := b2.toNat % 128) (n := 14) (by omega) (by omega)
  by_cases h2 : b2.toNat < 128
  · refine ⟨_, _, uvp_2 hlen g0 i0 l0 (and8_127 _ _ b0) (conv8n _ (by omega)) (and8_128 _ _ b0) (eqF h0) g1 i1 l1 (and8_127 _ _ b1) (conv8n _ (by omega)) (and8_128 _ _ b1) (eqF h1) (shln _ _ 7 (by simp) _ (by omega)) o1 g2 i2 l2 (and8_127 _ _ b2) (conv8n _ (by omega)) (and8_128 _ _ b2) (eqT h2) (shln _ _ 14 (by simp) _ (by omega)) o2, ?_⟩
    simp only [rdV, uvd, if_neg h0, if_neg h1, if_pos h2]
    exact ⟨by simp; omega, 3, rfl, by omega, by simp, rfl⟩
  rcases bs with _ | ⟨b3, bs⟩
  · exact ⟨0, 0, uvl_3 hlen g0 i0 l0 (and8_127 _ _ b0) (conv8n _ (by omega)) (and8_128 _ _ b0) (eqF h0) g1 i1 l1 (and8_127 _ _ b1) (conv8n _ (by omega)) (and8_128 _ _ b1) (eqF h1) (shln _ _ 7 (by simp) _ (by omega)) o1 g2 i2 l2 (and8_127 _ _ b2) (conv8n _ (by omega)) (and8_128 _ _ b2) (eqF h2) (shln _ _ 14 (by simp) _ (by omega)) o2 (lssT (by simp)), by simp [rdV, uvd, h0, h1, h2]⟩
  have q3 := u8_lt b3
  obtain ⟨p3, i3, l3⟩ := hb.idx bty .i64 (n := 3) (b := b3) rfl
  have g3 := lssF (n := (b0 :: b1 :: b2 :: b3 :: bs).length) (k := 4) (by simp)
  have o3 := orn 49 false (x := (b2.toNat % 128) * 2 ^ 14 + ((b1.toNat % 128) * 2 ^ 7 + b0.toNat % 128)) (a := b3.toNat % 128) (n := 21) (by omega) (by omega)
  by_cases h3 : b3.toNat < 128
  · refine ⟨_, _, uvp_3 hlen g0 i0 l0 (and8_127 _ _ b0) (conv8n _ (by omega)) (and8_128 _ _ b0) (eqF h0) g1 i1 l1 (and8_127 _ _ b1) (conv8n _ (by omega)) (and8_128 _ _ b1) (eqF h1) (shln _ _ 7 (by simp) _ (by omega)) o1 g2 i2 l2 (and8_127 _ _ b2) (conv8n _ (by omega)) (and8_128 _ _ b2) (eqF h2) (shln _ _ 14 (by simp) _ (by omega)) o2 g3 i3 l3 (and8_127 _ _ b3) (conv8n _ (by omega)) (and8_128 _ _ b3) (eqT h3) (shln _ _ 21 (by simp) _ (by omega)) o3, ?_⟩
    simp only [rdV, uvd, if_neg h0, if_neg h1, if_neg h2, if_pos h3]
    exact ⟨by simp; omega, 4, rfl, by omega, by simp, rfl⟩
  rcases bs with _ | ⟨b4, bs⟩
  · exact ⟨0, 0, uvl_4 hlen g0 i0 l0 (and8_127 _ _ b0) (conv8n _ (by omega)) (and8_128 _ _ b0) (eqF h0) g1 i1 l1 (and8_127 _ _ b1) (conv8n _ (by omega)) (and8_128 _ _ b1) (eqF h1) (shln _ _ 7 (by simp) _ (by omega)) o1 g2 i2 l2 (and8_127 _ _ b2) (conv8n _ (by omega)) (and8_128 _ _ b2) (eqF h2) (shln _ _ 14 (by simp) _ (by omega)) o2 g3 i3 l3 (and8_127 _ _ b3) (conv8n _ (by omega)) (and8_128 _ _ b3) (eqF h3) (shln _ _ 21 (by simp) _ (by omega)) o3 (lssT (by simp)), by simp [rdV, uvd, h0, h1, h2, h3]⟩
  have q4 := u8_lt b4
  obtain ⟨p4, i4, l4⟩ := hb.idx bty .i64 (n := 4) (b := b4) rfl
  have g4 := lssF (n := (b0 :: b1 :: b2 :: b3 :: b4 :: bs).length) (k := 5) (by simp)
  by_cases h4 : b4.toNat ≤ 15
  · have o4 := orn 49 false (x := (b3.toNat % 128) * 2 ^ 21 + ((b2.toNat % 128) * 2 ^ 14 + ((b1.toNat % 128) * 2 ^ 7 + b0.toNat % 128))) (a := b4.toNat) (n := 28) (by omega) (by omega)
    refine ⟨_, _, uvp_4 hlen g0 i0 l0 (and8_127 _ _ b0) (conv8n _ (by omega)) (and8_128 _ _ b0) (eqF h0) g1 i1 l1 (and8_127 _ _ b1) (conv8n _ (by omega)) (and8_128 _ _ b1) (eqF h1) (shln _ _ 7 (by simp) _ (by omega)) o1 g2 i2 l2 (and8_127 _ _ b2) (conv8n _ (by omega)) (and8_128 _ _ b2) (eqF h2) (shln _ _ 14 (by simp) _ (by omega)) o2 g3 i3 l3 (and8_127 _ _ b3) (conv8n _ (by omega)) (and8_128 _ _ b3) (eqF h3) (shln _ _ 21 (by simp) _ (by omega)) o3 g4 i4 l4 (conv8n _ (by omega)) (by rw [leq]; simp; omega) (shln _ _ 28 (by simp) _ (by omega)) o4, ?_⟩
    simp only [rdV, uvd, if_neg h0, if_neg h1, if_neg h2, if_neg h3, if_pos h4]
    exact ⟨by simp; omega, 5, rfl, by omega, by simp, rfl⟩
  · obtain ⟨x4, o4⟩ := orw 49 false (((b3.toNat % 128) * 2 ^ 21 + ((b2.toNat % 128) * 2 ^ 14 + ((b1.toNat % 128) * 2 ^ 7 + b0.toNat % 128)) : Nat) : Int) (IntKind.u32.wrap ((b4.toNat : Int) * 2 ^ 28))
    refine ⟨0, -5, uvo hlen g0 i0 l0 (and8_127 _ _ b0) (conv8n _ (by omega)) (and8_128 _ _ b0) (eqF h0) g1 i1 l1 (and8_127 _ _ b1) (conv8n _ (by omega)) (and8_128 _ _ b1) (eqF h1) (shln _ _ 7 (by simp) _ (by omega)) o1 g2 i2 l2 (and8_127 _ _ b2) (conv8n _ (by omega)) (and8_128 _ _ b2) (eqF h2) (shln _ _ 14 (by simp) _ (by omega)) o2 g3 i3 l3 (and8_127 _ _ b3) (conv8n _ (by omega)) (and8_128 _ _ b3) (eqF h3) (shln _ _ 21 (by simp) _ (by omega)) o3 g4 i4 l4 (conv8n _ (by omega)) (by rw [leq]; simp; omega) (shlw _ _ 28 (by simp) _) o4, ?_⟩
    simp [rdV, uvd, h0, h1, h2, h3, h4]
theorem uvr_good {H : Heap} {rb : Nat} {src src' : AV} {bad : Bool} {w n : Int} (hH : H[rb]? = some (.cells tR .vr [src, .b bad]))
    (h1 : CA P NS 44 [src] H (.t [.i .u32 w, .i .i64 n], H)) (g : binA P .leq 3 true (.i .i64 n) (.i .i64 0) = some (.b false))
    (hs : sliceA P tB src (some (.i .i64 n)) none = some src') (hc : src'.cells = [src']) (ho : src'.one = true) :
    CA P NS 29 [.p rb 0] H (.i .u32 w, RH H rb src' bad) := by
  have l0 := rd_src hH
  have s0 := st_src hH hc ho
  refine CA.go (fn := Tryd.f29) (vs := [_]) (by kernel_rfl) rfl (.inr rfl) ?_
  apply Exists.intro
  apply And.intro
  · dsimp only [Tryd.f29]
    dsimp only [List.length_cons, List.length_nil, List.cons_append, List.nil_append, Nat.reduceSub, Nat.reduceAdd, List.replicate]
    refine RU.seq RU.rg ?_
    refine RU.seq RU.rg ?_
    refine RU.seq (RU.seq RU.rg (RU.condF rfl RU.skip)) ?_
    refine RU.seq RU.rg ?_
    refine RU.seq RU.rg ?_
    exact RU.ret
  · rfl
theorem uvr_bad {H : Heap} {rb : Nat} {src : AV} {bad : Bool} {w n : Int} (hH : H[rb]? = some (.cells tR .vr [src, .b bad]))
    (h1 : CA P NS 44 [src] H (.t [.i .u32 w, .i .i64 n], H)) (g : binA P .leq 3 true (.i .i64 n) (.i .i64 0) = some (.b true)) :
    CA P NS 29 [.p rb 0] H (.i .u32 0, RH H rb .s0 true) := by
  have l0 := rd_src hH
  have s0 := st_bad hH
  have s1 := st_src (RH_at hH src true) (v := .s0) rfl rfl
  rw [RH_RH] at s1
  refine CA.go (fn := Tryd.f29) (vs := [_]) (by kernel_rfl) rfl (.inr rfl) ?_
  apply Exists.intro
  apply And.intro
  · dsimp only [Tryd.f29]
    dsimp only [List.length_cons, List.length_nil, List.cons_append, List.nil_append, Nat.reduceSub, Nat.reduceAdd, List.replicate]
    refine RU.seq RU.rg ?_
    refine RU.seq RU.rg ?_
    (apply RU.seqx; rotate_left; focus (simp)); refine RU.seq RU.rg ?_; apply RU.condT rfl
    refine RU.seq RU.rg ?_
    refine RU.seq RU.rg ?_
    refine RU.seq RU.rg ?_
    exact RU.ret
  · rfl
def rdVi (bs : B) : Option (Int × B) := (rdV bs).map fun (n, r) => ((n : Int), r)
theorem rd_uvarint : RdN 29 .u32 rdVi where
  good A H rb nn bs n r R h0 hd := by
    obtain ⟨src, hH, hb, hn⟩ := h0
    simp only [rdVi, Option.map_eq_some_iff] at hd
    obtain ⟨⟨m, r1⟩, hd, he⟩ := hd
    simp at he
    obtain ⟨rfl, rfl⟩ := he
    obtain ⟨w, n, h1, h2⟩ := uv_run hb
    rw [hd] at h2
    obtain ⟨rfl, k, rfl, hk, hk2, rfl⟩ := h2
    obtain ⟨src', hs, hb2, hn2⟩ := hb.lo bty .i64 hk2
    exact ⟨_, uvr_good hH h1 (by rw [leq]; simp; omega) hs (BytesAt.one' hb2).1 (BytesAt.one' hb2).2, RdAt.good R.no hH hb2 (fun _ => hn2 (.inl hk)), RH_keep R.no _ _⟩
  bad A H rb nn st R h0 hd := by
    cases st with
    | none =>
      have hH : H[rb]? = some (.cells tR .vr [.s0, .b true]) := h0
      obtain ⟨w, n, h1, h2⟩ := uv_run (A := A) (H := H) .z
      have : rdV [] = none := rfl
      rw [this] at h2
      exact ⟨_, uvr_bad hH h1 (by rw [leq]; simp; omega), RdAt.bad hH, RH_keep R.no _ _⟩
    | some bs =>
      obtain ⟨src, hH, hb, hn⟩ := h0
      simp only [Option.bind_some, rdVi, Option.map_eq_none_iff] at hd
      obtain ⟨w, n, h1, h2⟩ := uv_run hb
      rw [hd] at h2
      exact ⟨_, uvr_bad hH h1 (by rw [leq]; simp; omega), RdAt.bad hH, RH_keep R.no _ _⟩
end Go.Proofs.YtiifcfngbbhgoagDoor.Rd

namespace Go.Proofs.YtiifcfngbbhgoagDoor.Wire
inductive Ev where
  | leaf (k : K) (null : Bool)
  | list (sz : Nat) (null : Bool) (e : F)
  | tags
  deriving DecidableEq, Repr
def Ev.wide : Ev → Nat
  | .leaf k _ => k.wide
  | _ => 1
def Ev.node : Ev → Nat → F → F
  | .leaf k n, o, r => .leaf o k n r
  | .list sz n e, o, r => .list o sz n e r
  | .tags, o, r => .tags o r
def Ev.dec (flex : Bool) : Ev → B → Option (V × B)
  | .leaf k n, bs => decK flex k n bs
  | .list _ n e, bs => (rdL flex bs).bind fun (l, bs) => if n && l < 0 then some (V.nul, bs) else (many (Wire.dec flex e) l.toNat bs).map fun (vs, bs) => (V.l vs, bs)
  | .tags, bs => (rdV bs).bind fun (n, bs) => (decT n [] bs).map fun (ts, bs) => (V.t ts, bs)
def Ev.enc (flex : Bool) : Ev → V → B
  | .leaf k _, v => encK flex k v
  | .list _ _ e, .l vs => cnt flex 4 vs.length ++ vs.flatMap (Wire.enc flex e)
  | .list _ _ _, _ => cnt0 flex 4
  | .tags, .t ts => uv ts.length ++ encT ts
  | .tags, _ => []
def nodes : List (Ev × Nat) → F
  | [] => .nil
  | (e, o) :: r => e.node o (nodes r)
def packV : List V → V
  | [] => .u
  | v :: r => .c v (packV r)
def runE (flex : Bool) : List Ev → B → Option (List V × B)
  | [], bs => some ([], bs)
  | e :: r, bs => (e.dec flex bs).bind fun (v, bs) => (runE flex r bs).map fun (vs, bs) => (v :: vs, bs)
theorem dec_node (flex : Bool) (e : Ev) (o : Nat) (r : F) (bs : B) : dec flex (e.node o r) bs = (e.dec flex bs).bind fun (v, bs) => (dec flex r bs).map fun (w, bs) => (V.c v w, bs) := by
  cases e with
  | leaf k n => rfl
  | list sz n f => simp only [Ev.node, dec, Ev.dec, Option.bind_assoc]
  | tags =>
    simp only [Ev.node, dec, Ev.dec]
    cases rdV bs with
    | none => rfl
    | some p =>
      simp only [Option.bind_some]
      cases decT p.1 [] p.2 <;> rfl
theorem dec_nodes (flex : Bool) : ∀ (l : List (Ev × Nat)) (bs : B), dec flex (nodes l) bs = (runE flex (l.map (·.1)) bs).map fun (vs, r) => (packV vs, r)
  | [], bs => rfl
  | (e, o) :: r, bs => by
    simp only [nodes, dec_node, List.map_cons, runE]
    cases e.dec flex bs with
    | none => rfl
    | some p =>
      simp only [Option.bind_some, dec_nodes flex r, Option.map_map]
      rfl
theorem runE_app (flex : Bool) : ∀ (a b : List Ev) (bs : B), runE flex (a ++ b) bs = (runE flex a bs).bind fun (vs, r) => (runE flex b r).map fun (us, r) => (vs ++ us, r)
  | [], b, bs => by simp [runE]
  | e :: a, b, bs => by
    simp only [List.cons_append, runE]
    cases e.dec flex bs with
    | none => rfl
    | some p =>
      simp only [Option.bind_some, runE_app flex a b]
      cases runE flex a p.2 with
      | none => rfl
      | some q =>
        simp only [Option.bind_some, Option.map_some, Option.map_map]
        rfl
theorem runE_length {flex : Bool} : ∀ {l : List Ev} {bs r : B} {vs : List V}, runE flex l bs = some (vs, r) → vs.length = l.length
  | [], bs, r, vs, h => by simp [runE] at h; rw [h.1]; rfl
  | e :: l, bs, r, vs, h => by
    simp only [runE] at h
    cases hd : e.dec flex bs with
    | none => rw [hd] at h; cases h
    | some p =>
      rw [hd] at h
      simp only [Option.bind_some, Option.map_eq_some_iff] at h
      obtain ⟨⟨us, r1⟩, h1, h2⟩ := h
      simp at h2
      rw [← h2.1, List.length_cons, List.length_cons, runE_length h1]
theorem runE_snoc (flex : Bool) (a : List Ev) (e : Ev) (bs : B) : runE flex (a ++ [e]) bs = (runE flex a bs).bind fun (vs, r) => (e.dec flex r).map fun (v, r) => (vs ++ [v], r) := by
  rw [runE_app]
  cases runE flex a bs with
  | none => rfl
  | some q =>
    simp only [Option.bind_some, runE]
    cases e.dec flex q.2 <;> simp [runE]
theorem enc_node {flex : Bool} (e : Ev) (o : Nat) (r : F) (v w : V) (h : ∀ (_ : e = .tags), ∃ ts, v = .t ts) : enc flex (e.node o r) (.c v w) = e.enc flex v ++ enc flex r w := by
  cases e with
  | leaf k n => rfl
  | list sz n f => cases v <;> rfl
  | tags =>
    obtain ⟨ts, rfl⟩ := h rfl
    rfl
theorem many_snoc {d : B → Option (V × B)} : ∀ (n : Nat) (bs : B), many d (n + 1) bs = (many d n bs).bind fun (us, r) => (d r).map fun (v, r) => (us ++ [v], r)
  | 0, bs => by
    simp only [many, Option.bind_some]
    cases d bs <;> simp
  | n + 1, bs => by
    conv => lhs; unfold many
    conv => rhs; unfold many
    cases hd : d bs with
    | none => rfl
    | some p =>
      simp only [Option.bind_some, many_snoc n]
      cases many d n p.2 with
      | none => rfl
      | some q =>
        simp only [Option.bind_some, Option.map_some]
        cases d q.2 <;> simp
theorem many_none {d : B → Option (V × B)} {n : Nat} {bs : B} (h : many d n bs = none) : ∀ k, many d (n + k) bs = none
  | 0 => h
  | k + 1 => by
    have := many_none h k
    show many d ((n + k) + 1) bs = none
    rw [many_snoc, this]; rfl
theorem many_length {d : B → Option (V × B)} : ∀ (n : Nat) {bs r : B} {vs : List V}, many d n bs = some (vs, r) → vs.length = n := fun n _ _ _ h => (many_ok n h).1
theorem runE_more {flex : Bool} {a : List Ev} {bs : B} (h : runE flex a bs = none) (b : List Ev) : runE flex (a ++ b) bs = none := by rw [runE_app, h]; rfl
end Go.Proofs.YtiifcfngbbhgoagDoor.Wire

