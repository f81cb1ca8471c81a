/-
  Numbers in groups of seven bits are read.
-/
import Derived.Test.YtdanlkiojkimaaaGreatDoorQRdUv
import Derived.Test.YtdanlkiojkimaaaGreatDoorQApKit
import Derived.Test.YtdanlkiojkimaaaGreatDoorQAxLog
import Derived.Test.YtdanlkiojkimaaaGreatDoorQRdStr
set_option linter.constructorNameAsVariable false
set_option linter.unusedVariables false
set_option linter.unusedSimpArgs false
namespace Go.Proofs.YtdanlkiojkimaaaGreatDoor.Rd
open Go Go.Proofs.YtdanlkiojkimaaaGreatDoor.Ax Go.Proofs.YtdanlkiojkimaaaGreatDoor.Wire
set_option maxRecDepth 100000
theorem and8 (t : TypeId) (c : Bool) (b : UInt8) (k : Nat) (hk : k < 256) : binA P .and t c (.i .u8 (b.toNat : Nat)) (.i .u8 (k : Int)) = some (.i .u8 ((b.toNat &&& k : Nat) : Int)) := by
  have hb : b.toNat < 256 := u8_lt b
  show ofSem (Op.intBits .and .u8 (b.toNat : Int) (k : Int)) = _
  have e : (BitVec.ofInt 8 (b.toNat : Int) &&& BitVec.ofInt 8 (k : Int)).toNat = b.toNat &&& k := by
    have h1 : BitVec.ofInt 8 (b.toNat : Int) = BitVec.ofNat 8 b.toNat := BitVec.ofInt_natCast 8 b.toNat
    have h2 : BitVec.ofInt 8 (k : Int) = BitVec.ofNat 8 k := BitVec.ofInt_natCast 8 k
    rw [h1, h2, BitVec.toNat_and, BitVec.toNat_ofNat, BitVec.toNat_ofNat, Nat.mod_eq_of_lt (by omega), Nat.mod_eq_of_lt (by omega)]
  have hl : b.toNat &&& k ≤ b.toNat := Nat.and_le_left
  rw [show Op.intBits .and .u8 (b.toNat : Int) (k : Int) = pure (.int .u8 (IntKind.u8.wrap ((BitVec.ofInt 8 (b.toNat : Int) &&& BitVec.ofInt 8 (k : Int)).toNat : Int))) from rfl, e]
  have e2 : IntKind.u8.wrap ((b.toNat &&& k : Nat) : Int) = ((b.toNat &&& k : Nat) : Int) := by
    generalize b.toNat &&& k = z at hl
    simp [IntKind.wrap, IntKind.signed, IntKind.bits]; omega
  rw [e2]
  rfl
theorem and8_127 (t : TypeId) (c : Bool) (b : UInt8) : binA P .and t c (.i .u8 (b.toNat : Nat)) (.i .u8 127) = some (.i .u8 ((b.toNat % 128 : Nat) : Int)) := by
  have := and8 t c b 127 (by omega)
  rw [show b.toNat &&& 127 = b.toNat % 128 from Nat.and_two_pow_sub_one_eq_mod b.toNat 7] at this
  exact this
theorem and_128 : ∀ b : Fin 256, (b.val &&& 128 = if b.val < 128 then 0 else 128) := by decide
theorem and8_128 (t : TypeId) (c : Bool) (b : UInt8) : binA P .and t c (.i .u8 (b.toNat : Nat)) (.i .u8 128) = some (.i .u8 ((if b.toNat < 128 then 0 else 128 : Nat) : Int)) := by
  have := and8 t c b 128 (by omega)
  rw [and_128 ⟨b.toNat, u8_lt b⟩] at this
  exact this
theorem conv8n (n : Nat) (h : n < 256) : convA P 5 73 (.i .u8 (n : Int)) = some (.i .u32 (n : Int)) := by
  have e : convA P 5 73 (.i .u8 (n : Int)) = some (.i .u32 (IntKind.u32.wrap (n : Int))) := by kernel_rfl
  rw [e]
  simp [IntKind.wrap, IntKind.signed, IntKind.bits]; omega
theorem shlw (t : TypeId) (c : Bool) (n : Nat) (hn : n = 7 ∨ n = 14 ∨ n = 21 ∨ n = 28) (a : Int) : binA P .shl t c (.i .u32 a) (.i .u64 (n : Int)) = some (.i .u32 (IntKind.u32.wrap (a * 2 ^ n))) := by
  have e2 : Op.shift .shl .u32 a .u64 (n : Int) = pure (.int .u32 (IntKind.u32.wrap (a * 2 ^ n))) := by
    rcases hn with rfl | rfl | rfl | rfl <;> rfl
  show ofSem (Op.shift .shl .u32 a .u64 (n : Int)) = _
  rw [e2]
  rfl
theorem shln (t : TypeId) (c : Bool) (n : Nat) (hn : n = 7 ∨ n = 14 ∨ n = 21 ∨ n = 28) (a : Nat) (h : a * 2 ^ n < 2 ^ 32) : binA P .shl t c (.i .u32 (a : Int)) (.i .u64 (n : Int)) = some (.i .u32 ((a * 2 ^ n : Nat) : Int)) := by
  rw [shlw t c n hn]
  have : ((a : Int) * 2 ^ n) = ((a * 2 ^ n : Nat) : Int) := by simp
  rw [this]
  generalize a * 2 ^ n = y at h
  congr 2
  simp [IntKind.wrap, IntKind.signed, IntKind.bits]; omega
theorem orn (t : TypeId) (c : Bool) {x a n : Nat} (hx : x < 2 ^ n) (hlt : a * 2 ^ n + x < 2 ^ 32) : binA P .or t c (.i .u32 (x : Int)) (.i .u32 ((a * 2 ^ n : Nat) : Int)) = some (.i .u32 ((a * 2 ^ n + x : Nat) : Int)) := by
  have h := or_add (w := 32) (a := a) (b := x) (n := n) hx hlt
  have e : IntKind.u32.wrap ((a * 2 ^ n + x : Nat) : Int) = ((a * 2 ^ n + x : Nat) : Int) := by
    generalize a * 2 ^ n + x = y at hlt
    simp [IntKind.wrap, IntKind.signed, IntKind.bits]; omega
  show ofSem (Op.intBits .or .u32 (x : Int) ((a * 2 ^ n : Nat) : Int)) = _
  rw [show Op.intBits .or .u32 (x : Int) ((a * 2 ^ n : Nat) : Int) = pure (.int .u32 (IntKind.u32.wrap ((BitVec.ofInt 32 (x : Int) ||| BitVec.ofInt 32 ((a * 2 ^ n : Nat) : Int)).toNat : Int))) from rfl, h, e]
  rfl
theorem orw (t : TypeId) (c : Bool) (x y : Int) : ∃ z, binA P .or t c (.i .u32 x) (.i .u32 y) = some (.i .u32 z) := ⟨_, rfl⟩
theorem lssT {n : Nat} {k : Nat} (h : n < k) : binA P .lss 3 true (.i .i64 (n : Int)) (.i .i64 (k : Int)) = some (.b true) := by
  rw [lss]; simpa using h
theorem lssF {n : Nat} {k : Nat} (h : k ≤ n) : binA P .lss 3 true (.i .i64 (n : Int)) (.i .i64 (k : Int)) = some (.b false) := by
  rw [lss]; simpa using h
theorem eqT {b : UInt8} (h : b.toNat < 128) : binA P .eql 5 true (.i .u8 ((if b.toNat < 128 then 0 else 128 : Nat) : Int)) (.i .u8 0) = some (.b true) := by
  rw [eql, if_pos h]; rfl
theorem eqF {b : UInt8} (h : ¬ b.toNat < 128) : binA P .eql 5 true (.i .u8 ((if b.toNat < 128 then 0 else 128 : Nat) : Int)) (.i .u8 0) = some (.b false) := by
  rw [eql, if_neg h]; rfl
theorem uv_run {A : Nat → Prop} {H : Heap} {src : AV} {bs : B} (hb : BytesAt A H src bs) : ∃ (w : Nat) (n : Int), CA P NS 171 [src] H (.t [.i .u32 (w : Int), .i .i64 n], H) ∧
    match rdV bs with | some (m, r) => w = m ∧ ∃ k : Nat, n = (k : Int) ∧ 0 < k ∧ k ≤ bs.length ∧ r = bs.drop k | none => w = 0 ∧ n ≤ 0 := by
  have hlen := hb.len bty
  rcases bs with _ | ⟨b0, bs⟩
  · exact ⟨0, 0, uvl_0 hlen (lssT (by simp)), by simp [rdV, uvd]⟩
  have q0 := u8_lt b0
  obtain ⟨p0, i0, l0⟩ := hb.idx bty .i64 (n := 0) (b := b0) rfl
  have g0 := lssF (n := (b0 :: bs).length) (k := 1) (by simp)
  by_cases h0 : b0.toNat < 128
  · refine ⟨_, _, uvp_0 hlen g0 i0 l0 (and8_127 _ _ b0) (conv8n _ (by omega)) (and8_128 _ _ b0) (eqT h0), ?_⟩
    simp only [rdV, uvd, if_pos h0]
    exact ⟨Nat.mod_eq_of_lt h0, 1, rfl, by omega, by simp, rfl⟩
  rcases bs with _ | ⟨b1, bs⟩
  · exact ⟨0, 0, uvl_1 hlen g0 i0 l0 (and8_127 _ _ b0) (conv8n _ (by omega)) (and8_128 _ _ b0) (eqF h0) (lssT (by simp)), by simp [rdV, uvd, h0]⟩
  have q1 := u8_lt b1
  obtain ⟨p1, i1, l1⟩ := hb.idx bty .i64 (n := 1) (b := b1) rfl
  have g1 := lssF (n := (b0 :: b1 :: bs).length) (k := 2) (by simp)
  have o1 := orn 73 false (x := b0.toNat % 128) (a := b1.toNat % 128) (n := 7) (by omega) (by omega)
  by_cases h1 : b1.toNat < 128
  · refine ⟨_, _, uvp_1 hlen g0 i0 l0 (and8_127 _ _ b0) (conv8n _ (by omega)) (and8_128 _ _ b0) (eqF h0) g1 i1 l1 (and8_127 _ _ b1) (conv8n _ (by omega)) (and8_128 _ _ b1) (eqT h1) (shln _ _ 7 (by simp) _ (by omega)) o1, ?_⟩
    simp only [rdV, uvd, if_neg h0, if_pos h1]
    exact ⟨by simp; omega, 2, rfl, by omega, by simp, rfl⟩
  rcases bs with _ | ⟨b2, bs⟩
  · exact ⟨0, 0, uvl_2 hlen g0 i0 l0 (and8_127 _ _ b0) (conv8n _ (by omega)) (and8_128 _ _ b0) (eqF h0) g1 i1 l1 (and8_127 _ _ b1) (conv8n _ (by omega)) (and8_128 _ _ b1) (eqF h1) (shln _ _ 7 (by simp) _ (by omega)) o1 (lssT (by simp)), by simp [rdV, uvd, h0, h1]⟩
  have q2 := u8_lt b2
  obtain ⟨p2, i2, l2⟩ := hb.idx bty .i64 (n := 2) (b := b2) rfl
  have g2 := lssF (n := (b0 :: b1 :: b2 :: bs).length) (k := 3) (by simp)
  have o2 := orn 73 false (x := (b1.toNat % 128) * 2 ^ 7 + b0.toNat % 128) (a := b2.toNat % 128) (n := 14) (by omega) (by omega)
  by_cases h2 : b2.toNat < 128
  · refine ⟨_, _, uvp_2 hlen g0 i0 l0 (and8_127 _ _ b0) (conv8n _ (by omega)) (and8_128 _ _ b0) (eqF h0) g1 i1 l1 (and8_127 _ _ b1) (conv8n _ (by omega)) (and8_128 _ _ b1) (eqF h1) (shln _ _ 7 (by simp) _ (by omega)) o1 g2 i2 l2 (and8_127 _ _ b2) (conv8n _ (by omega)) (and8_128 _ _ b2) (eqT h2) (shln _ _ 14 (by simp) _ (by omega)) o2, ?_⟩
    simp only [rdV, uvd, if_neg h0, if_neg h1, if_pos h2]
    exact ⟨by simp; omega, 3, rfl, by omega, by simp, rfl⟩
  rcases bs with _ | ⟨b3, bs⟩
  · exact ⟨0, 0, uvl_3 hlen g0 i0 l0 (and8_127 _ _ b0) (conv8n _ (by omega)) (and8_128 _ _ b0) (eqF h0) g1 i1 l1 (and8_127 _ _ b1) (conv8n _ (by omega)) (and8_128 _ _ b1) (eqF h1) (shln _ _ 7 (by simp) _ (by omega)) o1 g2 i2 l2 (and8_127 _ _ b2) (conv8n _ (by omega)) (and8_128 _ _ b2) (eqF h2) (shln _ _ 14 (by simp) _ (by omega)) o2 (lssT (by simp)), by simp [rdV, uvd, h0, h1, h2]⟩
  have q3 := u8_lt b3
  obtain ⟨p3, i3, l3⟩ := hb.idx bty .i64 (n := 3) (b := b3) rfl
  have g3 := lssF (n := (b0 :: b1 :: b2 :: b3 :: bs).length) (k := 4) (by simp)
  have o3 := orn 73 false (x := (b2.toNat % 128) * 2 ^ 14 + ((b1.toNat % 128) * 2 ^ 7 + b0.toNat % 128)) (a := b3.toNat % 128) (n := 21) (by omega) (by omega)
  by_cases h3 : b3.toNat < 128
  · refine ⟨_, _, uvp_3 hlen g0 i0 l0 (and8_127 _ _ b0) (conv8n _ (by omega)) (and8_128 _ _ b0) (eqF h0) g1 i1 l1 (and8_127 _ _ b1) (conv8n _ (by omega)) (and8_128 _ _ b1) (eqF h1) (shln _ _ 7 (by simp) _ (by omega)) o1 g2 i2 l2 (and8_127 _ _ b2) (conv8n _ (by omega)) (and8_128 _ _ b2) (eqF h2) (shln _ _ 14 (by simp) _ (by omega)) o2 g3 i3 l3 (and8_127 _ _ b3) (conv8n _ (by omega)) (and8_128 _ _ b3) (eqT h3) (shln _ _ 21 (by simp) _ (by omega)) o3, ?_⟩
    simp only [rdV, uvd, if_neg h0, if_neg h1, if_neg h2, if_pos h3]
    exact ⟨by simp; omega, 4, rfl, by omega, by simp, rfl⟩
  rcases bs with _ | ⟨b4, bs⟩
  · exact ⟨0, 0, uvl_4 hlen g0 i0 l0 (and8_127 _ _ b0) (conv8n _ (by omega)) (and8_128 _ _ b0) (eqF h0) g1 i1 l1 (and8_127 _ _ b1) (conv8n _ (by omega)) (and8_128 _ _ b1) (eqF h1) (shln _ _ 7 (by simp) _ (by omega)) o1 g2 i2 l2 (and8_127 _ _ b2) (conv8n _ (by omega)) (and8_128 _ _ b2) (eqF h2) (shln _ _ 14 (by simp) _ (by omega)) o2 g3 i3 l3 (and8_127 _ _ b3) (conv8n _ (by omega)) (and8_128 _ _ b3) (eqF h3) (shln _ _ 21 (by simp) _ (by omega)) o3 (lssT (by simp)), by simp [rdV, uvd, h0, h1, h2, h3]⟩
  have q4 := u8_lt b4
  obtain ⟨p4, i4, l4⟩ := hb.idx bty .i64 (n := 4) (b := b4) rfl
  have g4 := lssF (n := (b0 :: b1 :: b2 :: b3 :: b4 :: bs).length) (k := 5) (by simp)
  by_cases h4 : b4.toNat ≤ 15
  · have o4 := orn 73 false (x := (b3.toNat % 128) * 2 ^ 21 + ((b2.toNat % 128) * 2 ^ 14 + ((b1.toNat % 128) * 2 ^ 7 + b0.toNat % 128))) (a := b4.toNat) (n := 28) (by omega) (by omega)
    refine ⟨_, _, uvp_4 hlen g0 i0 l0 (and8_127 _ _ b0) (conv8n _ (by omega)) (and8_128 _ _ b0) (eqF h0) g1 i1 l1 (and8_127 _ _ b1) (conv8n _ (by omega)) (and8_128 _ _ b1) (eqF h1) (shln _ _ 7 (by simp) _ (by omega)) o1 g2 i2 l2 (and8_127 _ _ b2) (conv8n _ (by omega)) (and8_128 _ _ b2) (eqF h2) (shln _ _ 14 (by simp) _ (by omega)) o2 g3 i3 l3 (and8_127 _ _ b3) (conv8n _ (by omega)) (and8_128 _ _ b3) (eqF h3) (shln _ _ 21 (by simp) _ (by omega)) o3 g4 i4 l4 (conv8n _ (by omega)) (by rw [leq]; simp; omega) (shln _ _ 28 (by simp) _ (by omega)) o4, ?_⟩
    simp only [rdV, uvd, if_neg h0, if_neg h1, if_neg h2, if_neg h3, if_pos h4]
    exact ⟨by simp; omega, 5, rfl, by omega, by simp, rfl⟩
  · obtain ⟨x4, o4⟩ := orw 73 false (((b3.toNat % 128) * 2 ^ 21 + ((b2.toNat % 128) * 2 ^ 14 + ((b1.toNat % 128) * 2 ^ 7 + b0.toNat % 128)) : Nat) : Int) (IntKind.u32.wrap ((b4.toNat : Int) * 2 ^ 28))
    refine ⟨0, -5, uvo hlen g0 i0 l0 (and8_127 _ _ b0) (conv8n _ (by omega)) (and8_128 _ _ b0) (eqF h0) g1 i1 l1 (and8_127 _ _ b1) (conv8n _ (by omega)) (and8_128 _ _ b1) (eqF h1) (shln _ _ 7 (by simp) _ (by omega)) o1 g2 i2 l2 (and8_127 _ _ b2) (conv8n _ (by omega)) (and8_128 _ _ b2) (eqF h2) (shln _ _ 14 (by simp) _ (by omega)) o2 g3 i3 l3 (and8_127 _ _ b3) (conv8n _ (by omega)) (and8_128 _ _ b3) (eqF h3) (shln _ _ 21 (by simp) _ (by omega)) o3 g4 i4 l4 (conv8n _ (by omega)) (by rw [leq]; simp; omega) (shlw _ _ 28 (by simp) _) o4, ?_⟩
    simp [rdV, uvd, h0, h1, h2, h3, h4]
theorem uvr_good {H : Heap} {rb : Nat} {src src' : AV} {bad : Bool} {w n : Int} (hH : H[rb]? = some (.cells tR .vr [src, .b bad]))
    (h1 : CA P NS 171 [src] H (.t [.i .u32 w, .i .i64 n], H)) (g : binA P .leq 3 true (.i .i64 n) (.i .i64 0) = some (.b false))
    (hs : sliceA P tB src (some (.i .i64 n)) none = some src') (hc : src'.cells = [src']) (ho : src'.one = true) :
    CA P NS 161 [.p rb 0] H (.i .u32 w, RH H rb src' bad) := by
  have l0 := rd_src hH
  have s0 := st_src hH hc ho
  refine CA.go (fn := Tryz.f161) (vs := [_]) (by kernel_rfl) rfl (.inr rfl) ?_
  apply Exists.intro
  apply And.intro
  · dsimp only [Tryz.f161]
    dsimp only [List.length_cons, List.length_nil, List.cons_append, List.nil_append, Nat.reduceSub, Nat.reduceAdd, List.replicate]
    refine RU.seq RU.rg ?_
    refine RU.seq RU.rg ?_
    refine RU.seq (RU.seq RU.rg (RU.condF rfl RU.skip)) ?_
    refine RU.seq RU.rg ?_
    refine RU.seq RU.rg ?_
    exact RU.ret
  · rfl
theorem uvr_bad {H : Heap} {rb : Nat} {src : AV} {bad : Bool} {w n : Int} (hH : H[rb]? = some (.cells tR .vr [src, .b bad]))
    (h1 : CA P NS 171 [src] H (.t [.i .u32 w, .i .i64 n], H)) (g : binA P .leq 3 true (.i .i64 n) (.i .i64 0) = some (.b true)) :
    CA P NS 161 [.p rb 0] H (.i .u32 0, RH H rb .s0 true) := by
  have l0 := rd_src hH
  have s0 := st_bad hH
  have s1 := st_src (RH_at hH src true) (v := .s0) rfl rfl
  rw [RH_RH] at s1
  refine CA.go (fn := Tryz.f161) (vs := [_]) (by kernel_rfl) rfl (.inr rfl) ?_
  apply Exists.intro
  apply And.intro
  · dsimp only [Tryz.f161]
    dsimp only [List.length_cons, List.length_nil, List.cons_append, List.nil_append, Nat.reduceSub, Nat.reduceAdd, List.replicate]
    refine RU.seq RU.rg ?_
    refine RU.seq RU.rg ?_
    (apply RU.seqx; rotate_left; focus (simp)); refine RU.seq RU.rg ?_; apply RU.condT rfl
    refine RU.seq RU.rg ?_
    refine RU.seq RU.rg ?_
    refine RU.seq RU.rg ?_
    exact RU.ret
  · rfl
def rdVi (bs : B) : Option (Int × B) := (rdV bs).map fun (n, r) => ((n : Int), r)
theorem rd_uvarint : RdN 161 .u32 rdVi where
  good A H rb nn bs n r R h0 hd := by
    obtain ⟨src, hH, hb, hn⟩ := h0
    simp only [rdVi, Option.map_eq_some_iff] at hd
    obtain ⟨⟨m, r1⟩, hd, he⟩ := hd
    simp at he
    obtain ⟨rfl, rfl⟩ := he
    obtain ⟨w, n, h1, h2⟩ := uv_run hb
    rw [hd] at h2
    obtain ⟨rfl, k, rfl, hk, hk2, rfl⟩ := h2
    obtain ⟨src', hs, hb2, hn2⟩ := hb.lo bty .i64 hk2
    exact ⟨_, uvr_good hH h1 (by rw [leq]; simp; omega) hs (BytesAt.one' hb2).1 (BytesAt.one' hb2).2, RdAt.good R.no hH hb2 (fun _ => hn2 (.inl hk)), RH_keep R.no _ _⟩
  bad A H rb nn st R h0 hd := by
    cases st with
    | none =>
      have hH : H[rb]? = some (.cells tR .vr [.s0, .b true]) := h0
      obtain ⟨w, n, h1, h2⟩ := uv_run (A := A) (H := H) .z
      have : rdV [] = none := rfl
      rw [this] at h2
      exact ⟨_, uvr_bad hH h1 (by rw [leq]; simp; omega), RdAt.bad hH, RH_keep R.no _ _⟩
    | some bs =>
      obtain ⟨src, hH, hb, hn⟩ := h0
      simp only [Option.bind_some, rdVi, Option.map_eq_none_iff] at hd
      obtain ⟨w, n, h1, h2⟩ := uv_run hb
      rw [hd] at h2
      exact ⟨_, uvr_bad hH h1 (by rw [leq]; simp; omega), RdAt.bad hH, RH_keep R.no _ _⟩
end Go.Proofs.YtdanlkiojkimaaaGreatDoor.Rd

namespace Go.Proofs.YtdanlkiojkimaaaGreatDoor.Rd
open Go Go.Proofs.YtdanlkiojkimaaaGreatDoor.Ax Go.Proofs.YtdanlkiojkimaaaGreatDoor.Wire
set_option maxRecDepth 100000
set_option maxHeartbeats 1000000
theorem shl64 (t : TypeId) (c : Bool) (n : Nat) (hn : n = 8 ∨ n = 16 ∨ n = 24 ∨ n = 32 ∨ n = 40 ∨ n = 48 ∨ n = 56) (a : UInt8) : binA P .shl t c (.i .u64 (a.toNat : Int)) (.i .u64 (n : Int)) = some (.i .u64 ((a.toNat * 2 ^ n : Nat) : Int)) := by
  have := u8_lt a
  have e : IntKind.u64.wrap ((a.toNat : Int) * 2 ^ n) = ((a.toNat * 2 ^ n : Nat) : Int) := by
    rcases hn with rfl | rfl | rfl | rfl | rfl | rfl | rfl <;> simp [IntKind.wrap, IntKind.signed, IntKind.bits] <;> omega
  have e2 : Op.shift .shl .u64 (a.toNat : Int) .u64 (n : Int) = pure (.int .u64 (IntKind.u64.wrap ((a.toNat : Int) * 2 ^ n))) := by
    rcases hn with rfl | rfl | rfl | rfl | rfl | rfl | rfl <;> rfl
  show ofSem (Op.shift .shl .u64 (a.toNat : Int) .u64 (n : Int)) = _
  rw [e2, e]
  rfl
theorem or64 (t : TypeId) (c : Bool) {x a n : Nat} (hx : x < 2 ^ n) (hlt : a * 2 ^ n + x < 2 ^ 64) : binA P .or t c (.i .u64 (x : Int)) (.i .u64 ((a * 2 ^ n : Nat) : Int)) = some (.i .u64 ((a * 2 ^ n + x : Nat) : Int)) := by
  have h := or_add (w := 64) (a := a) (b := x) (n := n) hx hlt
  have e : IntKind.u64.wrap ((a * 2 ^ n + x : Nat) : Int) = ((a * 2 ^ n + x : Nat) : Int) := by
    generalize a * 2 ^ n + x = y at hlt
    simp [IntKind.wrap, IntKind.signed, IntKind.bits]; omega
  show ofSem (Op.intBits .or .u64 (x : Int) ((a * 2 ^ n : Nat) : Int)) = _
  rw [show Op.intBits .or .u64 (x : Int) ((a * 2 ^ n : Nat) : Int) = pure (.int .u64 (IntKind.u64.wrap ((BitVec.ofInt 64 (x : Int) ||| BitVec.ofInt 64 ((a * 2 ^ n : Nat) : Int)).toNat : Int))) from rfl, h, e]
  rfl
theorem be64_run {A : Nat → Prop} {H : Heap} {src : AV} {b0 b1 b2 b3 b4 b5 b6 b7 : UInt8} {r : B} (h : BytesAt A H src (b0 :: b1 :: b2 :: b3 :: b4 :: b5 :: b6 :: b7 :: r)) {y0 y1 y2 y3 y4 y5 y6 z0 z1 z2 z3 z4 z5 z6 : Int}
    (s0 : binA P .shl 86 true (.i .u64 (b0.toNat : Int)) (.i .u64 56) = some (.i .u64 y0))
    (s1 : binA P .shl 86 true (.i .u64 (b1.toNat : Int)) (.i .u64 48) = some (.i .u64 y1))
    (s2 : binA P .shl 86 true (.i .u64 (b2.toNat : Int)) (.i .u64 40) = some (.i .u64 y2))
    (s3 : binA P .shl 86 true (.i .u64 (b3.toNat : Int)) (.i .u64 32) = some (.i .u64 y3))
    (s4 : binA P .shl 86 true (.i .u64 (b4.toNat : Int)) (.i .u64 24) = some (.i .u64 y4))
    (s5 : binA P .shl 86 true (.i .u64 (b5.toNat : Int)) (.i .u64 16) = some (.i .u64 y5))
    (s6 : binA P .shl 86 true (.i .u64 (b6.toNat : Int)) (.i .u64 8) = some (.i .u64 y6))
    (o6 : binA P .or 86 false (.i .u64 (b7.toNat : Int)) (.i .u64 y6) = some (.i .u64 z6))
    (o5 : binA P .or 86 false (.i .u64 z6) (.i .u64 y5) = some (.i .u64 z5))
    (o4 : binA P .or 86 false (.i .u64 z5) (.i .u64 y4) = some (.i .u64 z4))
    (o3 : binA P .or 86 false (.i .u64 z4) (.i .u64 y3) = some (.i .u64 z3))
    (o2 : binA P .or 86 false (.i .u64 z3) (.i .u64 y2) = some (.i .u64 z2))
    (o1 : binA P .or 86 false (.i .u64 z2) (.i .u64 y1) = some (.i .u64 z1))
    (o0 : binA P .or 86 false (.i .u64 z1) (.i .u64 y0) = some (.i .u64 z0))
    : CA P NS 170 [.g [], src] H (.i .u64 z0, H ++ [.cells 186 .vr []]) := by
  obtain ⟨q0, i0, l0⟩ := at_box h [.cells 186 .vr []] (n := 0) (b := b0) rfl
  have i0' : indexAddrA P tB src (.i .i64 0) = some q0 := i0
  obtain ⟨q1, i1, l1⟩ := at_box h [.cells 186 .vr []] (n := 1) (b := b1) rfl
  have i1' : indexAddrA P tB src (.i .i64 1) = some q1 := i1
  obtain ⟨q2, i2, l2⟩ := at_box h [.cells 186 .vr []] (n := 2) (b := b2) rfl
  have i2' : indexAddrA P tB src (.i .i64 2) = some q2 := i2
  obtain ⟨q3, i3, l3⟩ := at_box h [.cells 186 .vr []] (n := 3) (b := b3) rfl
  have i3' : indexAddrA P tB src (.i .i64 3) = some q3 := i3
  obtain ⟨q4, i4, l4⟩ := at_box h [.cells 186 .vr []] (n := 4) (b := b4) rfl
  have i4' : indexAddrA P tB src (.i .i64 4) = some q4 := i4
  obtain ⟨q5, i5, l5⟩ := at_box h [.cells 186 .vr []] (n := 5) (b := b5) rfl
  have i5' : indexAddrA P tB src (.i .i64 5) = some q5 := i5
  obtain ⟨q6, i6, l6⟩ := at_box h [.cells 186 .vr []] (n := 6) (b := b6) rfl
  have i6' : indexAddrA P tB src (.i .i64 6) = some q6 := i6
  obtain ⟨q7, i7, l7⟩ := at_box h [.cells 186 .vr []] (n := 7) (b := b7) rfl
  have i7' : indexAddrA P tB src (.i .i64 7) = some q7 := i7
  refine CA.go (fn := Tryz.f170) (vs := [_]) (by kernel_rfl) rfl (.inr rfl) ?_
  apply Exists.intro
  apply And.intro
  · dsimp only [Tryz.f170]
    dsimp only [List.length_cons, List.length_nil, List.cons_append, List.nil_append, Nat.reduceSub, Nat.reduceAdd, List.replicate]
    apply RU.seq
    · exact RU.rg
    apply RU.seq
    · exact RU.rg
    apply RU.seq
    · exact RU.d0
    exact RU.ret
  · rfl
theorem be64 {A : Nat → Prop} {H : Heap} {src : AV} {b0 b1 b2 b3 b4 b5 b6 b7 : UInt8} {r : B} (h : BytesAt A H src (b0 :: b1 :: b2 :: b3 :: b4 :: b5 :: b6 :: b7 :: r)) :
    CA P NS 170 [.g [], src] H (.i .u64 ((nat [b0, b1, b2, b3, b4, b5, b6, b7] : Nat) : Int), H ++ [.cells 186 .vr []]) := by
  have e : nat [b0, b1, b2, b3, b4, b5, b6, b7] = b0.toNat * 2 ^ 56 + (b1.toNat * 2 ^ 48 + (b2.toNat * 2 ^ 40 + (b3.toNat * 2 ^ 32 + (b4.toNat * 2 ^ 24 + (b5.toNat * 2 ^ 16 + (b6.toNat * 2 ^ 8 + b7.toNat)))))) := by simp [nat]
  rw [e]
  have := u8_lt b0
  have := u8_lt b1
  have := u8_lt b2
  have := u8_lt b3
  have := u8_lt b4
  have := u8_lt b5
  have := u8_lt b6
  have := u8_lt b7
  exact be64_run h (shl64 _ _ 56 (by simp) b0) (shl64 _ _ 48 (by simp) b1) (shl64 _ _ 40 (by simp) b2) (shl64 _ _ 32 (by simp) b3) (shl64 _ _ 24 (by simp) b4) (shl64 _ _ 16 (by simp) b5) (shl64 _ _ 8 (by simp) b6)
    (or64 _ _ (x := b7.toNat) (a := b6.toNat) (n := 8) (by omega) (by omega))
    (or64 _ _ (x := b6.toNat * 2 ^ 8 + b7.toNat) (a := b5.toNat) (n := 16) (by omega) (by omega))
    (or64 _ _ (x := b5.toNat * 2 ^ 16 + (b6.toNat * 2 ^ 8 + b7.toNat)) (a := b4.toNat) (n := 24) (by omega) (by omega))
    (or64 _ _ (x := b4.toNat * 2 ^ 24 + (b5.toNat * 2 ^ 16 + (b6.toNat * 2 ^ 8 + b7.toNat))) (a := b3.toNat) (n := 32) (by omega) (by omega))
    (or64 _ _ (x := b3.toNat * 2 ^ 32 + (b4.toNat * 2 ^ 24 + (b5.toNat * 2 ^ 16 + (b6.toNat * 2 ^ 8 + b7.toNat)))) (a := b2.toNat) (n := 40) (by omega) (by omega))
    (or64 _ _ (x := b2.toNat * 2 ^ 40 + (b3.toNat * 2 ^ 32 + (b4.toNat * 2 ^ 24 + (b5.toNat * 2 ^ 16 + (b6.toNat * 2 ^ 8 + b7.toNat))))) (a := b1.toNat) (n := 48) (by omega) (by omega))
    (or64 _ _ (x := b1.toNat * 2 ^ 48 + (b2.toNat * 2 ^ 40 + (b3.toNat * 2 ^ 32 + (b4.toNat * 2 ^ 24 + (b5.toNat * 2 ^ 16 + (b6.toNat * 2 ^ 8 + b7.toNat)))))) (a := b0.toNat) (n := 56) (by omega) (by omega))
theorem u64_short {H : Heap} {rb : Nat} {src : AV} {bad : Bool} {n : Nat} (hH : H[rb]? = some (.cells tR .vr [src, .b bad])) (hlen : lenA P 22 src = some (.i .i64 n)) (hl : n < 8) :
    CA P NS 160 [.p rb 0] H (.i .u64 0, RH H rb .s0 true) := by
  have hc : binA P .lss 3 true (.i .i64 (n : Int)) (.i .i64 8) = some (.b true) := by rw [lss]; simp; omega
  have l0 := rd_src hH
  have s1 := st_bad hH
  have s2 : storeA P (RH H rb src true) 22 (.p rb 0) .s0 = some (RH H rb .s0 true) := by rw [st_src (RH_at hH _ _) rfl rfl, RH_RH]
  refine CA.go (fn := Tryz.f160) (vs := [_]) (by kernel_rfl) rfl (.inr rfl) ?_
  apply Exists.intro
  apply And.intro
  · dsimp only [Tryz.f160]
    dsimp only [List.length_cons, List.length_nil, List.cons_append, List.nil_append, Nat.reduceSub, Nat.reduceAdd, List.replicate]
    refine RU.seq RU.rg ?_
    (apply RU.seqx; rotate_left; focus (simp)); refine RU.seq RU.rg ?_; apply RU.condT rfl
    refine RU.seq RU.rg ?_
    refine RU.seq RU.rg ?_
    refine RU.seq RU.rg ?_
    exact RU.ret
  · rfl
theorem u64_good {A : Nat → Prop} {H : Heap} {rb : Nat} {src src' : AV} {b0 b1 b2 b3 b4 b5 b6 b7 : UInt8} {r : B} (R : Room A H rb) (hH : H[rb]? = some (.cells tR .vr [src, .b false])) (hb : BytesAt A H src (b0 :: b1 :: b2 :: b3 :: b4 :: b5 :: b6 :: b7 :: r)) (hs : sliceA P 22 src (some (.i .i64 8)) none = some src') (hs1 : src'.cells = [src']) (hs2 : src'.one = true) :
    CA P NS 160 [.p rb 0] H (.i .u64 ((nat [b0, b1, b2, b3, b4, b5, b6, b7] : Nat) : Int), RH (H ++ [.cells 186 .vr []]) rb src' false) := by
  have hlen := hb.len bty
  have hc : binA P .lss 3 true (.i .i64 ((b0 :: b1 :: b2 :: b3 :: b4 :: b5 :: b6 :: b7 :: r).length : Int)) (.i .i64 8) = some (.b false) := by rw [lss]; simp; omega
  generalize ((b0 :: b1 :: b2 :: b3 :: b4 :: b5 :: b6 :: b7 :: r).length : Int) = n at hlen hc
  have l0 := rd_src hH
  have lg := R.ldBE
  obtain ⟨n1, hcall⟩ := be64 hb
  have hgr : Grows H (H ++ [.cells 186 .vr []]) := .app _ _
  have hH1 := hgr.at hH
  have l1 := rd_src hH1
  have s1 := st_src hH1 hs1 hs2
  generalize ((nat [b0, b1, b2, b3, b4, b5, b6, b7] : Nat) : Int) = u at *
  generalize H ++ [Blk.cells 186 Kn.vr []] = H1 at *
  refine CA.go (fn := Tryz.f160) (vs := [_]) (by kernel_rfl) rfl (.inr rfl) ?_
  apply Exists.intro
  apply And.intro
  · dsimp only [Tryz.f160]
    dsimp only [List.length_cons, List.length_nil, List.cons_append, List.nil_append, Nat.reduceSub, Nat.reduceAdd, List.replicate]
    refine RU.seq RU.rg ?_
    refine RU.seq (RU.seq RU.rg (RU.condF rfl RU.skip)) ?_
    refine RU.seq (RU.dr hcall) ?_
    refine RU.seq RU.rg ?_
    refine RU.seq RU.rg ?_
    exact RU.ret
  · rfl
theorem rd_u64 : RdN 160 .u64 (rdU 8) where
  good A H rb nn bs n r R h hd := by
    obtain ⟨src, hH, hb, hn⟩ := h
    obtain ⟨h, hc, rfl⟩ := rdU_some hd
    obtain ⟨b0, b1, b2, b3, b4, b5, b6, b7, rfl, rfl⟩ := cut8 hc
    obtain ⟨src', hs, hb', hn'⟩ := hb.lo bty .i64 (n := 8) (by simp)
    have g : Keep A H (H ++ [.cells 186 .vr []]) := .app A _ _
    have hH1 := (Grows.app H [.cells 186 .vr []]).at hH
    exact ⟨_, u64_good R hH hb hs (BytesAt.one' hb').1 (BytesAt.one' hb').2, RdAt.good R.no hH1 (hb'.keep g) (fun _ => hn' (.inl (by omega))), g.trans (RH_keep R.no _ _)⟩
  bad A H rb nn st R h hd := by
    obtain ⟨src, b, hH, hl, _⟩ := RdAt.cell h
    exact ⟨_, u64_short hH hl (rdU_none (by omega) hd), RdAt.bad hH, RH_keep R.no _ _⟩
theorem int64_run {H H1 : Heap} {rb : Nat} {u v : Int} (c1 : CA P NS 160 [.p rb 0] H (.i .u64 u, H1)) (hcv : convA P 86 2 (.i .u64 u) = some (.i .i64 v)) :
    CA P NS 120 [.p rb 0] H (.i .i64 v, H1) := by
  refine CA.go (fn := Tryz.f120) (vs := [_]) (by kernel_rfl) rfl (.inr rfl) ?_
  apply Exists.intro
  apply And.intro
  · dsimp only [Tryz.f120]
    dsimp only [List.length_cons, List.length_nil, List.cons_append, List.nil_append, Nat.reduceSub, Nat.reduceAdd, List.replicate]
    refine RU.seq RU.rg ?_
    refine RU.seq RU.rg ?_
    exact RU.ret
  · rfl
theorem cv_int64 (n : Int) : convA P 86 2 (.i .u64 n) = some (.i .i64 (IntKind.i64.wrap n)) := by kernel_rfl
theorem rd_int64 : RdN 120 .i64 (rdI 8) where
  good A H rb nn bs n r R h hd := by
    obtain ⟨x, hc, rfl⟩ := rdI_some hd
    have hu : rdU 8 bs = some (((nat x : Nat) : Int), r) := by simp [rdU, hc]
    obtain ⟨H1, c1, R1, k1⟩ := rd_u64.good A H rb nn bs _ r R h hu
    have hl := (cut_len hc).1
    have : nat x < 18446744073709551616 := by have := nat_lt x; rw [hl] at this; simpa using this
    exact ⟨H1, int64_run c1 ((cv_int64 _).trans (by rw [wrap_sgn8 this])), R1, k1⟩
  bad A H rb nn st R h hd := by
    have hi : st.bind (rdU 8) = none := by
      cases st with
      | none => rfl
      | some bs =>
        simp only [Option.bind_some, rdI, rdU, Option.map_eq_none_iff] at hd ⊢
        exact hd
    obtain ⟨H1, c1, R1, k1⟩ := rd_u64.bad A H rb nn st R h hi
    exact ⟨H1, int64_run c1 (cv_int64 0), R1, k1⟩
theorem rdv_i64 (flex null : Bool) : RdV 120 flex .i64 null where
  good A H rb nn bs v r R h hd := by
    simp only [decK, Option.map_eq_some_iff] at hd
    obtain ⟨⟨n, r1⟩, hi, hh⟩ := hd
    simp at hh
    obtain ⟨rfl, rfl⟩ := hh
    obtain ⟨H1, c1, R1, k1⟩ := rd_int64.good A H rb nn bs n r1 R h hi
    exact ⟨_, H1, c1, rfl, rfl, rfl, R1, k1⟩
  bad A H rb nn st R h hd := by
    have hi : st.bind (rdI (K.size .i64)) = none := by
      cases st with
      | none => rfl
      | some bs => simpa [decK] using hd
    obtain ⟨H1, c1, R1, k1⟩ := rd_int64.bad A H rb nn st R h hi
    exact ⟨_, H1, c1, rfl, rfl, R1, k1⟩
theorem bool_short {H : Heap} {rb : Nat} {src : AV} {bad : Bool} {n : Nat} (hH : H[rb]? = some (.cells tR .vr [src, .b bad])) (hlen : lenA P 22 src = some (.i .i64 n)) (hl : n < 1) :
    CA P NS 147 [.p rb 0] H (.b false, RH H rb .s0 true) := by
  have hc : binA P .lss 3 true (.i .i64 (n : Int)) (.i .i64 1) = some (.b true) := by rw [lss]; simp; omega
  have l0 := rd_src hH
  have s1 := st_bad hH
  have s2 : storeA P (RH H rb src true) 22 (.p rb 0) .s0 = some (RH H rb .s0 true) := by rw [st_src (RH_at hH _ _) rfl rfl, RH_RH]
  refine CA.go (fn := Tryz.f147) (vs := [_]) (by kernel_rfl) rfl (.inr rfl) ?_
  apply Exists.intro
  apply And.intro
  · dsimp only [Tryz.f147]
    dsimp only [List.length_cons, List.length_nil, List.cons_append, List.nil_append, Nat.reduceSub, Nat.reduceAdd, List.replicate]
    refine RU.seq RU.rg ?_
    (apply RU.seqx; rotate_left; focus (simp)); refine RU.seq RU.rg ?_; apply RU.condT rfl
    refine RU.seq RU.rg ?_
    refine RU.seq RU.rg ?_
    refine RU.seq RU.rg ?_
    exact RU.ret
  · rfl
theorem neq8 (t : TypeId) (c : Bool) (a b : Int) : binA P .neq t c (.i .u8 a) (.i .u8 b) = some (.b (!(a == b))) := by
  simp [binA, binOp, Op.intCmp, ofSem, ofV1]
  rfl
theorem bool_good {A : Nat → Prop} {H : Heap} {rb : Nat} {src src' : AV} {b0 : UInt8} {r : B} (hH : H[rb]? = some (.cells tR .vr [src, .b false])) (hb : BytesAt A H src (b0 :: r)) (hs : sliceA P 22 src (some (.i .i64 1)) none = some src') (hs1 : src'.cells = [src']) (hs2 : src'.one = true) :
    CA P NS 147 [.p rb 0] H (.b ([b0] != [0]), RH H rb src' false) := by
  have hlen := hb.len bty
  have hc : binA P .lss 3 true (.i .i64 ((b0 :: r).length : Int)) (.i .i64 1) = some (.b false) := by rw [lss]; simp; omega
  generalize ((b0 :: r).length : Int) = n at hlen hc
  have l0 := rd_src hH
  obtain ⟨q0, i0, lq⟩ := hb.idx bty .i64 (n := 0) (b := b0) rfl
  have i0' : indexAddrA P tB src (.i .i64 0) = some q0 := i0
  have s1 := st_src hH hs1 hs2
  have hne : binA P .neq 5 true (U8 b0) (.i .u8 0) = some (.b ([b0] != [0])) := by
    rw [show U8 b0 = .i .u8 (b0.toNat : Int) from rfl, neq8]
    congr 2
    by_cases e : b0 = 0
    · subst e; rfl
    · have : b0.toNat ≠ 0 := fun h => e (UInt8.toNat_inj.1 h)
      have h1 : ((b0.toNat : Int) == 0) = false := by simpa using this
      rw [h1]
      simp [bne, e]
  generalize ([b0] != [0]) = v at hne ⊢
  refine CA.go (fn := Tryz.f147) (vs := [_]) (by kernel_rfl) rfl (.inr rfl) ?_
  apply Exists.intro
  apply And.intro
  · dsimp only [Tryz.f147]
    dsimp only [List.length_cons, List.length_nil, List.cons_append, List.nil_append, Nat.reduceSub, Nat.reduceAdd, List.replicate]
    refine RU.seq RU.rg ?_
    refine RU.seq (RU.seq RU.rg (RU.condF rfl RU.skip)) ?_
    refine RU.seq RU.rg ?_
    refine RU.seq RU.rg ?_
    refine RU.seq RU.rg ?_
    exact RU.ret
  · rfl
theorem cut_none1 {n : Nat} {st : Option B} {g : B × B → V × B} (hn : 0 < n) (h : (st.bind fun bs => (cut n bs).map g) = none) : (st.getD []).length < n := by
  cases st with
  | none => simpa using hn
  | some bs =>
    simp only [Option.bind_some, Option.map_eq_none_iff] at h
    simpa using cut_none h
theorem rdv_bool (flex null : Bool) : RdV 147 flex .bool null where
  good A H rb nn bs v r R h hd := by
    simp only [decK, Option.map_eq_some_iff] at hd
    obtain ⟨⟨x, r1⟩, hc, hh⟩ := hd
    simp at hh
    obtain ⟨rfl, rfl⟩ := hh
    obtain ⟨src, hH, hb, hn⟩ := h
    obtain ⟨b0, rfl, rfl⟩ := cut1 hc
    obtain ⟨src', hs, hb', hn'⟩ := hb.lo bty .i64 (n := 1) (by simp)
    exact ⟨_, _, bool_good hH hb hs (BytesAt.one' hb').1 (BytesAt.one' hb').2, rfl, rfl, rfl, RdAt.good R.no hH (hb'.keep (Keep.refl _ _)) (fun _ => hn' (.inl (by omega))), RH_keep R.no _ _⟩
  bad A H rb nn st R h hd := by
    obtain ⟨src, b, hH, hl, _⟩ := RdAt.cell h
    exact ⟨_, _, bool_short hH hl (cut_none1 (by omega) hd), rfl, rfl, RdAt.bad hH, RH_keep R.no _ _⟩
end Go.Proofs.YtdanlkiojkimaaaGreatDoor.Rd

