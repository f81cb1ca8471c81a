/-
  NUMBERS IN GROUPS OF SEVEN BITS, as kbin writes them.
-/
import Derived.Test.YtiifcfngbbhgoagDoorQApKit
import Derived.Test.YtiifcfngbbhgoagDoorQTrKit
import Derived.Test.YtiifcfngbbhgoagDoorQWireS
set_option linter.constructorNameAsVariable false
set_option linter.unusedVariables false
set_option linter.unusedSimpArgs false
namespace Go.Proofs.YtiifcfngbbhgoagDoor.Rd
open Go Go.Proofs.YtiifcfngbbhgoagDoor.Ax Go.Proofs.YtiifcfngbbhgoagDoor.Wire
set_option maxRecDepth 100000
set_option maxHeartbeats 1000000
def idxOps : List Oper → Option AV
  | [] => none
  | ⟨_, .index _ (.const v) _, _, _, _, _⟩ :: _ => ofV v
  | _ :: r => idxOps r
def idxConst : Code → Option AV
  | .seq a b => (idxConst a).or (idxConst b)
  | .region _ ops _ => idxOps ops.toList
  | .cond _ a b => (idxConst a).or (idxConst b)
  | _ => none
noncomputable def tab32 : AV := ((Tryd.f45.body.bind idxConst).getD .u)
noncomputable def tabUv : AV := ((Tryd.f39.body.bind idxConst).getD .u)
def blen : Nat → Nat := fun x => if x = 0 then 0 else x.log2 + 1
def uvl : Nat → Nat := fun b => if b = 0 then 1 else (b + 6) / 7
noncomputable def atIs (t : AV) (x l : Nat) : Bool := match indexA P 9 t (.i .u8 x) with | some (.i .u8 n) => n == (l : Int) | _ => false
theorem atIs_spec {t : AV} {x l : Nat} (h : atIs t x l = true) : indexA P 9 t (.i .u8 (x : Nat)) = some (.i .u8 (l : Nat)) := by
  unfold atIs at h
  split at h
  · rename_i n hn; rw [hn]; simp at h; rw [h]
  · cases h
theorem tab32_at {x : Nat} (h : x < 256) : indexA P 9 tab32 (.i .u8 (x : Nat)) = some (.i .u8 (blen x : Nat)) := by
  have ha : ((List.range 256).all fun x => atIs tab32 x (blen x)) = true := by kernel_rfl
  exact atIs_spec (List.all_eq_true.1 ha x (List.mem_range.2 h))
theorem tabUv_at {x : Nat} (h : x < 33) : indexA P 9 tabUv (.i .u8 (x : Nat)) = some (.i .u8 (uvl x : Nat)) := by
  have ha : ((List.range 33).all fun x => atIs tabUv x (uvl x)) = true := by kernel_rfl
  exact atIs_spec (List.all_eq_true.1 ha x (List.mem_range.2 h))
theorem geq (t : TypeId) (k : IntKind) (c : Bool) (a b : Int) : binA P .geq t c (.i k a) (.i k b) = some (.b (decide (a ≥ b))) := by
  simp [binA, binOp, Op.intCmp, ofSem, ofV1]
  rfl
theorem cv_u32_u8 (m : Nat) (h : m < 256) : convA P 49 5 (.i .u32 (m : Nat)) = some (.i .u8 (m : Nat)) := by
  have e : convA P 49 5 (.i .u32 (m : Nat)) = some (.i .u8 (IntKind.u8.wrap (m : Nat))) := by kernel_rfl
  rw [e]; simp [IntKind.wrap, IntKind.signed, IntKind.bits]; omega
theorem cv_u8_int (m : Nat) (h : m < 256) : convA P 5 3 (.i .u8 (m : Nat)) = some (.i .i64 (m : Nat)) := by
  have e : convA P 5 3 (.i .u8 (m : Nat)) = some (.i .i64 (IntKind.i64.wrap (m : Nat))) := by kernel_rfl
  rw [e]; simp [IntKind.wrap, IntKind.signed, IntKind.bits]; omega
theorem cv_int_u8 (m : Nat) (h : m < 256) : convA P 3 5 (.i .i64 (m : Nat)) = some (.i .u8 (m : Nat)) := by
  have e : convA P 3 5 (.i .i64 (m : Nat)) = some (.i .u8 (IntKind.u8.wrap (m : Nat))) := by kernel_rfl
  rw [e]; simp [IntKind.wrap, IntKind.signed, IntKind.bits]; omega
theorem addI (t : TypeId) (c : Bool) (a b : Nat) (h : a + b < 1000000) : binA P .add t c (.i .i64 (a : Nat)) (.i .i64 (b : Nat)) = some (.i .i64 ((a + b : Nat) : Int)) := by
  have e : binA P .add t c (.i .i64 (a : Nat)) (.i .i64 (b : Nat)) = some (.i .i64 (IntKind.i64.wrap ((a : Int) + b))) := by
    simp [binA, binOp, Op.intArith, ofSem, ofV1]
    rfl
  rw [e]; simp [IntKind.wrap, IntKind.signed, IntKind.bits]; omega
theorem uv_len1 {n : Nat} (h : n < 128) : (uv n).length = 1 := by rw [uv, dif_pos h]; rfl
theorem uv_lens {n k : Nat} (h : ¬ n < 128) (hk : (uv (n / 128)).length = k) : (uv n).length = k + 1 := by rw [uv, dif_neg h]; simp [hk]
theorem uv_len2 {n : Nat} (h : 128 ≤ n) (h2 : n < 16384) : (uv n).length = 2 := uv_lens (by omega) (uv_len1 (by omega))
theorem uv_len3 {n : Nat} (h : 16384 ≤ n) (h2 : n < 2097152) : (uv n).length = 3 := uv_lens (by omega) (uv_len2 (by omega) (by omega))
theorem uv_len4 {n : Nat} (h : 2097152 ≤ n) (h2 : n < 268435456) : (uv n).length = 4 := uv_lens (by omega) (uv_len3 (by omega) (by omega))
theorem uv_len5 {n : Nat} (h : 268435456 ≤ n) (h2 : n < 4294967296) : (uv n).length = 5 := uv_lens (by omega) (uv_len4 (by omega) (by omega))
theorem bl_tab {f : Nat → Bool} (h : ((List.range 256).all f) = true) {x : Nat} (hx : x < 256) : f x = true := List.all_eq_true.1 h x (List.mem_range.2 hx)
theorem uwl_0 {n : Nat} (h : n < 256) : uvl (blen n) = (uv n).length := by
  have ha := bl_tab (f := fun x => uvl (blen x) == if x < 128 then 1 else 2) (by decide +kernel) h
  have ha : uvl (blen n) = if n < 128 then 1 else 2 := by simpa using ha
  rw [ha]
  split
  · rw [uv_len1 (by assumption)]
  · rw [uv_len2 (by omega) (by omega)]
theorem uwl_1 {n : Nat} (h : 256 ≤ n) (h2 : n < 65536) : uvl (8 + blen (n / 256)) = (uv n).length := by
  have ha := bl_tab (f := fun x => x == 0 || uvl (8 + blen x) == if x < 64 then 2 else 3) (by decide +kernel) (x := n / 256) (by omega)
  have h0 : n / 256 ≠ 0 := by omega
  have ha : uvl (8 + blen (n / 256)) = if n / 256 < 64 then 2 else 3 := by simpa [h0] using ha
  rw [ha]
  split
  · rw [uv_len2 (by omega) (by omega)]
  · rw [uv_len3 (by omega) (by omega)]
theorem uwl_2 {n : Nat} (h : 65536 ≤ n) (h2 : n < 16777216) : uvl (16 + blen (n / 65536)) = (uv n).length := by
  have ha := bl_tab (f := fun x => x == 0 || uvl (16 + blen x) == if x < 32 then 3 else 4) (by decide +kernel) (x := n / 65536) (by omega)
  have h0 : n / 65536 ≠ 0 := by omega
  have ha : uvl (16 + blen (n / 65536)) = if n / 65536 < 32 then 3 else 4 := by simpa [h0] using ha
  rw [ha]
  split
  · rw [uv_len3 (by omega) (by omega)]
  · rw [uv_len4 (by omega) (by omega)]
theorem uwl_3 {n : Nat} (h : 16777216 ≤ n) (h2 : n < 4294967296) : uvl (24 + blen (n / 16777216)) = (uv n).length := by
  have ha := bl_tab (f := fun x => x == 0 || uvl (24 + blen x) == if x < 16 then 4 else 5) (by decide +kernel) (x := n / 16777216) (by omega)
  have h0 : n / 16777216 ≠ 0 := by omega
  have ha : uvl (24 + blen (n / 16777216)) = if n / 16777216 < 16 then 4 else 5 := by simpa [h0] using ha
  rw [ha]
  split
  · rw [uv_len4 (by omega) (by omega)]
  · rw [uv_len5 (by omega) (by omega)]
theorem uv_le {n : Nat} (h : n < 4294967296) : (uv n).length ≤ 5 := by
  by_cases h1 : n < 128
  · rw [uv_len1 h1]; omega
  by_cases h2 : n < 16384
  · rw [uv_len2 (by omega) h2]; omega
  by_cases h3 : n < 2097152
  · rw [uv_len3 (by omega) h3]; omega
  by_cases h4 : n < 268435456
  · rw [uv_len4 (by omega) h4]; omega
  · rw [uv_len5 (by omega) h]; omega
theorem and127 (t : TypeId) (c : Bool) (m : Nat) (h : m < 4294967296) : binA P .and t c (.i .u32 (m : Nat)) (.i .u32 127) = some (.i .u32 ((m % 128 : Nat) : Int)) := by
  show ofSem (Op.intBits .and .u32 (m : Int) 127) = _
  have e : (BitVec.ofInt 32 (m : Int) &&& BitVec.ofInt 32 127).toNat = m % 128 := by
    have h1 : BitVec.ofInt 32 (m : Int) = BitVec.ofNat 32 m := BitVec.ofInt_natCast 32 m
    have h2 : BitVec.ofInt 32 127 = BitVec.ofNat 32 127 := rfl
    rw [h1, h2, BitVec.toNat_and, BitVec.toNat_ofNat, BitVec.toNat_ofNat, Nat.mod_eq_of_lt (by omega), Nat.mod_eq_of_lt (by omega)]
    have := Nat.and_two_pow_sub_one_eq_mod m 7
    simpa using this
  rw [show Op.intBits .and .u32 (m : Int) 127 = pure (.int .u32 (IntKind.u32.wrap ((BitVec.ofInt 32 (m : Int) &&& BitVec.ofInt 32 127).toNat : Int))) from rfl, e]
  have e2 : IntKind.u32.wrap ((m % 128 : Nat) : Int) = ((m % 128 : Nat) : Int) := by simp [IntKind.wrap, IntKind.signed, IntKind.bits]; omega
  rw [e2]
  rfl
theorem or128 (t : TypeId) (c : Bool) (m : Nat) (h : m < 128) : binA P .or t c (.i .u32 (m : Nat)) (.i .u32 128) = some (.i .u32 ((m + 128 : Nat) : Int)) := by
  have h := or32 t c (x := m) (a := 1) (n := 7) (by omega) (by omega) (by omega)
  have e : ((1 * 2 ^ 7 : Nat) : Int) = 128 := by decide
  rw [e] at h
  rw [h]
  congr 2
  omega
theorem conv_y (m : Nat) : convA P 49 5 (.i .u32 ((m : Nat) : Int)) = some (U8 (UInt8.ofNat m)) := by
  have := cv_u32_8 ((m : Nat) : Int)
  rw [this]
  congr 2
  apply UInt8.toNat_inj.1
  simp
  omega
section
variable {S : CallA} (E : Emp S)
include E
theorem len32_run0 {H : Heap} {n n1 n2 x l r : Int} (g1 : binA P .geq 49 true (.i .u32 n) (.i .u32 65536) = some (.b false)) (g2 : binA P .geq 49 true (.i .u32 n) (.i .u32 256) = some (.b false)) (c1 : convA P 49 5 (.i .u32 n) = some (.i .u8 x)) (ix : indexA P 9 tab32 (.i .u8 x) = some (.i .u8 l)) (c2 : convA P 5 3 (.i .u8 l) = some (.i .i64 l)) (a2 : binA P .add 3 false (.i .i64 0) (.i .i64 l) = some (.i .i64 r)) : CA P S 45 [.i .u32 n] H (.i .i64 r, H) := by
  refine CA.goS E (fn := Tryd.f45) (vs := [_]) (by kernel_rfl) rfl (.inr rfl) ?_
  apply Exists.intro
  apply And.intro
  · dsimp only [Tryd.f45]
    dsimp only [List.length_cons, List.length_nil, List.cons_append, List.nil_append, Nat.reduceSub, Nat.reduceAdd, List.replicate]
    refine RU.seq RU.rg ?_
    refine RU.seq (RU.seq RU.rg (RU.condF rfl RU.skip)) ?_
    refine RU.seq (RU.seq RU.rg (RU.condF rfl RU.skip)) ?_
    refine RU.seq RU.rg ?_
    exact RU.ret
  · rfl
theorem len32_run1 {H : Heap} {n n1 n2 x l r : Int} (g1 : binA P .geq 49 true (.i .u32 n) (.i .u32 65536) = some (.b false)) (g2 : binA P .geq 49 true (.i .u32 n) (.i .u32 256) = some (.b true)) (s2 : binA P .shr 49 true (.i .u32 n) (.i .u64 8) = some (.i .u32 n2)) (ad : binA P .add 3 true (.i .i64 0) (.i .i64 8) = some (.i .i64 8)) (c1 : convA P 49 5 (.i .u32 n2) = some (.i .u8 x)) (ix : indexA P 9 tab32 (.i .u8 x) = some (.i .u8 l)) (c2 : convA P 5 3 (.i .u8 l) = some (.i .i64 l)) (a2 : binA P .add 3 false (.i .i64 8) (.i .i64 l) = some (.i .i64 r)) : CA P S 45 [.i .u32 n] H (.i .i64 r, H) := by
  refine CA.goS E (fn := Tryd.f45) (vs := [_]) (by kernel_rfl) rfl (.inr rfl) ?_
  apply Exists.intro
  apply And.intro
  · dsimp only [Tryd.f45]
    dsimp only [List.length_cons, List.length_nil, List.cons_append, List.nil_append, Nat.reduceSub, Nat.reduceAdd, List.replicate]
    refine RU.seq RU.rg ?_
    refine RU.seq (RU.seq RU.rg (RU.condF rfl RU.skip)) ?_
    refine RU.seq (RU.seq RU.rg (RU.condT rfl (RU.seq RU.rg RU.rg))) ?_
    refine RU.seq RU.rg ?_
    exact RU.ret
  · rfl
theorem len32_run2 {H : Heap} {n n1 n2 x l r : Int} (g1 : binA P .geq 49 true (.i .u32 n) (.i .u32 65536) = some (.b true)) (s1 : binA P .shr 49 true (.i .u32 n) (.i .u64 16) = some (.i .u32 n1)) (g2 : binA P .geq 49 true (.i .u32 n1) (.i .u32 256) = some (.b false)) (c1 : convA P 49 5 (.i .u32 n1) = some (.i .u8 x)) (ix : indexA P 9 tab32 (.i .u8 x) = some (.i .u8 l)) (c2 : convA P 5 3 (.i .u8 l) = some (.i .i64 l)) (a2 : binA P .add 3 false (.i .i64 16) (.i .i64 l) = some (.i .i64 r)) : CA P S 45 [.i .u32 n] H (.i .i64 r, H) := by
  refine CA.goS E (fn := Tryd.f45) (vs := [_]) (by kernel_rfl) rfl (.inr rfl) ?_
  apply Exists.intro
  apply And.intro
  · dsimp only [Tryd.f45]
    dsimp only [List.length_cons, List.length_nil, List.cons_append, List.nil_append, Nat.reduceSub, Nat.reduceAdd, List.replicate]
    refine RU.seq RU.rg ?_
    refine RU.seq (RU.seq RU.rg (RU.condT rfl (RU.seq RU.rg RU.rg))) ?_
    refine RU.seq (RU.seq RU.rg (RU.condF rfl RU.skip)) ?_
    refine RU.seq RU.rg ?_
    exact RU.ret
  · rfl
theorem len32_run3 {H : Heap} {n n1 n2 x l r : Int} (g1 : binA P .geq 49 true (.i .u32 n) (.i .u32 65536) = some (.b true)) (s1 : binA P .shr 49 true (.i .u32 n) (.i .u64 16) = some (.i .u32 n1)) (g2 : binA P .geq 49 true (.i .u32 n1) (.i .u32 256) = some (.b true)) (s2 : binA P .shr 49 true (.i .u32 n1) (.i .u64 8) = some (.i .u32 n2)) (ad : binA P .add 3 true (.i .i64 16) (.i .i64 8) = some (.i .i64 24)) (c1 : convA P 49 5 (.i .u32 n2) = some (.i .u8 x)) (ix : indexA P 9 tab32 (.i .u8 x) = some (.i .u8 l)) (c2 : convA P 5 3 (.i .u8 l) = some (.i .i64 l)) (a2 : binA P .add 3 false (.i .i64 24) (.i .i64 l) = some (.i .i64 r)) : CA P S 45 [.i .u32 n] H (.i .i64 r, H) := by
  refine CA.goS E (fn := Tryd.f45) (vs := [_]) (by kernel_rfl) rfl (.inr rfl) ?_
  apply Exists.intro
  apply And.intro
  · dsimp only [Tryd.f45]
    dsimp only [List.length_cons, List.length_nil, List.cons_append, List.nil_append, Nat.reduceSub, Nat.reduceAdd, List.replicate]
    refine RU.seq RU.rg ?_
    refine RU.seq (RU.seq RU.rg (RU.condT rfl (RU.seq RU.rg RU.rg))) ?_
    refine RU.seq (RU.seq RU.rg (RU.condT rfl (RU.seq RU.rg RU.rg))) ?_
    refine RU.seq RU.rg ?_
    exact RU.ret
  · rfl
theorem len32 {H : Heap} {n : Nat} (h : n < 4294967296) : ∃ b, b < 33 ∧ CA P S 45 [.i .u32 (n : Nat)] H (.i .i64 (b : Nat), H) ∧ uvl b = (uv n).length := by
  have hs16 : binA P .shr 49 true (.i .u32 (n : Nat)) (.i .u64 16) = some (.i .u32 ((n / 65536 : Nat) : Int)) := by have := shr 49 .u32 true (n : Nat) 16 (by simp [IntKind.bits]); simpa using this
  have hs8 : ∀ m : Nat, binA P .shr 49 true (.i .u32 (m : Nat)) (.i .u64 8) = some (.i .u32 ((m / 256 : Nat) : Int)) := fun m => by have := shr 49 .u32 true (m : Nat) 8 (by simp [IntKind.bits]); simpa using this
  have hb : ∀ x : Nat, x < 256 → blen x ≤ 8 := fun x hx => by
    have ha : ((List.range 256).all fun x => decide (blen x ≤ 8)) = true := by decide +kernel
    exact of_decide_eq_true (List.all_eq_true.1 ha x (List.mem_range.2 hx))
  by_cases h1 : n < 65536
  · have g1 : binA P .geq 49 true (.i .u32 (n : Nat)) (.i .u32 65536) = some (.b false) := by rw [geq]; simp; omega
    by_cases h2 : n < 256
    · have g2 : binA P .geq 49 true (.i .u32 (n : Nat)) (.i .u32 256) = some (.b false) := by rw [geq]; simp; omega
      have hl := hb n h2
      refine ⟨blen n, by omega, len32_run0 E (n1 := 0) (n2 := 0) g1 g2 (cv_u32_u8 n h2) (tab32_at h2) (cv_u8_int _ (by omega)) (by have := addI 3 false 0 (blen n) (by omega); simpa using this), uwl_0 h2⟩
    · have g2 : binA P .geq 49 true (.i .u32 (n : Nat)) (.i .u32 256) = some (.b true) := by rw [geq]; simp; omega
      have hx : n / 256 < 256 := by omega
      have hl := hb _ hx
      refine ⟨8 + blen (n / 256), by omega, len32_run1 E (n1 := 0) g1 g2 (hs8 n) (by kernel_rfl) (cv_u32_u8 _ hx) (tab32_at hx) (cv_u8_int _ (by omega)) (addI 3 false 8 _ (by omega)), uwl_1 (by omega) h1⟩
  · have g1 : binA P .geq 49 true (.i .u32 (n : Nat)) (.i .u32 65536) = some (.b true) := by rw [geq]; simp; omega
    by_cases h2 : n / 65536 < 256
    · have g2 : binA P .geq 49 true (.i .u32 ((n / 65536 : Nat) : Int)) (.i .u32 256) = some (.b false) := by rw [geq]; simp; omega
      have hl := hb _ h2
      refine ⟨16 + blen (n / 65536), by omega, len32_run2 E (n2 := 0) g1 hs16 g2 (cv_u32_u8 _ h2) (tab32_at h2) (cv_u8_int _ (by omega)) (addI 3 false 16 _ (by omega)), uwl_2 (by omega) (by omega)⟩
    · have g2 : binA P .geq 49 true (.i .u32 ((n / 65536 : Nat) : Int)) (.i .u32 256) = some (.b true) := by rw [geq]; simp; omega
      have hx : n / 65536 / 256 < 256 := by omega
      have hl := hb _ hx
      refine ⟨24 + blen (n / 65536 / 256), by omega, len32_run3 E g1 hs16 g2 (hs8 _) (by kernel_rfl) (cv_u32_u8 _ hx) (tab32_at hx) (cv_u8_int _ (by omega)) (addI 3 false 24 _ (by omega)), ?_⟩
      have e : n / 65536 / 256 = n / 16777216 := by omega
      rw [e]; exact uwl_3 (by omega) h
theorem uvlen_run {H : Heap} {n : Int} {b w : Int} {y l : Int} (c0 : CA P S 45 [.i .u32 n] H (.i .i64 b, H)) (c1 : convA P 3 5 (.i .i64 b) = some (.i .u8 y)) (ix : indexA P 9 tabUv (.i .u8 y) = some (.i .u8 l)) (c2 : convA P 5 3 (.i .u8 l) = some (.i .i64 w)) : CA P S 39 [.i .u32 n] H (.i .i64 w, H) := by
  refine CA.goS E (fn := Tryd.f39) (vs := [_]) (by kernel_rfl) rfl (.inr rfl) ?_
  apply Exists.intro
  apply And.intro
  · dsimp only [Tryd.f39]
    dsimp only [List.length_cons, List.length_nil, List.cons_append, List.nil_append, Nat.reduceSub, Nat.reduceAdd, List.replicate]
    refine RU.seq RU.rg ?_
    refine RU.seq RU.rg ?_
    exact RU.ret
  · rfl
theorem uvlen {H : Heap} {n : Nat} (h : n < 4294967296) : CA P S 39 [.i .u32 (n : Nat)] H (.i .i64 ((uv n).length : Nat), H) := by
  obtain ⟨b, hb, hc, he⟩ := len32 E (H := H) h
  have hu : uvl b < 256 := by unfold uvl; split <;> omega
  rw [← he]
  exact uvlen_run E hc (cv_int_u8 b (by omega)) (tabUv_at hb) (cv_u8_int _ hu)
theorem uv1_run {L0 : Nat} {H : Heap} {out : AV} {bs : B} {n : Int} {b0 : UInt8} (hL : L0 ≤ H.length) (ho : OutAt L0 H out bs) (hb : bs.length + 1 ≤ 1099511627776) (cl : CA P S 39 [.i .u32 n] H (.i .i64 1, H))
    (c0 : convA P 49 5 (.i .u32 n) = some (U8 b0)) :
    ∃ out' H', CA P S 18 [out, .i .u32 n] H (out', H') ∧ OutAt L0 H' out' (bs ++ [b0]) ∧ WKeep L0 H H' ∧ OKeep H out H' out' := by
  have e5 : binA P .eql 3 true (.i .i64 1) (.i .i64 5) = some (.b false) := by kernel_rfl
  have e4 : binA P .eql 3 true (.i .i64 1) (.i .i64 4) = some (.b false) := by kernel_rfl
  have e3 : binA P .eql 3 true (.i .i64 1) (.i .i64 3) = some (.b false) := by kernel_rfl
  have e2 : binA P .eql 3 true (.i .i64 1) (.i .i64 2) = some (.b false) := by kernel_rfl
  have e1 : binA P .eql 3 true (.i .i64 1) (.i .i64 1) = some (.b true) := by kernel_rfl
  have hbl := build_1 H b0
  have hfi := first_new H 5 [b0] (by simp)
  obtain ⟨out', H', ha, h1, h2⟩ := ap_bytes (str := false) (x := .sl H.length 0 1) (new := [b0]) (by simp; omega) (ho.app [.cells 5 .row (u8s [b0])]) hfi (by simpa using hb)
  have hk := app_keep ha (ho.app [.cells 5 .row (u8s [b0])]).shape hfi (.inl (by simp))
  refine ⟨out', H', ?_, h1, (WKeep.app L0 H _ hL).trans h2, hk.app⟩
  clear hk
  generalize H ++ [Blk.cells 5 Kn.row (u8s [b0])] = H1 at hbl ha
  refine CA.goS E (fn := Tryd.f18) (vs := [_]) (by kernel_rfl) rfl (.inr rfl) ?_
  apply Exists.intro
  apply And.intro
  · dsimp only [Tryd.f18]
    dsimp only [List.length_cons, List.length_nil, List.cons_append, List.nil_append, Nat.reduceSub, Nat.reduceAdd, List.replicate]
    refine RU.seq RU.rg ?_
    (apply RU.seqx; rotate_left; focus (simp))
    refine RU.seq RU.rg ?_
    apply RU.blockR
    refine RU.seq RU.rg ?_
    apply RU.condF rfl
    refine RU.seq RU.rg ?_
    apply RU.condF rfl
    refine RU.seq RU.rg ?_
    apply RU.condF rfl
    refine RU.seq RU.rg ?_
    apply RU.condF rfl
    refine RU.seq RU.rg ?_
    apply RU.condT rfl
    refine RU.seq RU.rg ?_
    exact RU.ret
  · rfl
theorem uv2_run {L0 : Nat} {H : Heap} {out : AV} {bs : B} {n m1 x0 y0 : Int} {b0 b1 : UInt8} (hL : L0 ≤ H.length) (ho : OutAt L0 H out bs) (hb : bs.length + 2 ≤ 1099511627776) (cl : CA P S 39 [.i .u32 n] H (.i .i64 2, H))
    (a0 : binA P .and 49 true (.i .u32 n) (.i .u32 127) = some (.i .u32 x0)) (o0 : binA P .or 49 true (.i .u32 x0) (.i .u32 128) = some (.i .u32 y0)) (c0 : convA P 49 5 (.i .u32 y0) = some (U8 b0))
    (s1 : binA P .shr 49 true (.i .u32 n) (.i .u64 7) = some (.i .u32 m1))
    (c1 : convA P 49 5 (.i .u32 m1) = some (U8 b1)) :
    ∃ out' H', CA P S 18 [out, .i .u32 n] H (out', H') ∧ OutAt L0 H' out' (bs ++ [b0, b1]) ∧ WKeep L0 H H' ∧ OKeep H out H' out' := by
  have e5 : binA P .eql 3 true (.i .i64 2) (.i .i64 5) = some (.b false) := by kernel_rfl
  have e4 : binA P .eql 3 true (.i .i64 2) (.i .i64 4) = some (.b false) := by kernel_rfl
  have e3 : binA P .eql 3 true (.i .i64 2) (.i .i64 3) = some (.b false) := by kernel_rfl
  have e2 : binA P .eql 3 true (.i .i64 2) (.i .i64 2) = some (.b true) := by kernel_rfl
  have hbl := build_2 H b0 b1
  have hfi := first_new H 5 [b0, b1] (by simp)
  obtain ⟨out', H', ha, h1, h2⟩ := ap_bytes (str := false) (x := .sl H.length 0 2) (new := [b0, b1]) (by simp; omega) (ho.app [.cells 5 .row (u8s [b0, b1])]) hfi (by simpa using hb)
  have hk := app_keep ha (ho.app [.cells 5 .row (u8s [b0, b1])]).shape hfi (.inl (by simp))
  refine ⟨out', H', ?_, h1, (WKeep.app L0 H _ hL).trans h2, hk.app⟩
  clear hk
  generalize H ++ [Blk.cells 5 Kn.row (u8s [b0, b1])] = H1 at hbl ha
  refine CA.goS E (fn := Tryd.f18) (vs := [_]) (by kernel_rfl) rfl (.inr rfl) ?_
  apply Exists.intro
  apply And.intro
  · dsimp only [Tryd.f18]
    dsimp only [List.length_cons, List.length_nil, List.cons_append, List.nil_append, Nat.reduceSub, Nat.reduceAdd, List.replicate]
    refine RU.seq RU.rg ?_
    (apply RU.seqx; rotate_left; focus (simp))
    refine RU.seq RU.rg ?_
    apply RU.blockR
    refine RU.seq RU.rg ?_
    apply RU.condF rfl
    refine RU.seq RU.rg ?_
    apply RU.condF rfl
    refine RU.seq RU.rg ?_
    apply RU.condF rfl
    refine RU.seq RU.rg ?_
    apply RU.condT rfl
    refine RU.seq RU.rg ?_
    exact RU.ret
  · rfl
theorem uv3_run {L0 : Nat} {H : Heap} {out : AV} {bs : B} {n m1 m2 x0 y0 x1 y1 : Int} {b0 b1 b2 : UInt8} (hL : L0 ≤ H.length) (ho : OutAt L0 H out bs) (hb : bs.length + 3 ≤ 1099511627776) (cl : CA P S 39 [.i .u32 n] H (.i .i64 3, H))
    (a0 : binA P .and 49 true (.i .u32 n) (.i .u32 127) = some (.i .u32 x0)) (o0 : binA P .or 49 true (.i .u32 x0) (.i .u32 128) = some (.i .u32 y0)) (c0 : convA P 49 5 (.i .u32 y0) = some (U8 b0))
    (s1 : binA P .shr 49 true (.i .u32 n) (.i .u64 7) = some (.i .u32 m1))
    (a1 : binA P .and 49 true (.i .u32 m1) (.i .u32 127) = some (.i .u32 x1)) (o1 : binA P .or 49 true (.i .u32 x1) (.i .u32 128) = some (.i .u32 y1)) (c1 : convA P 49 5 (.i .u32 y1) = some (U8 b1))
    (s2 : binA P .shr 49 true (.i .u32 n) (.i .u64 14) = some (.i .u32 m2))
    (c2 : convA P 49 5 (.i .u32 m2) = some (U8 b2)) :
    ∃ out' H', CA P S 18 [out, .i .u32 n] H (out', H') ∧ OutAt L0 H' out' (bs ++ [b0, b1, b2]) ∧ WKeep L0 H H' ∧ OKeep H out H' out' := by
  have e5 : binA P .eql 3 true (.i .i64 3) (.i .i64 5) = some (.b false) := by kernel_rfl
  have e4 : binA P .eql 3 true (.i .i64 3) (.i .i64 4) = some (.b false) := by kernel_rfl
  have e3 : binA P .eql 3 true (.i .i64 3) (.i .i64 3) = some (.b true) := by kernel_rfl
  have hbl := build_3 H b0 b1 b2
  have hfi := first_new H 5 [b0, b1, b2] (by simp)
  obtain ⟨out', H', ha, h1, h2⟩ := ap_bytes (str := false) (x := .sl H.length 0 3) (new := [b0, b1, b2]) (by simp; omega) (ho.app [.cells 5 .row (u8s [b0, b1, b2])]) hfi (by simpa using hb)
  have hk := app_keep ha (ho.app [.cells 5 .row (u8s [b0, b1, b2])]).shape hfi (.inl (by simp))
  refine ⟨out', H', ?_, h1, (WKeep.app L0 H _ hL).trans h2, hk.app⟩
  clear hk
  generalize H ++ [Blk.cells 5 Kn.row (u8s [b0, b1, b2])] = H1 at hbl ha
  refine CA.goS E (fn := Tryd.f18) (vs := [_]) (by kernel_rfl) rfl (.inr rfl) ?_
  apply Exists.intro
  apply And.intro
  · dsimp only [Tryd.f18]
    dsimp only [List.length_cons, List.length_nil, List.cons_append, List.nil_append, Nat.reduceSub, Nat.reduceAdd, List.replicate]
    refine RU.seq RU.rg ?_
    (apply RU.seqx; rotate_left; focus (simp))
    refine RU.seq RU.rg ?_
    apply RU.blockR
    refine RU.seq RU.rg ?_
    apply RU.condF rfl
    refine RU.seq RU.rg ?_
    apply RU.condF rfl
    refine RU.seq RU.rg ?_
    apply RU.condT rfl
    refine RU.seq RU.rg ?_
    exact RU.ret
  · rfl
theorem uv4_run {L0 : Nat} {H : Heap} {out : AV} {bs : B} {n m1 m2 m3 x0 y0 x1 y1 x2 y2 : Int} {b0 b1 b2 b3 : UInt8} (hL : L0 ≤ H.length) (ho : OutAt L0 H out bs) (hb : bs.length + 4 ≤ 1099511627776) (cl : CA P S 39 [.i .u32 n] H (.i .i64 4, H))
    (a0 : binA P .and 49 true (.i .u32 n) (.i .u32 127) = some (.i .u32 x0)) (o0 : binA P .or 49 true (.i .u32 x0) (.i .u32 128) = some (.i .u32 y0)) (c0 : convA P 49 5 (.i .u32 y0) = some (U8 b0))
    (s1 : binA P .shr 49 true (.i .u32 n) (.i .u64 7) = some (.i .u32 m1))
    (a1 : binA P .and 49 true (.i .u32 m1) (.i .u32 127) = some (.i .u32 x1)) (o1 : binA P .or 49 true (.i .u32 x1) (.i .u32 128) = some (.i .u32 y1)) (c1 : convA P 49 5 (.i .u32 y1) = some (U8 b1))
    (s2 : binA P .shr 49 true (.i .u32 n) (.i .u64 14) = some (.i .u32 m2))
    (a2 : binA P .and 49 true (.i .u32 m2) (.i .u32 127) = some (.i .u32 x2)) (o2 : binA P .or 49 true (.i .u32 x2) (.i .u32 128) = some (.i .u32 y2)) (c2 : convA P 49 5 (.i .u32 y2) = some (U8 b2))
    (s3 : binA P .shr 49 true (.i .u32 n) (.i .u64 21) = some (.i .u32 m3))
    (c3 : convA P 49 5 (.i .u32 m3) = some (U8 b3)) :
    ∃ out' H', CA P S 18 [out, .i .u32 n] H (out', H') ∧ OutAt L0 H' out' (bs ++ [b0, b1, b2, b3]) ∧ WKeep L0 H H' ∧ OKeep H out H' out' := by
  have e5 : binA P .eql 3 true (.i .i64 4) (.i .i64 5) = some (.b false) := by kernel_rfl
  have e4 : binA P .eql 3 true (.i .i64 4) (.i .i64 4) = some (.b true) := by kernel_rfl
  have hbl := build_4 H b0 b1 b2 b3
  have hfi := first_new H 5 [b0, b1, b2, b3] (by simp)
  obtain ⟨out', H', ha, h1, h2⟩ := ap_bytes (str := false) (x := .sl H.length 0 4) (new := [b0, b1, b2, b3]) (by simp; omega) (ho.app [.cells 5 .row (u8s [b0, b1, b2, b3])]) hfi (by simpa using hb)
  have hk := app_keep ha (ho.app [.cells 5 .row (u8s [b0, b1, b2, b3])]).shape hfi (.inl (by simp))
  refine ⟨out', H', ?_, h1, (WKeep.app L0 H _ hL).trans h2, hk.app⟩
  clear hk
  generalize H ++ [Blk.cells 5 Kn.row (u8s [b0, b1, b2, b3])] = H1 at hbl ha
  refine CA.goS E (fn := Tryd.f18) (vs := [_]) (by kernel_rfl) rfl (.inr rfl) ?_
  apply Exists.intro
  apply And.intro
  · dsimp only [Tryd.f18]
    dsimp only [List.length_cons, List.length_nil, List.cons_append, List.nil_append, Nat.reduceSub, Nat.reduceAdd, List.replicate]
    refine RU.seq RU.rg ?_
    (apply RU.seqx; rotate_left; focus (simp))
    refine RU.seq RU.rg ?_
    apply RU.blockR
    refine RU.seq RU.rg ?_
    apply RU.condF rfl
    refine RU.seq RU.rg ?_
    apply RU.condT rfl
    refine RU.seq RU.rg ?_
    exact RU.ret
  · rfl
theorem uv5_run {L0 : Nat} {H : Heap} {out : AV} {bs : B} {n m1 m2 m3 m4 x0 y0 x1 y1 x2 y2 x3 y3 : Int} {b0 b1 b2 b3 b4 : UInt8} (hL : L0 ≤ H.length) (ho : OutAt L0 H out bs) (hb : bs.length + 5 ≤ 1099511627776) (cl : CA P S 39 [.i .u32 n] H (.i .i64 5, H))
    (a0 : binA P .and 49 true (.i .u32 n) (.i .u32 127) = some (.i .u32 x0)) (o0 : binA P .or 49 true (.i .u32 x0) (.i .u32 128) = some (.i .u32 y0)) (c0 : convA P 49 5 (.i .u32 y0) = some (U8 b0))
    (s1 : binA P .shr 49 true (.i .u32 n) (.i .u64 7) = some (.i .u32 m1))
    (a1 : binA P .and 49 true (.i .u32 m1) (.i .u32 127) = some (.i .u32 x1)) (o1 : binA P .or 49 true (.i .u32 x1) (.i .u32 128) = some (.i .u32 y1)) (c1 : convA P 49 5 (.i .u32 y1) = some (U8 b1))
    (s2 : binA P .shr 49 true (.i .u32 n) (.i .u64 14) = some (.i .u32 m2))
    (a2 : binA P .and 49 true (.i .u32 m2) (.i .u32 127) = some (.i .u32 x2)) (o2 : binA P .or 49 true (.i .u32 x2) (.i .u32 128) = some (.i .u32 y2)) (c2 : convA P 49 5 (.i .u32 y2) = some (U8 b2))
    (s3 : binA P .shr 49 true (.i .u32 n) (.i .u64 21) = some (.i .u32 m3))
    (a3 : binA P .and 49 true (.i .u32 m3) (.i .u32 127) = some (.i .u32 x3)) (o3 : binA P .or 49 true (.i .u32 x3) (.i .u32 128) = some (.i .u32 y3)) (c3 : convA P 49 5 (.i .u32 y3) = some (U8 b3))
    (s4 : binA P .shr 49 true (.i .u32 n) (.i .u64 28) = some (.i .u32 m4))
    (c4 : convA P 49 5 (.i .u32 m4) = some (U8 b4)) :
    ∃ out' H', CA P S 18 [out, .i .u32 n] H (out', H') ∧ OutAt L0 H' out' (bs ++ [b0, b1, b2, b3, b4]) ∧ WKeep L0 H H' ∧ OKeep H out H' out' := by
  have e5 : binA P .eql 3 true (.i .i64 5) (.i .i64 5) = some (.b true) := by kernel_rfl
  have hbl := build_5 H b0 b1 b2 b3 b4
  have hfi := first_new H 5 [b0, b1, b2, b3, b4] (by simp)
  obtain ⟨out', H', ha, h1, h2⟩ := ap_bytes (str := false) (x := .sl H.length 0 5) (new := [b0, b1, b2, b3, b4]) (by simp; omega) (ho.app [.cells 5 .row (u8s [b0, b1, b2, b3, b4])]) hfi (by simpa using hb)
  have hk := app_keep ha (ho.app [.cells 5 .row (u8s [b0, b1, b2, b3, b4])]).shape hfi (.inl (by simp))
  refine ⟨out', H', ?_, h1, (WKeep.app L0 H _ hL).trans h2, hk.app⟩
  clear hk
  generalize H ++ [Blk.cells 5 Kn.row (u8s [b0, b1, b2, b3, b4])] = H1 at hbl ha
  refine CA.goS E (fn := Tryd.f18) (vs := [_]) (by kernel_rfl) rfl (.inr rfl) ?_
  apply Exists.intro
  apply And.intro
  · dsimp only [Tryd.f18]
    dsimp only [List.length_cons, List.length_nil, List.cons_append, List.nil_append, Nat.reduceSub, Nat.reduceAdd, List.replicate]
    refine RU.seq RU.rg ?_
    (apply RU.seqx; rotate_left; focus (simp))
    refine RU.seq RU.rg ?_
    apply RU.blockR
    refine RU.seq RU.rg ?_
    apply RU.condT rfl
    refine RU.seq RU.rg ?_
    exact RU.ret
  · rfl
theorem ap_uv {L0 : Nat} {H : Heap} {out : AV} {bs : B} {n : Nat} (hL : L0 ≤ H.length) (ho : OutAt L0 H out bs) (hn : n < 4294967296) (hb : bs.length + (uv n).length ≤ 1099511627776) :
    ∃ out' H', CA P S 18 [out, .i .u32 (n : Nat)] H (out', H') ∧ OutAt L0 H' out' (bs ++ uv n) ∧ WKeep L0 H H' ∧ OKeep H out H' out' := by
  have cl := uvlen E (H := H) hn
  have sh7 : binA P .shr 49 true (.i .u32 (n : Nat)) (.i .u64 7) = some (.i .u32 ((n / 128 : Nat) : Int)) := by have := shr 49 .u32 true (n : Nat) 7 (by simp [IntKind.bits]); simpa using this
  have sh14 : binA P .shr 49 true (.i .u32 (n : Nat)) (.i .u64 14) = some (.i .u32 ((n / 128 / 128 : Nat) : Int)) := by have := shr 49 .u32 true (n : Nat) 14 (by simp [IntKind.bits]); rw [Nat.div_div_eq_div_mul]; simpa using this
  have sh21 : binA P .shr 49 true (.i .u32 (n : Nat)) (.i .u64 21) = some (.i .u32 ((n / 128 / 128 / 128 : Nat) : Int)) := by have := shr 49 .u32 true (n : Nat) 21 (by simp [IntKind.bits]); rw [Nat.div_div_eq_div_mul, Nat.div_div_eq_div_mul]; simpa using this
  have sh28 : binA P .shr 49 true (.i .u32 (n : Nat)) (.i .u64 28) = some (.i .u32 ((n / 128 / 128 / 128 / 128 : Nat) : Int)) := by have := shr 49 .u32 true (n : Nat) 28 (by simp [IntKind.bits]); rw [Nat.div_div_eq_div_mul, Nat.div_div_eq_div_mul, Nat.div_div_eq_div_mul]; simpa using this
  by_cases h1 : n < 128
  · rw [uv_len1 (by omega)] at cl hb
    have e : uv n = [UInt8.ofNat (n)] := by
      rw [uv, dif_pos (by omega)]
    rw [e]
    exact uv1_run E hL ho (by omega) cl (conv_y n)
  by_cases h2 : n < 16384
  · rw [uv_len2 (by omega) (by omega)] at cl hb
    have e : uv n = [UInt8.ofNat (n % 128 + 128), UInt8.ofNat (n / 128)] := by
      rw [uv, dif_neg (by omega)]
      congr 1
      rw [uv, dif_pos (by omega)]
    rw [e]
    exact uv2_run E hL ho (by omega) cl (and127 _ _ n (by omega)) (or128 _ _ (n % 128) (by omega)) (conv_y (n % 128 + 128)) sh7 (conv_y (n / 128))
  by_cases h3 : n < 2097152
  · rw [uv_len3 (by omega) (by omega)] at cl hb
    have e : uv n = [UInt8.ofNat (n % 128 + 128), UInt8.ofNat (n / 128 % 128 + 128), UInt8.ofNat (n / 128 / 128)] := by
      rw [uv, dif_neg (by omega)]
      congr 1
      rw [uv, dif_neg (by omega)]
      congr 1
      rw [uv, dif_pos (by omega)]
    rw [e]
    exact uv3_run E hL ho (by omega) cl (and127 _ _ n (by omega)) (or128 _ _ (n % 128) (by omega)) (conv_y (n % 128 + 128)) sh7 (and127 _ _ (n / 128) (by omega)) (or128 _ _ ((n / 128) % 128) (by omega)) (conv_y ((n / 128) % 128 + 128)) sh14 (conv_y (n / 128 / 128))
  by_cases h4 : n < 268435456
  · rw [uv_len4 (by omega) (by omega)] at cl hb
    have e : uv n = [UInt8.ofNat (n % 128 + 128), UInt8.ofNat (n / 128 % 128 + 128), UInt8.ofNat (n / 128 / 128 % 128 + 128), UInt8.ofNat (n / 128 / 128 / 128)] := by
      rw [uv, dif_neg (by omega)]
      congr 1
      rw [uv, dif_neg (by omega)]
      congr 1
      rw [uv, dif_neg (by omega)]
      congr 1
      rw [uv, dif_pos (by omega)]
    rw [e]
    exact uv4_run E hL ho (by omega) cl (and127 _ _ n (by omega)) (or128 _ _ (n % 128) (by omega)) (conv_y (n % 128 + 128)) sh7 (and127 _ _ (n / 128) (by omega)) (or128 _ _ ((n / 128) % 128) (by omega)) (conv_y ((n / 128) % 128 + 128)) sh14 (and127 _ _ (n / 128 / 128) (by omega)) (or128 _ _ ((n / 128 / 128) % 128) (by omega)) (conv_y ((n / 128 / 128) % 128 + 128)) sh21 (conv_y (n / 128 / 128 / 128))
  rw [uv_len5 (by omega) (by omega)] at cl hb
  have e : uv n = [UInt8.ofNat (n % 128 + 128), UInt8.ofNat (n / 128 % 128 + 128), UInt8.ofNat (n / 128 / 128 % 128 + 128), UInt8.ofNat (n / 128 / 128 / 128 % 128 + 128), UInt8.ofNat (n / 128 / 128 / 128 / 128)] := by
    rw [uv, dif_neg (by omega)]
    congr 1
    rw [uv, dif_neg (by omega)]
    congr 1
    rw [uv, dif_neg (by omega)]
    congr 1
    rw [uv, dif_neg (by omega)]
    congr 1
    rw [uv, dif_pos (by omega)]
  rw [e]
  exact uv5_run E hL ho (by omega) cl (and127 _ _ n (by omega)) (or128 _ _ (n % 128) (by omega)) (conv_y (n % 128 + 128)) sh7 (and127 _ _ (n / 128) (by omega)) (or128 _ _ ((n / 128) % 128) (by omega)) (conv_y ((n / 128) % 128 + 128)) sh14 (and127 _ _ (n / 128 / 128) (by omega)) (or128 _ _ ((n / 128 / 128) % 128) (by omega)) (conv_y ((n / 128 / 128) % 128 + 128)) sh21 (and127 _ _ (n / 128 / 128 / 128) (by omega)) (or128 _ _ ((n / 128 / 128 / 128) % 128) (by omega)) (conv_y ((n / 128 / 128 / 128) % 128 + 128)) sh28 (conv_y (n / 128 / 128 / 128 / 128))
end
theorem apu_uv : ApU 18 := ⟨fun L0 H out bs n hL ho hn hb => by
  obtain ⟨out', H', c, h1, h2, _⟩ := ap_uv emp_ns hL ho hn (by have := uv_le hn; omega)
  exact ⟨out', H', c, h1, h2⟩⟩
end Go.Proofs.YtiifcfngbbhgoagDoor.Rd

namespace Go.Proofs.YtiifcfngbbhgoagDoor.Rd
open Go Go.Proofs.YtiifcfngbbhgoagDoor.Ax Go.Proofs.YtiifcfngbbhgoagDoor.Wire
set_option maxRecDepth 100000
set_option maxHeartbeats 1000000
theorem remk (n m : Nat) (hm : 0 < m) : binA P .rem 3 false (.i .i64 (n : Int)) (.i .i64 (m : Int)) = some (.i .i64 ((n % m : Nat) : Int)) := by
  show ofSem (Op.intDiv .rem .i64 (n : Int) (m : Int)) = _
  have e : Op.intDiv .rem .i64 (n : Int) (m : Int) = pure (.int .i64 ((n : Int).tmod (m : Int))) := by
    unfold Op.intDiv
    rw [if_neg (by omega)]
  rw [e]
  have : (n : Int).tmod (m : Int) = ((n % m : Nat) : Int) := by rw [Int.tmod_eq_emod_of_nonneg (by omega)]; rfl
  rw [this]
  rfl
theorem ver_walk {H : Heap} {n8 n m s r : Int} (hc : convA P 5 3 (.i .u8 n8) = some (.i .i64 n)) (ha : binA P .add 3 true (.i .i64 m) (.i .i64 1) = some (.i .i64 s)) (hr : binA P .rem 3 false (.i .i64 n) (.i .i64 s) = some (.i .i64 r)) : CA P NS 6 [.i .u8 n8, .i .i64 m] H (.i .i64 r, H) := by
  refine CA.go (fn := Tryd.f6) (vs := [_]) (by kernel_rfl) rfl (by first | exact .inr rfl | exact .inl rfl) ?_
  apply Exists.intro
  apply And.intro
  · dsimp only [Tryd.f6]
    dsimp only [List.length_cons, List.length_nil, List.cons_append, List.nil_append, Nat.reduceSub, Nat.reduceAdd, List.replicate]
    refine RU.seq RU.rg ?_
    refine RU.seq RU.rg ?_
    first | exact RU.ret | exact RU.skip
  · rfl
theorem ver_run {n8 : Int} {most : Nat} (hm : most < 1000) (hn : 0 ≤ n8 ∧ n8 < 256) : ∃ k : Nat, k ≤ most ∧ ∀ H : Heap, CA P NS 6 [.i .u8 n8, .i .i64 (most : Int)] H (.i .i64 (k : Int), H) := by
  obtain ⟨n, rfl⟩ : ∃ n : Nat, n8 = n := ⟨n8.toNat, by omega⟩
  refine ⟨n % (most + 1), by have := Nat.mod_lt n (show 0 < most + 1 by omega); omega, fun H => ver_walk (n := n) (s := ((most + 1 : Nat) : Int)) ?_ ?_ (remk n (most + 1) (by omega))⟩
  · have e : convA P 5 3 (.i .u8 (n : Int)) = some (.i .i64 (IntKind.i64.wrap (n : Int))) := by kernel_rfl
    rw [e]
    simp [IntKind.wrap, IntKind.signed, IntKind.bits]; omega
  · have e : binA P .add 3 true (.i .i64 (most : Int)) (.i .i64 1) = some (.i .i64 (IntKind.i64.wrap ((most : Int) + 1))) := by kernel_rfl
    rw [e]
    simp [IntKind.wrap, IntKind.signed, IntKind.bits]; omega
end Go.Proofs.YtiifcfngbbhgoagDoor.Rd

namespace Go.Proofs.YtiifcfngbbhgoagDoor.Rd
open Go Go.Proofs.YtiifcfngbbhgoagDoor.Ax Go.Proofs.YtiifcfngbbhgoagDoor.Wire
set_option maxRecDepth 100000
set_option maxHeartbeats 1000000
theorem uv_pos (n : Nat) : 0 < (uv n).length := by
  rw [uv]; split <;> simp
theorem OutAt.cells {L0 : Nat} {H : Heap} {out : AV} {bs : B} (h : OutAt L0 H out bs) : out.isS = false := by
  rcases h with ⟨rfl, _⟩ | ⟨i, _, rfl, _⟩ <;> rfl
theorem OutAt.wk {L0 : Nat} {H H' : Heap} {out : AV} {bs : B} (h : OutAt L0 H out bs) (k : Kp H H') : OutAt L0 H' out bs := by
  rcases h with h | ⟨i, h1, h2, h3, h4⟩
  · exact .inl h
  · exact .inr ⟨i, h1, h2, k.at_ h3, h4⟩
theorem OutAt.mono {L0 L1 : Nat} {H : Heap} {out : AV} {bs : B} (h : OutAt L0 H out bs) (hl : L1 ≤ L0) : OutAt L1 H out bs := by
  rcases h with h | ⟨i, h1, h2⟩
  · exact .inl h
  · exact .inr ⟨i, by omega, h2⟩
end Go.Proofs.YtiifcfngbbhgoagDoor.Rd

