/-
  WHAT IS ON THE WIRE: formats of one version of a message, what is written of a value, what is read of bytes. What is written is read as the same; what is read of a part is read of the whole. Plain Lean: no program here.
-/

set_option linter.constructorNameAsVariable false
set_option linter.unusedVariables false
set_option linter.unusedSimpArgs false
namespace Go.Proofs.YtiifcfngbbhgoagDoor.Wire
abbrev B := List UInt8
inductive K where
  | bool | i8 | i16 | i32 | i64 | u16 | f64 | uuid | str | bytes | pstr
  deriving DecidableEq, Repr
inductive F where
  | nil
  | leaf (o : Nat) (k : K) (null : Bool) (rest : F)
  | list (o sz : Nat) (null : Bool) (e rest : F)
  | tags (o : Nat) (rest : F)
  deriving DecidableEq, Repr
inductive V where
  | u
  | i (n : Int)
  | b (x : Bool)
  | s (bs : B)
  | nul
  | l (vs : List V)
  | t (ts : List (Nat × B))
  | c (v w : V)
  deriving Inhabited
def be : Nat → Int → B
  | 0, _ => []
  | s + 1, n => UInt8.ofNat ((n / 256 ^ s) % 256).toNat :: be s n
def nat : B → Nat
  | [] => 0
  | b :: r => b.toNat * 256 ^ r.length + nat r
def sgn (s : Nat) (n : Nat) : Int := if n < 2 ^ (8 * s - 1) then n else (n : Int) - 2 ^ (8 * s)
def cut (n : Nat) (bs : B) : Option (B × B) := if n ≤ bs.length then some (bs.take n, bs.drop n) else none
def rdI (s : Nat) (bs : B) : Option (Int × B) := (cut s bs).map fun (h, r) => (sgn s (nat h), r)
def rdU (s : Nat) (bs : B) : Option (Int × B) := (cut s bs).map fun (h, r) => ((nat h : Int), r)
def uv (n : Nat) : B := if h : n < 128 then [UInt8.ofNat n] else UInt8.ofNat (n % 128 + 128) :: uv (n / 128)
termination_by n
decreasing_by omega
def uvd : Nat → B → Option (Nat × B)
  | _, [] => none
  | 0, b :: r => if b.toNat ≤ 15 then some (b.toNat, r) else none
  | k + 1, b :: r => if b.toNat < 128 then some (b.toNat, r) else (uvd k r).map fun (m, r') => (b.toNat - 128 + 128 * m, r')
def rdV (bs : B) : Option (Nat × B) := uvd 4 bs
def cnt (flex : Bool) (s n : Nat) : B := if flex then uv (n + 1) else be s n
def cnt0 (flex : Bool) (s : Nat) : B := if flex then [0] else be s (-1)
def rdC (flex : Bool) (s : Nat) (bs : B) : Option (Int × B) := if flex then (rdV bs).map fun (n, r) => ((n : Int) - 1, r) else rdI s bs
def K.size : K → Nat
  | .bool | .i8 => 1
  | .i16 | .u16 => 2
  | .i32 => 4
  | .i64 | .f64 => 8
  | .uuid => 16
  | .str | .pstr => 2
  | .bytes => 4
def K.wide : K → Nat
  | .uuid => 16
  | _ => 1
def encK (flex : Bool) (k : K) (v : V) : B :=
  match k, v with
  | .bool, .b x => [if x then 1 else 0]
  | .uuid, .s bs => bs
  | .str, .s bs => cnt flex 2 bs.length ++ bs
  | .str, _ => cnt0 flex 2
  | .pstr, .s bs => cnt flex 2 bs.length ++ bs
  | .pstr, _ => cnt0 flex 2
  | .bytes, .s bs => cnt flex 4 bs.length ++ bs
  | .bytes, _ => cnt0 flex 4
  | k, .i n => be k.size n
  | _, _ => []
def rdS (l : Int) (bs : B) : Option (B × B) := if l < 0 then none else cut l.toNat bs
def decK (flex : Bool) (k : K) (null : Bool) (bs : B) : Option (V × B) :=
  match k with
  | .bool => (cut 1 bs).map fun (h, r) => (.b (h != [0]), r)
  | .uuid => (cut 16 bs).map fun (h, r) => (.s h, r)
  | .str => (rdC flex 2 bs).bind fun (l, r) => if null && l < 0 then some (.nul, r) else (rdS l r).map fun (h, r) => (.s h, r)
  | .pstr => (rdC flex 2 bs).bind fun (l, r) => if null && l < 0 then some (.nul, r) else (rdS l r).map fun (h, r) => (.s h, r)
  | .bytes => (rdC flex 4 bs).bind fun (l, r) => if null && l < 0 then some (.nul, r) else if l = -1 then some (.s [], r) else (rdS l r).map fun (h, r) => (.s h, r)
  | .u16 => (rdU 2 bs).map fun (n, r) => (.i n, r)
  | .f64 => (rdU 8 bs).map fun (n, r) => (.i n, r)
  | k => (rdI k.size bs).map fun (n, r) => (.i n, r)
def rdL (flex : Bool) (bs : B) : Option (Int × B) :=
  (if flex then (rdV bs).map fun (n, r) => (sgn 4 (((sgn 4 n) - 1) % 4294967296).toNat, r) else rdI 4 bs).bind fun (l, r) => if (r.length : Int) < l then none else some (l, r)
def many (d : B → Option (V × B)) : Nat → B → Option (List V × B)
  | 0, bs => some ([], bs)
  | n + 1, bs => (d bs).bind fun (v, r) => (many d n r).map fun (vs, r) => (v :: vs, r)
def put (k : Nat) (v : B) : List (Nat × B) → List (Nat × B)
  | [] => [(k, v)]
  | (k', v') :: r => if k < k' then (k, v) :: (k', v') :: r else if k = k' then (k, v) :: r else (k', v') :: put k v r
def encT (ts : List (Nat × B)) : B := ts.flatMap fun (k, v) => uv k ++ (uv v.length ++ v)
def decT : Nat → List (Nat × B) → B → Option (List (Nat × B) × B)
  | 0, ts, bs => some (ts, bs)
  | n + 1, ts, bs => (rdV bs).bind fun (k, r) => (rdV r).bind fun (l, r) => (cut l r).bind fun (h, r) => decT n (put k h ts) r
def enc (flex : Bool) : F → V → B
  | .nil, _ => []
  | .leaf _ k _ r, .c v w => encK flex k v ++ enc flex r w
  | .list _ _ _ e r, .c v w => (match v with
    | .l vs => cnt flex 4 vs.length ++ vs.flatMap (enc flex e)
    | _ => cnt0 flex 4) ++ enc flex r w
  | .tags _ r, .c (.t ts) w => uv ts.length ++ encT ts ++ enc flex r w
  | _, _ => []
def dec (flex : Bool) : F → B → Option (V × B)
  | .nil, bs => some (.u, bs)
  | .leaf _ k n r, bs => (decK flex k n bs).bind fun (v, bs) => (dec flex r bs).map fun (w, bs) => (.c v w, bs)
  | .list _ _ n e r, bs => (rdL flex bs).bind fun (l, bs) => (if n && l < 0 then some (V.nul, bs) else (many (dec flex e) l.toNat bs).map fun (vs, bs) => (V.l vs, bs)).bind fun (v, bs) => (dec flex r bs).map fun (w, bs) => (.c v w, bs)
  | .tags _ r, bs => (rdV bs).bind fun (n, bs) => (decT n [] bs).bind fun (ts, bs) => (dec flex r bs).map fun (w, bs) => (.c (.t ts) w, bs)
def F.good : F → Bool
  | .nil => true
  | .leaf _ _ _ r => r.good
  | .list _ _ _ e r => e != .nil && e.good && r.good
  | .tags _ r => r.good
def inI (s : Nat) (n : Int) : Prop := -2 ^ (8 * s - 1) ≤ n ∧ n < 2 ^ (8 * s - 1)
def okK (flex : Bool) (k : K) (null : Bool) (v : V) : Prop :=
  match k, v with
  | .bool, .b _ => True
  | .uuid, .s bs => bs.length = 16
  | .str, .s bs => if flex then bs.length + 1 < 2 ^ 32 else bs.length < 2 ^ 15
  | .str, .nul => null = true
  | .pstr, .s bs => if flex then bs.length + 1 < 2 ^ 32 else bs.length < 2 ^ 15
  | .pstr, .nul => null = true
  | .bytes, .s bs => if flex then bs.length + 1 < 2 ^ 32 else bs.length < 2 ^ 31
  | .bytes, .nul => null = true
  | .u16, .i n => 0 ≤ n ∧ n < 2 ^ 16
  | .f64, .i n => 0 ≤ n ∧ n < 2 ^ 64
  | .i8, .i n => inI 1 n
  | .i16, .i n => inI 2 n
  | .i32, .i n => inI 4 n
  | .i64, .i n => inI 8 n
  | _, _ => False
def okT : Nat → List (Nat × B) → Prop
  | _, [] => True
  | m, (k, v) :: r => m ≤ k ∧ k < 2 ^ 32 ∧ v.length < 2 ^ 32 ∧ okT (k + 1) r
def ok (flex : Bool) : F → V → Prop
  | .nil, .u => True
  | .leaf _ k n r, .c v w => okK flex k n v ∧ ok flex r w
  | .list _ _ n e r, .c v w => (match v with
    | .l vs => vs.length < 2 ^ 31 ∧ ∀ x ∈ vs, ok flex e x
    | .nul => n = true
    | _ => False) ∧ ok flex r w
  | .tags _ r, .c (.t ts) w => okT 0 ts ∧ ts.length < 2 ^ 32 ∧ ok flex r w
  | _, _ => False
def K.bare : K → K
  | .pstr => .str
  | k => k
def F.strip : F → F
  | .nil => .nil
  | .leaf _ k n r => .leaf 0 k.bare n r.strip
  | .list _ _ n e r => .list 0 0 n e.strip r.strip
  | .tags _ r => .tags 0 r.strip
end Go.Proofs.YtiifcfngbbhgoagDoor.Wire

namespace Go.Proofs.YtiifcfngbbhgoagDoor.Wire
theorem be_length : ∀ (s : Nat) (n : Int), (be s n).length = s
  | 0, _ => rfl
  | s + 1, n => by simp [be, be_length s n]
theorem u8_ofNat {n : Nat} (h : n < 256) : (UInt8.ofNat n).toNat = n := by
  simp; omega
theorem u8_lt (b : UInt8) : b.toNat < 256 := UInt8.toNat_lt b
theorem nat_be1 (n : Int) : (nat (be 1 n) : Int) = n % 256 := by
  simp only [be, nat, List.length_nil, Nat.pow_zero, Nat.mul_one]
  rw [u8_ofNat (by omega)]
  simp; omega
theorem nat_be2 (n : Int) : (nat (be 2 n) : Int) = n % 65536 := by
  simp only [be, nat, List.length_nil, List.length_cons, Nat.pow_zero, Nat.mul_one]
  rw [u8_ofNat (by omega), u8_ofNat (by omega)]
  simp; omega
theorem nat_be4 (n : Int) : (nat (be 4 n) : Int) = n % 4294967296 := by
  simp only [be, nat, List.length_nil, List.length_cons, Nat.pow_zero, Nat.mul_one]
  rw [u8_ofNat (by omega), u8_ofNat (by omega), u8_ofNat (by omega), u8_ofNat (by omega)]
  simp; omega
theorem nat_app : ∀ (a b : B), nat (a ++ b) = nat a * 256 ^ b.length + nat b
  | [], b => by simp [nat]
  | x :: a, b => by
    simp only [List.cons_append, nat, nat_app a b, List.length_append, Nat.pow_add, Nat.add_mul]
    rw [Nat.mul_assoc]; omega
theorem be8 (n : Int) : be 8 n = be 4 (n / 4294967296) ++ be 4 n := by
  have h : ∀ (a b : Nat), n / (256 : Int) ^ (a + b) = n / 256 ^ b / 256 ^ a := by
    intro a b
    rw [Int.ediv_ediv_of_nonneg (by exact Int.pow_nonneg (by omega)), ← Int.pow_add, Nat.add_comm]
  have e : (4294967296 : Int) = 256 ^ 4 := by decide
  simp only [be, List.cons_append, List.nil_append, e]
  rw [show n / (256 : Int) ^ 7 = n / 256 ^ 4 / 256 ^ 3 from h 3 4, show n / (256 : Int) ^ 6 = n / 256 ^ 4 / 256 ^ 2 from h 2 4, show n / (256 : Int) ^ 5 = n / 256 ^ 4 / 256 ^ 1 from h 1 4]
  simp
theorem nat_be8 (n : Int) : (nat (be 8 n) : Int) = n % 18446744073709551616 := by
  have h1 := nat_be4 (n / 4294967296)
  have h2 := nat_be4 n
  rw [be8, nat_app, be_length]
  simp only [Int.natCast_add, Int.natCast_mul, h1, h2]
  simp; omega
theorem cut_app {n : Nat} {h r : B} (hl : h.length = n) : cut n (h ++ r) = some (h, r) := by
  subst hl
  simp [cut]
theorem cut_ext {n : Nat} {p h r : B} (hc : cut n p = some (h, r)) (q : B) : cut n (p ++ q) = some (h, r ++ q) := by
  unfold cut at *
  split at hc
  · rename_i hn
    simp at hc
    obtain ⟨rfl, rfl⟩ := hc
    rw [if_pos (by simp; omega), List.take_append_of_le_length hn, List.drop_append_of_le_length hn]
  · cases hc
theorem cut_len {n : Nat} {p h r : B} (hc : cut n p = some (h, r)) : h.length = n ∧ p = h ++ r := by
  unfold cut at hc
  split at hc
  · simp at hc
    obtain ⟨rfl, rfl⟩ := hc
    refine ⟨by simp; omega, by simp⟩
  · cases hc
theorem sgn_be1 {n : Int} (h : inI 1 n) : sgn 1 (nat (be 1 n)) = n := by
  have h1 := nat_be1 n
  simp [inI] at h
  unfold sgn
  generalize nat (be 1 n) = m at *
  simp
  split <;> omega
theorem sgn_be2 {n : Int} (h : inI 2 n) : sgn 2 (nat (be 2 n)) = n := by
  have h1 := nat_be2 n
  simp [inI] at h
  unfold sgn
  generalize nat (be 2 n) = m at *
  simp
  split <;> omega
theorem sgn_be4 {n : Int} (h : inI 4 n) : sgn 4 (nat (be 4 n)) = n := by
  have h1 := nat_be4 n
  simp [inI] at h
  unfold sgn
  generalize nat (be 4 n) = m at *
  simp
  split <;> omega
theorem sgn_be8 {n : Int} (h : inI 8 n) : sgn 8 (nat (be 8 n)) = n := by
  have h1 := nat_be8 n
  simp [inI] at h
  unfold sgn
  generalize nat (be 8 n) = m at *
  simp
  split <;> omega
theorem rdI_be {s : Nat} {n : Int} {r : B} (h : sgn s (nat (be s n)) = n) : rdI s (be s n ++ r) = some (n, r) := by
  simp [rdI, cut_app (be_length s n), h]
theorem rdI_ext {s : Nat} {p r : B} {n : Int} (h : rdI s p = some (n, r)) (q : B) : rdI s (p ++ q) = some (n, r ++ q) := by
  unfold rdI at *
  obtain ⟨⟨a, b⟩, hc, hh⟩ := Option.map_eq_some_iff.1 h
  simp at hh
  obtain ⟨rfl, rfl⟩ := hh
  rw [cut_ext hc q]; rfl
theorem rdU_ext {s : Nat} {p r : B} {n : Int} (h : rdU s p = some (n, r)) (q : B) : rdU s (p ++ q) = some (n, r ++ q) := by
  unfold rdU at *
  obtain ⟨⟨a, b⟩, hc, hh⟩ := Option.map_eq_some_iff.1 h
  simp at hh
  obtain ⟨rfl, rfl⟩ := hh
  rw [cut_ext hc q]; rfl
theorem nat_lt : ∀ (bs : B), nat bs < 256 ^ bs.length
  | [] => by simp [nat]
  | b :: r => by
    have h1 := nat_lt r
    have h2 := u8_lt b
    simp only [nat, List.length_cons, Nat.pow_succ]
    have : b.toNat * 256 ^ r.length ≤ 255 * 256 ^ r.length := Nat.mul_le_mul_right _ (by omega)
    omega
theorem sgn_in {s : Nat} (hs : s = 1 ∨ s = 2 ∨ s = 4 ∨ s = 8) {bs : B} (h : bs.length = s) : inI s (sgn s (nat bs)) := by
  have h1 := nat_lt bs
  rw [h] at h1
  unfold inI sgn
  generalize nat bs = m at *
  rcases hs with rfl | rfl | rfl | rfl <;> simp at * <;> split <;> omega
theorem rdI_in {s : Nat} (hs : s = 1 ∨ s = 2 ∨ s = 4 ∨ s = 8) {p r : B} {n : Int} (h : rdI s p = some (n, r)) : inI s n := by
  unfold rdI at h
  obtain ⟨⟨a, b⟩, hc, hh⟩ := Option.map_eq_some_iff.1 h
  simp at hh
  obtain ⟨rfl, rfl⟩ := hh
  exact sgn_in hs (cut_len hc).1
theorem uv_pos (n : Nat) : 1 ≤ (uv n).length := by
  unfold uv
  split <;> simp
theorem uvd_uv : ∀ (k n : Nat) (r : B), n < 16 * 128 ^ k → uvd k (uv n ++ r) = some (n, r)
  | 0, n, r, h => by
    unfold uv
    rw [dif_pos (by simp at h; omega)]
    simp only [List.cons_append, List.nil_append, uvd]
    rw [u8_ofNat (by simp at h; omega), if_pos (by simp at h; omega)]
  | k + 1, n, r, h => by
    unfold uv
    split
    · rename_i h1
      simp only [List.cons_append, List.nil_append, uvd]
      rw [u8_ofNat (by omega), if_pos h1]
    · rename_i h1
      simp only [List.cons_append, uvd]
      rw [u8_ofNat (by omega), if_neg (by omega), uvd_uv k (n / 128) r (by rw [Nat.pow_succ] at h; omega)]
      simp; omega
theorem rdV_uv {n : Nat} {r : B} (h : n < 2 ^ 32) : rdV (uv n ++ r) = some (n, r) := uvd_uv 4 n r (by omega)
theorem uvd_ext : ∀ (k : Nat) {p r : B} {n : Nat}, uvd k p = some (n, r) → ∀ q, uvd k (p ++ q) = some (n, r ++ q)
  | _, [], _, _, h, _ => by simp [uvd] at h
  | 0, b :: p, r, n, h, q => by
    simp only [uvd, List.cons_append] at *
    split at h
    · rename_i h1
      simp at h
      obtain ⟨rfl, rfl⟩ := h
      rw [if_pos h1]
    · cases h
  | k + 1, b :: p, r, n, h, q => by
    simp only [uvd, List.cons_append] at *
    split at h
    · rename_i h1
      simp at h
      obtain ⟨rfl, rfl⟩ := h
      rw [if_pos h1]
    · rename_i h1
      obtain ⟨⟨m, r'⟩, hc, hh⟩ := Option.map_eq_some_iff.1 h
      simp at hh
      obtain ⟨rfl, rfl⟩ := hh
      rw [if_neg h1, uvd_ext k hc q]
      rfl
theorem uvd_lt : ∀ (k : Nat) {p r : B} {n : Nat}, uvd k p = some (n, r) → n < 16 * 128 ^ k
  | _, [], _, _, h => by simp [uvd] at h
  | 0, b :: p, r, n, h => by
    simp only [uvd] at h
    split at h
    · simp at h; omega
    · cases h
  | k + 1, b :: p, r, n, h => by
    simp only [uvd] at h
    split at h
    · simp at h
      have : 1 ≤ 128 ^ k := Nat.pow_pos (by omega)
      rw [Nat.pow_succ]; omega
    · obtain ⟨⟨m, r'⟩, hc, hh⟩ := Option.map_eq_some_iff.1 h
      simp at hh
      have := uvd_lt k hc
      have hb := u8_lt b
      rw [Nat.pow_succ]; omega
theorem rdV_ext {p r : B} {n : Nat} (h : rdV p = some (n, r)) (q : B) : rdV (p ++ q) = some (n, r ++ q) := uvd_ext 4 h q
theorem rdV_lt {p r : B} {n : Nat} (h : rdV p = some (n, r)) : n < 2 ^ 32 := by
  have := uvd_lt 4 h
  omega
theorem rdC_cnt {flex : Bool} {s n : Nat} {r : B} (hf : flex = true → n + 1 < 2 ^ 32) (hn : flex = false → sgn s (nat (be s n)) = n) : rdC flex s (cnt flex s n ++ r) = some ((n : Int), r) := by
  cases flex with
  | true =>
    simp only [rdC, cnt, if_true]
    rw [rdV_uv (hf rfl)]
    simp
  | false => simpa [rdC, cnt] using rdI_be (hn rfl)
theorem rdC_null {flex : Bool} {s : Nat} {r : B} (hn : sgn s (nat (be s (-1))) = -1) : rdC flex s (cnt0 flex s ++ r) = some (-1, r) := by
  cases flex with
  | true =>
    simp only [rdC, cnt0, if_true]
    have : rdV ([0] ++ r) = some (0, r) := by simp [rdV, uvd]
    rw [this]; rfl
  | false => simpa [rdC, cnt0] using rdI_be hn
theorem rdC_ext {flex : Bool} {s : Nat} {p r : B} {n : Int} (h : rdC flex s p = some (n, r)) (q : B) : rdC flex s (p ++ q) = some (n, r ++ q) := by
  cases flex with
  | true =>
    simp only [rdC, if_true] at *
    obtain ⟨⟨m, r'⟩, hc, hh⟩ := Option.map_eq_some_iff.1 h
    simp at hh
    obtain ⟨rfl, rfl⟩ := hh
    rw [rdV_ext hc q]; rfl
  | false =>
    simp only [rdC] at *
    exact rdI_ext (by simpa using h) q
theorem rdS_app {h r : B} : rdS (h.length : Int) (h ++ r) = some (h, r) := by
  unfold rdS
  rw [if_neg (by omega), Int.toNat_natCast]
  exact cut_app rfl
theorem rdS_ext {l : Int} {p h r : B} (hc : rdS l p = some (h, r)) (q : B) : rdS l (p ++ q) = some (h, r ++ q) := by
  unfold rdS at *
  split at hc
  · cases hc
  · rename_i h1
    rw [if_neg h1]
    exact cut_ext hc q
theorem rdS_len {l : Int} {p h r : B} (hc : rdS l p = some (h, r)) : (h.length : Int) = l ∧ p = h ++ r := by
  unfold rdS at hc
  split at hc
  · cases hc
  · rename_i h1
    have := cut_len hc
    exact ⟨by omega, this.2⟩
theorem inI2 {n : Nat} (h : n < 2 ^ 15) : inI 2 n := by simp [inI]; omega
theorem inI4 {n : Nat} (h : n < 2 ^ 31) : inI 4 n := by simp [inI]; omega
theorem decK_encK {flex : Bool} {k : K} {null : Bool} {v : V} (h : okK flex k null v) (r : B) : decK flex k null (encK flex k v ++ r) = some (v, r) := by
  cases k <;> cases v <;> simp only [okK] at h <;> try (exact absurd h id)
  case bool.b x =>
    have : cut 1 ([if x then (1 : UInt8) else 0] ++ r) = some ([if x then (1 : UInt8) else 0], r) := cut_app rfl
    simp only [decK, encK, this]
    cases x <;> rfl
  case i8.i n => simp [decK, encK, K.size, rdI_be (sgn_be1 h)]
  case i16.i n => simp [decK, encK, K.size, rdI_be (sgn_be2 h)]
  case i32.i n => simp [decK, encK, K.size, rdI_be (sgn_be4 h)]
  case i64.i n => simp [decK, encK, K.size, rdI_be (sgn_be8 h)]
  case u16.i n =>
    have := nat_be2 n
    simp [decK, encK, K.size, rdU, cut_app (be_length 2 n), this]; omega
  case f64.i n =>
    have := nat_be8 n
    simp [decK, encK, K.size, rdU, cut_app (be_length 8 n), this]; omega
  case uuid.s bs => simp [decK, encK, cut_app h]
  case str.s bs =>
    simp only [decK, encK, List.append_assoc]
    rw [rdC_cnt (fun hf => by rw [if_pos hf] at h; exact h) (fun hf => sgn_be2 (inI2 (by rw [if_neg (by simp [hf])] at h; exact h)))]
    have : ¬ ((bs.length : Int) < 0) := by omega
    simp [this, rdS_app]
  case pstr.s bs =>
    simp only [decK, encK, List.append_assoc]
    rw [rdC_cnt (fun hf => by rw [if_pos hf] at h; exact h) (fun hf => sgn_be2 (inI2 (by rw [if_neg (by simp [hf])] at h; exact h)))]
    have : ¬ ((bs.length : Int) < 0) := by omega
    simp [this, rdS_app]
  case str.nul =>
    simp only [decK, encK]
    rw [rdC_null (by decide)]
    simp [h]
  case pstr.nul =>
    simp only [decK, encK]
    rw [rdC_null (by decide)]
    simp [h]
  case bytes.s bs =>
    simp only [decK, encK, List.append_assoc]
    rw [rdC_cnt (fun hf => by rw [if_pos hf] at h; exact h) (fun hf => sgn_be4 (inI4 (by rw [if_neg (by simp [hf])] at h; exact h)))]
    have : ¬ ((bs.length : Int) < 0) := by omega
    have h1 : ¬ ((bs.length : Int) = -1) := by omega
    simp [this, h1, rdS_app]
  case bytes.nul =>
    simp only [decK, encK]
    rw [rdC_null (by decide)]
    simp [h]
theorem decK_ext {flex : Bool} {k : K} {null : Bool} {v : V} {p r : B} (h : decK flex k null p = some (v, r)) (q : B) : decK flex k null (p ++ q) = some (v, r ++ q) := by
  have c1 : ∀ {n : Nat} {f : B × B → V × B} (hf : ∀ h r, (f (h, r ++ q)).1 = (f (h, r)).1 ∧ (f (h, r ++ q)).2 = r ++ q ∧ (f (h, r)).2 = r), (cut n p).map f = some (v, r) → (cut n (p ++ q)).map f = some (v, r ++ q) := by
    intro n f hf h
    obtain ⟨⟨a, b⟩, hc, hh⟩ := Option.map_eq_some_iff.1 h
    rw [cut_ext hc q]
    obtain ⟨k1, k2, k3⟩ := hf a b
    simp only [Option.map_some, Option.some.injEq]
    rw [hh] at k1 k3
    simp only at k1 k3
    subst k3
    rw [← k1]
    exact Prod.ext rfl k2
  have c2 : ∀ {s : Nat}, (rdI s p).map (fun (n, r) => (V.i n, r)) = some (v, r) → (rdI s (p ++ q)).map (fun (n, r) => (V.i n, r)) = some (v, r ++ q) := by
    intro s h
    obtain ⟨⟨a, b⟩, hc, hh⟩ := Option.map_eq_some_iff.1 h
    simp at hh
    obtain ⟨rfl, rfl⟩ := hh
    rw [rdI_ext hc q]; rfl
  have c3 : ∀ {s : Nat}, (rdU s p).map (fun (n, r) => (V.i n, r)) = some (v, r) → (rdU s (p ++ q)).map (fun (n, r) => (V.i n, r)) = some (v, r ++ q) := by
    intro s h
    obtain ⟨⟨a, b⟩, hc, hh⟩ := Option.map_eq_some_iff.1 h
    simp at hh
    obtain ⟨rfl, rfl⟩ := hh
    rw [rdU_ext hc q]; rfl
  have c4 : ∀ {l : Int} {r0 : B}, (rdS l r0).map (fun (h, r) => (V.s h, r)) = some (v, r) → (rdS l (r0 ++ q)).map (fun (h, r) => (V.s h, r)) = some (v, r ++ q) := by
    intro l r0 h
    obtain ⟨⟨a, b⟩, hc, hh⟩ := Option.map_eq_some_iff.1 h
    simp at hh
    obtain ⟨rfl, rfl⟩ := hh
    rw [rdS_ext hc q]; rfl
  cases k <;> simp only [decK] at *
  case bool => exact c1 (fun h r => ⟨rfl, rfl, rfl⟩) h
  case uuid => exact c1 (fun h r => ⟨rfl, rfl, rfl⟩) h
  case i8 => exact c2 h
  case i16 => exact c2 h
  case i32 => exact c2 h
  case i64 => exact c2 h
  case u16 => exact c3 h
  case f64 => exact c3 h
  case str =>
    obtain ⟨⟨l, r0⟩, hc, h⟩ := Option.bind_eq_some_iff.1 h
    rw [rdC_ext hc q]
    simp only [Option.bind_some] at *
    split at h
    · rename_i h1
      rw [if_pos h1]
      simp at h
      obtain ⟨rfl, rfl⟩ := h
      rfl
    · rename_i h1
      rw [if_neg h1]
      exact c4 h
  case pstr =>
    obtain ⟨⟨l, r0⟩, hc, h⟩ := Option.bind_eq_some_iff.1 h
    rw [rdC_ext hc q]
    simp only [Option.bind_some] at *
    split at h
    · rename_i h1
      rw [if_pos h1]
      simp at h
      obtain ⟨rfl, rfl⟩ := h
      rfl
    · rename_i h1
      rw [if_neg h1]
      exact c4 h
  case bytes =>
    obtain ⟨⟨l, r0⟩, hc, h⟩ := Option.bind_eq_some_iff.1 h
    rw [rdC_ext hc q]
    simp only [Option.bind_some] at *
    split at h
    · rename_i h1
      rw [if_pos h1]
      simp at h
      obtain ⟨rfl, rfl⟩ := h
      rfl
    · rename_i h1
      rw [if_neg h1]
      split at h
      · rename_i h2
        rw [if_pos h2]
        simp at h
        obtain ⟨rfl, rfl⟩ := h
        rfl
      · rename_i h2
        rw [if_neg h2]
        exact c4 h
theorem decK_ok {flex : Bool} {k : K} {null : Bool} {v : V} {p r : B} (h : decK flex k null p = some (v, r)) : okK flex k null v := by
  have c2 : ∀ {s : Nat}, (s = 1 ∨ s = 2 ∨ s = 4 ∨ s = 8) → (rdI s p).map (fun (n, r) => (V.i n, r)) = some (v, r) → ∃ n, v = .i n ∧ inI s n := by
    intro s hs h
    obtain ⟨⟨a, b⟩, hc, hh⟩ := Option.map_eq_some_iff.1 h
    simp at hh
    obtain ⟨rfl, rfl⟩ := hh
    exact ⟨_, rfl, rdI_in hs hc⟩
  have c3 : ∀ {s : Nat}, (rdU s p).map (fun (n, r) => (V.i n, r)) = some (v, r) → ∃ n : Nat, v = .i n ∧ n < 256 ^ s := by
    intro s h
    obtain ⟨⟨a, b⟩, hc, hh⟩ := Option.map_eq_some_iff.1 h
    simp at hh
    obtain ⟨rfl, rfl⟩ := hh
    unfold rdU at hc
    obtain ⟨⟨x, y⟩, hc2, hh2⟩ := Option.map_eq_some_iff.1 hc
    simp at hh2
    obtain ⟨e1, e2⟩ := hh2
    refine ⟨nat x, by rw [e1], ?_⟩
    have := nat_lt x
    rwa [(cut_len hc2).1] at this
  cases k <;> simp only [decK] at h
  case bool =>
    obtain ⟨⟨a, b⟩, hc, hh⟩ := Option.map_eq_some_iff.1 h
    simp at hh
    obtain ⟨rfl, rfl⟩ := hh
    trivial
  case uuid =>
    obtain ⟨⟨a, b⟩, hc, hh⟩ := Option.map_eq_some_iff.1 h
    simp at hh
    obtain ⟨rfl, rfl⟩ := hh
    exact (cut_len hc).1
  case i8 => obtain ⟨n, rfl, hn⟩ := c2 (.inl rfl) h; exact hn
  case i16 => obtain ⟨n, rfl, hn⟩ := c2 (.inr (.inl rfl)) h; exact hn
  case i32 => obtain ⟨n, rfl, hn⟩ := c2 (.inr (.inr (.inl rfl))) h; exact hn
  case i64 => obtain ⟨n, rfl, hn⟩ := c2 (.inr (.inr (.inr rfl))) h; exact hn
  case u16 => obtain ⟨n, rfl, hn⟩ := c3 h; simp only [okK]; omega
  case f64 => obtain ⟨n, rfl, hn⟩ := c3 h; simp only [okK]; omega
  case str =>
    obtain ⟨⟨l, r0⟩, hc, h⟩ := Option.bind_eq_some_iff.1 h
    simp only at h
    split at h
    · rename_i h1
      simp at h
      obtain ⟨rfl, rfl⟩ := h
      simp at h1
      exact h1.1
    · obtain ⟨⟨a, b⟩, hs, hh⟩ := Option.map_eq_some_iff.1 h
      simp at hh
      obtain ⟨rfl, rfl⟩ := hh
      have hl := (rdS_len hs).1
      simp only [okK]
      cases flex with
      | true =>
        simp only [rdC, if_true] at hc
        obtain ⟨⟨m, y⟩, hv, hh⟩ := Option.map_eq_some_iff.1 hc
        simp at hh
        have := rdV_lt hv
        simp only [if_true]; omega
      | false =>
        simp only [rdC] at hc
        have := rdI_in (.inr (.inl rfl)) (show rdI 2 p = some (l, r0) by simpa using hc)
        simp [inI] at this
        simp; omega
  case pstr =>
    obtain ⟨⟨l, r0⟩, hc, h⟩ := Option.bind_eq_some_iff.1 h
    simp only at h
    split at h
    · rename_i h1
      simp at h
      obtain ⟨rfl, rfl⟩ := h
      simp at h1
      exact h1.1
    · obtain ⟨⟨a, b⟩, hs, hh⟩ := Option.map_eq_some_iff.1 h
      simp at hh
      obtain ⟨rfl, rfl⟩ := hh
      have hl := (rdS_len hs).1
      simp only [okK]
      cases flex with
      | true =>
        simp only [rdC, if_true] at hc
        obtain ⟨⟨m, y⟩, hv, hh⟩ := Option.map_eq_some_iff.1 hc
        simp at hh
        have := rdV_lt hv
        simp only [if_true]; omega
      | false =>
        simp only [rdC] at hc
        have := rdI_in (.inr (.inl rfl)) (show rdI 2 p = some (l, r0) by simpa using hc)
        simp [inI] at this
        simp; omega
  case bytes =>
    obtain ⟨⟨l, r0⟩, hc, h⟩ := Option.bind_eq_some_iff.1 h
    simp only at h
    split at h
    · rename_i h1
      simp at h
      obtain ⟨rfl, rfl⟩ := h
      simp at h1
      exact h1.1
    · split at h
      · simp at h
        obtain ⟨rfl, rfl⟩ := h
        simp only [okK]
        cases flex <;> simp
      · obtain ⟨⟨a, b⟩, hs, hh⟩ := Option.map_eq_some_iff.1 h
        simp at hh
        obtain ⟨rfl, rfl⟩ := hh
        have hl := (rdS_len hs).1
        simp only [okK]
        cases flex with
        | true =>
          simp only [rdC, if_true] at hc
          obtain ⟨⟨m, y⟩, hv, hh⟩ := Option.map_eq_some_iff.1 hc
          simp at hh
          have := rdV_lt hv
          simp only [if_true]; omega
        | false =>
          simp only [rdC] at hc
          have := rdI_in (.inr (.inr (.inl rfl))) (show rdI 4 p = some (l, r0) by simpa using hc)
          simp [inI] at this
          simp; omega
end Go.Proofs.YtiifcfngbbhgoagDoor.Wire

