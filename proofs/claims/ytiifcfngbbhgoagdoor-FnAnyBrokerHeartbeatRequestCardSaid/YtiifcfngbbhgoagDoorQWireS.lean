/-
  WHAT THE REFERENCE WRITES of a tree, field by field, is what a format says of a value.
-/
import Derived.Test.YtiifcfngbbhgoagDoorQWireB
set_option linter.constructorNameAsVariable false
set_option linter.unusedVariables false
set_option linter.unusedSimpArgs false
namespace Go.Proofs.YtiifcfngbbhgoagDoor.Wire
inductive Fdl where
  | nil
  | fld (kind : Nat) (frm to null tag dflt : Int) (of : Nat) (sub rest : Fdl)
  deriving DecidableEq
inductive Tr where
  | mk (n : Int) (s : B) (null : Bool) (l : List Tr) (u : List (Nat × B))
def Tr.n : Tr → Int | .mk n _ _ _ _ => n
def Tr.s : Tr → B | .mk _ s _ _ _ => s
def Tr.null : Tr → Bool | .mk _ _ b _ _ => b
def Tr.l : Tr → List Tr | .mk _ _ _ l _ => l
def Tr.u : Tr → List (Nat × B) | .mk _ _ _ _ u => u
def Tr.zero : Tr := .mk 0 [] false [] []
def Tr.at (t : Tr) (i : Nat) : Tr := t.l.getD i .zero
inductive Tr.Fine : Tr → Prop
  | mk {n : Int} {s : B} {b : Bool} {l : List Tr} {u : List (Nat × B)} (hu : ∀ x ∈ u, x.1 < 2 ^ 32) (hl : ∀ x ∈ l, Tr.Fine x) : Tr.Fine (.mk n s b l u)
theorem Tr.Fine.zero : Tr.Fine .zero := .mk (fun x h => by cases h) (fun x h => by cases h)
theorem Tr.Fine.l {t : Tr} (h : t.Fine) : ∀ x ∈ t.l, x.Fine := by cases h; assumption
theorem Tr.Fine.u {t : Tr} (h : t.Fine) : ∀ x ∈ t.u, x.1 < 2 ^ 32 := by cases h; assumption
theorem Tr.Fine.at {t : Tr} (h : t.Fine) (i : Nat) : (t.at i).Fine := by
  unfold Tr.at
  rw [List.getD_eq_getElem?_getD]
  cases hx : t.l[i]? with
  | none => exact .zero
  | some x => exact h.l x (List.mem_of_getElem? hx)
def hasS (frm to : Int) (ver : Nat) : Bool := decide (frm ≤ ver) && (decide (to < 0) || decide ((ver : Int) ≤ to))
def nulS (null : Int) (ver : Nat) : Bool := decide (0 ≤ null) && decide (null ≤ ver)
def kindK : Nat → K
  | 0 => .bool
  | 1 => .i8
  | 2 => .i16
  | 3 => .i32
  | 4 => .i64
  | 5 => .u16
  | 6 => .f64
  | 7 => .uuid
  | 8 => .str
  | 9 => .bytes
  | _ => .i64
def whole (b : B) : B := b.take 32767
def leafS (flex : Bool) (k : K) (null : Bool) (t : Tr) : B :=
  match k with
  | .bool => [if t.n % 2 = 1 then 1 else 0]
  | .uuid => (t.s ++ List.replicate 16 0).take 16
  | .str | .pstr => if null then cnt0 flex 2 else cnt flex 2 (whole t.s).length ++ whole t.s
  | .bytes => if null then cnt0 flex 4 else cnt flex 4 (whole t.s).length ++ whole t.s
  | k => be k.size t.n
def putF (k : Nat) (v : B) : List (Nat × B) → List (Nat × B)
  | [] => [(k, v)]
  | (k', v') :: r => if k < k' then (k, v) :: (k', v') :: r else if k = k' then (k', v') :: r else (k', v') :: putF k v r
def unkS (l : List (Nat × B)) : List (Nat × B) := (l.take 32767).foldl (fun a t => putF t.1 t.2 a) []
def tagsW (l : List (Nat × B)) : List (Nat × B) := (unkS l).map fun t => (t.1, whole t.2)
def tlS (flex : Bool) (t : Tr) : B := if flex then uv (tagsW t.u).length ++ encT (tagsW t.u) else []
def bodyS (ver : Nat) (flex : Bool) : Fdl → Nat → Tr → B
  | .nil, _, _ => []
  | .fld kind frm to null _ _ of sub rest, i, t =>
    (if hasS frm to ver then
      (if kind = 11 then
        (if (t.at i).null && nulS null ver then cnt0 flex 4 else
          cnt flex 4 ((t.at i).l.take 32767).length ++ ((t.at i).l.take 32767).flatMap fun x => if of = 10 then bodyS ver flex sub 0 x ++ tlS flex x else leafS flex (kindK of) false x)
      else if kind = 10 then bodyS ver flex sub 0 (t.at i) ++ tlS flex (t.at i)
      else leafS flex (kindK kind) ((t.at i).null && nulS null ver) (t.at i))
    else []) ++ bodyS ver flex rest (i + 1) t
def partS (ver : Nat) (flex : Bool) (fd : Fdl) (t : Tr) : B := bodyS ver flex fd 0 t ++ tlS flex t
def tlF (flex : Bool) (r : F) : F := if flex then .tags 0 r else r
def fmtS (ver : Nat) (flex : Bool) : Fdl → F → F
  | .nil, r => r
  | .fld kind frm to null _ _ of sub rest, r =>
    if hasS frm to ver then
      (if kind = 11 then .list 0 0 (nulS null ver) (if of = 10 then fmtS ver flex sub (tlF flex .nil) else .leaf 0 (kindK of) false .nil) (fmtS ver flex rest r)
      else if kind = 10 then fmtS ver flex sub (tlF flex (fmtS ver flex rest r))
      else .leaf 0 (kindK kind) (nulS null ver) (fmtS ver flex rest r))
    else fmtS ver flex rest r
def fmtP (ver : Nat) (flex : Bool) (fd : Fdl) : F := fmtS ver flex fd (tlF flex .nil)
def leafV (k : K) (null : Bool) (t : Tr) : V :=
  match k with
  | .bool => .b (decide (t.n % 2 = 1))
  | .uuid => .s ((t.s ++ List.replicate 16 0).take 16)
  | .str | .bytes | .pstr => if null then .nul else .s (whole t.s)
  | .u16 => .i (nat (be 2 t.n) : Nat)
  | .f64 => .i (nat (be 8 t.n) : Nat)
  | k => .i (sgn k.size (nat (be k.size t.n)))
def tlV (flex : Bool) (t : Tr) (w : V) : V := if flex then .c (.t (tagsW t.u)) w else w
def valS (ver : Nat) (flex : Bool) : Fdl → Nat → Tr → V → V
  | .nil, _, _, w => w
  | .fld kind frm to null _ _ of sub rest, i, t, w =>
    if hasS frm to ver then
      (if kind = 11 then .c (if (t.at i).null && nulS null ver then .nul else .l (((t.at i).l.take 32767).map fun x => if of = 10 then valS ver flex sub 0 x (tlV flex x .u) else .c (leafV (kindK of) false x) .u)) (valS ver flex rest (i + 1) t w)
      else if kind = 10 then valS ver flex sub 0 (t.at i) (tlV flex (t.at i) (valS ver flex rest (i + 1) t w))
      else .c (leafV (kindK kind) ((t.at i).null && nulS null ver) (t.at i)) (valS ver flex rest (i + 1) t w))
    else valS ver flex rest (i + 1) t w
def valP (ver : Nat) (flex : Bool) (fd : Fdl) (t : Tr) : V := valS ver flex fd 0 t (tlV flex t .u)
theorem putF_ok : ∀ (ts : List (Nat × B)) (m k : Nat) (v : B), okT m ts → m ≤ k → k < 2 ^ 32 → v.length < 2 ^ 32 → okT m (putF k v ts)
  | [], m, k, v, _, h1, h2, h3 => ⟨h1, h2, h3, trivial⟩
  | (k', v') :: r, m, k, v, h, h1, h2, h3 => by
    obtain ⟨a, b, c, d⟩ := h
    unfold putF
    split
    · exact ⟨h1, h2, h3, by omega, b, c, d⟩
    · split
      · exact ⟨a, b, c, d⟩
      · exact ⟨a, b, c, putF_ok r _ k v d (by omega) h2 h3⟩
theorem be_eq1 {m n : Int} (h : m % 256 = n % 256) : be 1 m = be 1 n := by simp [be, h]
theorem be_eq2 {m n : Int} (h : m % 65536 = n % 65536) : be 2 m = be 2 n := by
  have h1 : m / 256 % 256 = n / 256 % 256 := by omega
  have h2 : m % 256 = n % 256 := by omega
  simp [be, h1, h2]
theorem be_eq4 {m n : Int} (h : m % 4294967296 = n % 4294967296) : be 4 m = be 4 n := by
  have h1 : m / 16777216 % 256 = n / 16777216 % 256 := by omega
  have h2 : m / 65536 % 256 = n / 65536 % 256 := by omega
  have h3 : m / 256 % 256 = n / 256 % 256 := by omega
  have h4 : m % 256 = n % 256 := by omega
  simp [be, h1, h2, h3, h4]
theorem be_eq8 {m n : Int} (h : m % 18446744073709551616 = n % 18446744073709551616) : be 8 m = be 8 n := by
  rw [be8, be8, be_eq4 (show m / 4294967296 % 4294967296 = n / 4294967296 % 4294967296 by omega), be_eq4 (show m % 4294967296 = n % 4294967296 by omega)]
theorem enc_leafV (flex : Bool) (k : K) (null : Bool) (t : Tr) : encK flex k (leafV k null t) = leafS flex k null t := by
  cases k
  case bool => simp [encK, leafV, leafS]
  case uuid => rfl
  case str => cases null <;> simp [encK, leafV, leafS]
  case pstr => cases null <;> simp [encK, leafV, leafS]
  case bytes => cases null <;> simp [encK, leafV, leafS]
  case i8 =>
    show be 1 (sgn 1 (nat (be 1 t.n))) = be 1 t.n
    apply be_eq1; have := nat_be1 t.n; unfold sgn; split <;> omega
  case i16 =>
    show be 2 (sgn 2 (nat (be 2 t.n))) = be 2 t.n
    apply be_eq2; have := nat_be2 t.n; unfold sgn; split <;> omega
  case i32 =>
    show be 4 (sgn 4 (nat (be 4 t.n))) = be 4 t.n
    apply be_eq4; have := nat_be4 t.n; unfold sgn; split <;> omega
  case i64 =>
    show be 8 (sgn 8 (nat (be 8 t.n))) = be 8 t.n
    apply be_eq8; have := nat_be8 t.n; unfold sgn; split <;> omega
  case u16 =>
    show be 2 (nat (be 2 t.n) : Nat) = be 2 t.n
    apply be_eq2; have := nat_be2 t.n; omega
  case f64 =>
    show be 8 (nat (be 8 t.n) : Nat) = be 8 t.n
    apply be_eq8; have := nat_be8 t.n; omega
theorem whole_len (b : B) : (whole b).length ≤ 32767 := by unfold whole; rw [List.length_take]; omega
theorem putF_map (k : Nat) (v : B) : ∀ ts : List (Nat × B), (putF k v ts).map (fun t => (t.1, whole t.2)) = putF k (whole v) (ts.map fun t => (t.1, whole t.2))
  | [] => rfl
  | (k', v') :: r => by
    have ih := putF_map k v r
    unfold putF
    simp only [List.map_cons]
    by_cases h1 : k < k'
    · simp [h1]
    · by_cases h2 : k = k'
      · simp [h1, h2]
      · simp [h1, h2, ih]
theorem fold_map : ∀ (l a : List (Nat × B)), (l.foldl (fun a t => putF t.1 t.2 a) a).map (fun t => (t.1, whole t.2)) = l.foldl (fun a t => putF t.1 (whole t.2) a) (a.map fun t => (t.1, whole t.2))
  | [], a => rfl
  | t :: l, a => by
    simp only [List.foldl_cons]
    rw [fold_map l, putF_map]
theorem fold_ok : ∀ (l a : List (Nat × B)), (∀ x ∈ l, x.1 < 2 ^ 32) → okT 0 a → okT 0 (l.foldl (fun a t => putF t.1 (whole t.2) a) a)
  | [], a, _, h => h
  | t :: l, a, hl, h => by
    have := whole_len t.2
    exact fold_ok l _ (fun x hx => hl x (List.mem_cons_of_mem _ hx)) (putF_ok a 0 t.1 (whole t.2) h (Nat.zero_le _) (hl t List.mem_cons_self) (by omega))
end Go.Proofs.YtiifcfngbbhgoagDoor.Wire

namespace Go.Proofs.YtiifcfngbbhgoagDoor.Wire
def bulkU : List (Nat × B) → Nat
  | [] => 0
  | (_, v) :: r => 1 + v.length + bulkU r
mutual
def Tr.bulk : Tr → Nat
  | .mk _ s _ l u => 1 + s.length + bulkL l + bulkU u
def bulkL : List Tr → Nat
  | [] => 0
  | x :: r => x.bulk + bulkL r
end
theorem uv_le5 {n : Nat} (h : n < 34359738368) : (uv n).length ≤ 5 := by
  rw [uv]; split
  · simp
  · rw [uv]; split
    · simp
    · rw [uv]; split
      · simp
      · rw [uv]; split
        · simp
        · rw [uv]; split
          · simp
          · omega
theorem be_len' : ∀ (s : Nat) (n : Int), (be s n).length = s
  | 0, n => rfl
  | s + 1, n => by simp [be, be_len' s n]
theorem cnt_le (flex : Bool) {s n : Nat} (hs : s ≤ 5) (hn : n ≤ 32767) : (cnt flex s n).length ≤ 5 := by
  unfold cnt
  split
  · exact uv_le5 (by omega)
  · rw [be_len']; exact hs
def Fdl.len : Fdl → Nat
  | .nil => 0
  | .fld _ _ _ _ _ _ _ _ r => r.len + 1
def Fdl.plain : Fdl → Bool
  | .nil => true
  | .fld kind _ _ null tag _ of sub rest => decide (tag < 0) && decide (kind ≤ 11) && decide (of ≤ 10) && (decide (kind ≠ 10) || decide (null < 0)) && decide (sub.len ≤ 1000) && sub.plain && rest.plain
def Fdl.cost : Fdl → Nat
  | .nil => 0
  | .fld _ _ _ _ _ _ _ sub rest => sub.cost + 22 + rest.cost
end Go.Proofs.YtiifcfngbbhgoagDoor.Wire

namespace Go.Proofs.YtiifcfngbbhgoagDoor.Wire
def many16 : Nat → B → Option (List B × B)
  | 0, bs => some ([], bs)
  | n + 1, bs => (cut 16 bs).bind fun (h, r) => (many16 n r).map fun (us, r) => (h :: us, r)
def decUs (bs : B) : Option (Int × List B) := (rdL true bs).bind fun (l, r) => (many16 l.toNat r).map fun (us, _) => (l, us)
def encUs (us : List B) : B := uv (us.length + 1) ++ us.flatten
structure Hs where
  o : List B
  k : Option (List B)
  ts : List (Nat × B)
def stepU (key : Nat) (h : B) (s : Hs) : Option Hs :=
  if key = 0 then (decUs h).map fun (_, us) => { s with o := us }
  else if key = 1 then (decUs h).map fun (l, us) => { s with k := if l < 0 ∧ s.k.isNone = true then none else some us }
  else some { s with ts := put key h s.ts }
def decG : Nat → Hs → B → Option (Hs × B)
  | 0, s, bs => some (s, bs)
  | n + 1, s, bs => (rdV bs).bind fun (k, r) => (rdV r).bind fun (l, r) => (cut l r).bind fun (h, r) => (stepU k h s).bind fun s => decG n s r
def decH (bs : B) : Option Hs := (rdV bs).bind fun (n, r) => (decG n ⟨[], none, []⟩ r).map (·.1)
def Hs.n (s : Hs) : Nat := (if s.o = [] then 0 else 1) + ((if s.k.isSome = true then 1 else 0) + s.ts.length)
def tagB (k : Nat) (h : B) : B := uv k ++ (uv h.length ++ h)
def oB (us : List B) : B := if us = [] then [] else tagB 0 (encUs us)
def kB : Option (List B) → B
  | some us => tagB 1 (encUs us)
  | none => []
def encH (s : Hs) : B := uv s.n ++ (oB s.o ++ (kB s.k ++ encT s.ts))
def All16 (us : List B) : Prop := ∀ u ∈ us, u.length = 16
structure Hs.Ok (s : Hs) : Prop where
  o16 : All16 s.o
  k16 : ∀ us, s.k = some us → All16 us
  ts : okT 2 s.ts
def wT : List (Nat × B) → Nat
  | [] => 0
  | t :: r => t.2.length + 2 + wT r
def Hs.w (s : Hs) : Nat := 16 * s.o.length + (16 * (s.k.getD []).length + wT s.ts)
theorem hb_uvd : ∀ (k : Nat) {p r : B} {n : Nat}, uvd k p = some (n, r) → r.length < p.length
  | _, [], _, _, h => by unfold uvd at h; cases h
  | 0, b :: p, r, n, h => by
    unfold uvd at h
    split at h
    · simp at h; obtain ⟨_, rfl⟩ := h; simp
    · cases h
  | k + 1, b :: p, r, n, h => by
    unfold uvd at h
    split at h
    · simp at h; obtain ⟨_, rfl⟩ := h; simp
    · obtain ⟨⟨m, r'⟩, hm, hh⟩ := Option.map_eq_some_iff.1 h
      simp at hh
      obtain ⟨_, rfl⟩ := hh
      have := hb_uvd k hm
      simp; omega
theorem hb_rdV {p r : B} {n : Nat} (h : rdV p = some (n, r)) : r.length < p.length := hb_uvd 4 h
theorem hb_rdL {p r : B} {l : Int} (h : rdL true p = some (l, r)) : r.length < p.length := by
  unfold rdL at h
  simp only [if_true] at h
  obtain ⟨⟨l', r'⟩, h1, h2⟩ := Option.bind_eq_some_iff.1 h
  obtain ⟨⟨n, r2⟩, h3, h4⟩ := Option.map_eq_some_iff.1 h1
  simp only at h2
  split at h2
  · cases h2
  · simp at h2 h4
    obtain ⟨rfl, rfl⟩ := h2
    obtain ⟨_, rfl⟩ := h4
    exact hb_rdV h3
theorem many16_len : ∀ (n : Nat) {bs r : B} {us : List B}, many16 n bs = some (us, r) → us.length = n ∧ All16 us ∧ 16 * n + r.length = bs.length
  | 0, bs, r, us, h => by
    simp [many16] at h
    obtain ⟨rfl, rfl⟩ := h
    exact ⟨rfl, fun u hu => (by cases hu), by simp⟩
  | n + 1, bs, r, us, h => by
    simp only [many16] at h
    obtain ⟨⟨h1, r1⟩, hc, h2⟩ := Option.bind_eq_some_iff.1 h
    obtain ⟨⟨us', r'⟩, hm, hh⟩ := Option.map_eq_some_iff.1 h2
    simp at hh
    obtain ⟨rfl, rfl⟩ := hh
    obtain ⟨q1, q2, q3⟩ := many16_len n hm
    dsimp only at q1 q2 q3
    obtain ⟨c1, rfl⟩ := cut_len hc
    refine ⟨by simp [q1], fun u hu => ?_, by simp; omega⟩
    rcases List.mem_cons.1 hu with rfl | hu
    · exact c1
    · exact q2 u hu
theorem many16_flat : ∀ (us : List B) (r : B), All16 us → many16 us.length (us.flatten ++ r) = some (us, r)
  | [], r, _ => rfl
  | u :: us, r, h => by
    have ih := many16_flat us r (fun x hx => h x (List.mem_cons_of_mem _ hx))
    simp only [List.length_cons, many16, List.flatten_cons, List.append_assoc]
    rw [cut_app (h u List.mem_cons_self)]
    simp only [Option.bind_some, ih, Option.map_some]
theorem flat16 : ∀ (us : List B), All16 us → us.flatten.length = 16 * us.length
  | [], _ => rfl
  | u :: us, h => by
    have ih := flat16 us (fun x hx => h x (List.mem_cons_of_mem _ hx))
    have := h u List.mem_cons_self
    simp only [List.flatten_cons, List.length_append, List.length_cons]
    omega
theorem decUs_len {h : B} {l : Int} {us : List B} (hd : decUs h = some (l, us)) : us.length = l.toNat ∧ All16 us ∧ 16 * us.length < h.length := by
  unfold decUs at hd
  obtain ⟨⟨l', r⟩, h1, h2⟩ := Option.bind_eq_some_iff.1 hd
  obtain ⟨⟨us', r'⟩, hm, hh⟩ := Option.map_eq_some_iff.1 h2
  simp at hh
  obtain ⟨rfl, rfl⟩ := hh
  obtain ⟨q1, q2, q3⟩ := many16_len _ hm
  have := hb_rdL h1
  exact ⟨q1, q2, by omega⟩
theorem decUs_encUs {us : List B} (h : All16 us) (hl : us.length < 2 ^ 31) : decUs (encUs us) = some ((us.length : Int), us) := by
  unfold decUs encUs
  have h1 := rdL_cnt (flex := true) (n := us.length) (r := us.flatten) hl (by rw [flat16 us h]; omega)
  rw [show cnt true 4 us.length = uv (us.length + 1) from rfl] at h1
  rw [h1]
  have h2 := many16_flat us [] h
  rw [List.append_nil] at h2
  simp only [Option.bind_some, Int.toNat_natCast, h2, Option.map_some]
theorem wT_put (k : Nat) (v : B) : ∀ ts : List (Nat × B), wT (put k v ts) ≤ wT ts + (v.length + 2)
  | [] => by simp [put, wT]
  | (k', v') :: r => by
    have ih := wT_put k v r
    unfold put
    split
    · simp only [wT]; omega
    · split
      · simp only [wT]; omega
      · simp only [wT]; omega
theorem stepU_ok {k : Nat} {h : B} {s s' : Hs} (hd : stepU k h s = some s') (ho : s.Ok) (hk : k < 2 ^ 32) (hh : h.length < 2 ^ 32) : s'.Ok ∧ s'.w ≤ s.w + (h.length + 2) := by
  unfold stepU at hd
  split at hd
  · obtain ⟨⟨l, us⟩, h1, rfl⟩ := Option.map_eq_some_iff.1 hd
    obtain ⟨_, q2, q3⟩ := decUs_len h1
    exact ⟨⟨q2, ho.k16, ho.ts⟩, by simp only [Hs.w]; omega⟩
  · split at hd
    · obtain ⟨⟨l, us⟩, h1, rfl⟩ := Option.map_eq_some_iff.1 hd
      obtain ⟨_, q2, q3⟩ := decUs_len h1
      refine ⟨⟨ho.o16, fun us' e => ?_, ho.ts⟩, ?_⟩
      · simp only at e
        split at e
        · cases e
        · cases e; exact q2
      · simp only [Hs.w]
        split <;> simp <;> omega
    · simp at hd
      subst hd
      refine ⟨⟨ho.o16, ho.k16, okT_put s.ts 2 k h ho.ts (by omega) hk hh⟩, ?_⟩
      have := wT_put k h s.ts
      simp only [Hs.w]; omega
theorem decG_ok : ∀ (n : Nat) {s s' : Hs} {bs r : B}, decG n s bs = some (s', r) → s.Ok → bs.length < 2 ^ 32 → s'.Ok ∧ s'.w + r.length ≤ s.w + bs.length
  | 0, s, s', bs, r, h, ho, _ => by
    simp [decG] at h
    obtain ⟨rfl, rfl⟩ := h
    exact ⟨ho, Nat.le_refl _⟩
  | n + 1, s, s', bs, r, h, ho, hb => by
    simp only [decG] at h
    obtain ⟨⟨k, r1⟩, h1, g1⟩ := Option.bind_eq_some_iff.1 h
    obtain ⟨⟨l, r2⟩, h2, g2⟩ := Option.bind_eq_some_iff.1 g1
    obtain ⟨⟨hd, r3⟩, h3, g3⟩ := Option.bind_eq_some_iff.1 g2
    obtain ⟨s1, h4, g4⟩ := Option.bind_eq_some_iff.1 g3
    clear h g1 g2 g3
    dsimp only at h2
    dsimp only at h3
    dsimp only at h4
    dsimp only at g4
    have a1 := hb_rdV h1
    have a2 := hb_rdV h2
    obtain ⟨a3, rfl⟩ := cut_len h3
    rw [List.length_append] at a2
    obtain ⟨o1, w1⟩ := stepU_ok h4 ho (rdV_lt h1) (by omega)
    obtain ⟨o2, w2⟩ := decG_ok n g4 o1 (by omega)
    exact ⟨o2, by omega⟩
theorem decH_ok {bs : B} {s : Hs} (h : decH bs = some s) (hb : bs.length < 2 ^ 32) : s.Ok ∧ s.w < bs.length := by
  unfold decH at h
  obtain ⟨⟨n, r⟩, h1, h2⟩ := Option.bind_eq_some_iff.1 h
  obtain ⟨⟨s', r'⟩, h3, rfl⟩ := Option.map_eq_some_iff.1 h2
  have a1 := hb_rdV h1
  obtain ⟨o, w⟩ := decG_ok n h3 ⟨fun u hu => (by cases hu), fun us e => (by cases e), trivial⟩ (by omega)
  exact ⟨o, by simp [Hs.w, wT] at w ⊢; omega⟩
theorem decG_tag {n k : Nat} {h r : B} {s : Hs} (hk : k < 2 ^ 32) (hl : h.length < 2 ^ 32) : decG (n + 1) s (tagB k h ++ r) = (stepU k h s).bind fun s => decG n s r := by
  simp only [decG, tagB, List.append_assoc]
  rw [rdV_uv hk]
  simp only [Option.bind_some]
  rw [rdV_uv hl]
  simp only [Option.bind_some]
  rw [cut_app rfl]
  rfl
theorem okT_up : ∀ (ts : List (Nat × B)) {m m' : Nat}, m' ≤ m → okT m ts → okT m' ts
  | [], _, _, _, _ => trivial
  | (k, v) :: r, m, m', h, ⟨h1, h2, h3, h4⟩ => ⟨by omega, h2, h3, h4⟩
theorem okT_ge : ∀ (ts : List (Nat × B)) {m : Nat}, okT m ts → ∀ t ∈ ts, m ≤ t.1 ∧ t.1 < 2 ^ 32 ∧ t.2.length < 2 ^ 32
  | [], _, _, t, ht => by cases ht
  | (k, v) :: r, m, ⟨h1, h2, h3, h4⟩, t, ht => by
    rcases List.mem_cons.1 ht with rfl | ht
    · exact ⟨h1, h2, h3⟩
    · have := okT_ge r h4 t ht
      exact ⟨by omega, this.2⟩
theorem decG_tags : ∀ (us ts : List (Nat × B)) (o : List B) (k : Option (List B)) (r : B), okT 2 (ts ++ us) → decG us.length ⟨o, k, ts⟩ (encT us ++ r) = some (⟨o, k, ts ++ us⟩, r)
  | [], ts, o, k, r, _ => by simp [decG, encT]
  | (q, v) :: us, ts, o, k, r, h => by
    obtain ⟨_, h2, _⟩ := okT_app ts 2 q v us h
    have hm := okT_ge _ h (q, v) (by simp)
    have e : encT ((q, v) :: us) ++ r = tagB q v ++ (encT us ++ r) := by simp [encT, tagB, List.append_assoc]
    rw [e, List.length_cons, decG_tag hm.2.1 hm.2.2]
    have h1 : stepU q v ⟨o, k, ts⟩ = some ⟨o, k, ts ++ [(q, v)]⟩ := by
      unfold stepU
      have := hm.1
      simp only at this
      rw [if_neg (by omega), if_neg (by omega), put_last ts 2 q v (okT_left _ _ _ h) h2]
    rw [h1]
    simp only [Option.bind_some]
    have := decG_tags us (ts ++ [(q, v)]) o k r (by simpa using h)
    rw [this]
    simp
theorem wT_len : ∀ ts : List (Nat × B), 2 * ts.length ≤ wT ts
  | [] => by simp [wT]
  | t :: r => by have := wT_len r; simp only [wT, List.length_cons]; omega
theorem decH_encH {s : Hs} (h : s.Ok) (hw : s.w ≤ 1000000) : decH (encH s) = some s := by
  obtain ⟨o, k, ts⟩ := s
  have hwt := wT_len ts
  simp only [Hs.w] at hw
  unfold decH encH
  have hn : (Hs.mk o k ts).n < 2 ^ 32 := by simp only [Hs.n]; split <;> split <;> omega
  rw [rdV_uv hn]
  simp only [Option.bind_some]
  have h3 : ∀ o' : List B, ∀ k' : Option (List B), decG ts.length ⟨o', k', []⟩ (encT ts) = some (⟨o', k', ts⟩, []) := fun o' k' => by
    have := decG_tags ts [] o' k' [] (by simpa using h.ts)
    simpa using this
  have eU : ∀ us : List B, All16 us → us.length ≤ 1000000 → (encUs us).length < 2 ^ 32 := fun us ha hl => by
    unfold encUs
    have := uv_le5 (n := us.length + 1) (by omega)
    rw [List.length_append, flat16 us ha]; omega
  have h2 : ∀ o' : List B, decG ((if k.isSome = true then 1 else 0) + ts.length) ⟨o', none, []⟩ (kB k ++ encT ts) = some (⟨o', k, ts⟩, []) := fun o' => by
    cases k with
    | none => simp only [kB, Option.isSome_none, Bool.false_eq_true, if_false, Nat.zero_add, List.nil_append]; exact h3 o' none
    | some us =>
      have hl : us.length ≤ 1000000 := by simp at hw; omega
      simp only [kB, Option.isSome_some, if_true]
      rw [Nat.add_comm, decG_tag (by omega) (eU us (h.k16 us rfl) hl)]
      have : stepU 1 (encUs us) ⟨o', none, []⟩ = some ⟨o', some us, []⟩ := by
        unfold stepU
        rw [if_neg (by omega), if_pos rfl, decUs_encUs (h.k16 us rfl) (by omega)]
        simp
      rw [this]
      simp only [Option.bind_some]
      exact h3 o' (some us)
  have h1 : decG (Hs.mk o k ts).n ⟨[], none, []⟩ (oB o ++ (kB k ++ encT ts)) = some (⟨o, k, ts⟩, []) := by
    simp only [Hs.n, oB]
    by_cases ho : o = []
    · subst ho
      simp only [if_true, Nat.zero_add, List.nil_append]
      exact h2 []
    · rw [if_neg ho, if_neg ho, Nat.add_comm 1, decG_tag (by omega) (eU o h.o16 (show o.length ≤ 1000000 by omega))]
      have : stepU 0 (encUs o) ⟨[], none, []⟩ = some ⟨o, none, []⟩ := by
        unfold stepU
        rw [if_pos rfl, decUs_encUs h.o16 (show o.length < 2 ^ 31 by omega)]
        rfl
      rw [this]
      simp only [Option.bind_some]
      exact h2 o
  rw [h1]
  rfl
theorem encT_wT : ∀ ts : List (Nat × B), okT 0 ts → (encT ts).length ≤ 5 * wT ts
  | [], _ => by simp [encT]
  | (k, v) :: r, ⟨_, h2, h3, h4⟩ => by
    have ih := encT_wT r (okT_up r (by omega) h4)
    have l1 := uv_le5 (n := k) (by omega)
    have l2 := uv_le5 (n := v.length) (by omega)
    have e : encT ((k, v) :: r) = uv k ++ (uv v.length ++ v) ++ encT r := by simp [encT]
    rw [e]
    simp only [List.length_append, wT]
    omega
theorem encUs_len {us : List B} (h : All16 us) (hl : us.length ≤ 1000000) : (encUs us).length ≤ 5 + 16 * us.length := by
  unfold encUs
  have := uv_le5 (n := us.length + 1) (by omega)
  rw [List.length_append, flat16 us h]; omega
theorem tagB_len {k : Nat} {h : B} (hk : k ≤ 1) (hl : h.length ≤ 100000000) : (tagB k h).length ≤ 10 + h.length := by
  unfold tagB
  have l1 := uv_le5 (n := k) (by omega)
  have l2 := uv_le5 (n := h.length) (by omega)
  simp only [List.length_append]; omega
theorem encH_len {s : Hs} (h : s.Ok) (hw : s.w ≤ 1000000) : (encH s).length ≤ 50 + 5 * s.w := by
  obtain ⟨o, k, ts⟩ := s
  have hwt := wT_len ts
  have ht := encT_wT ts (okT_up ts (by omega) h.ts)
  simp only [Hs.w] at hw ⊢
  unfold encH
  have hn : (Hs.mk o k ts).n ≤ 1000000 := by simp only [Hs.n]; split <;> split <;> omega
  have l0 := uv_le5 (n := (Hs.mk o k ts).n) (by omega)
  have l1 : (oB o).length ≤ 15 + 16 * o.length := by
    unfold oB
    split
    · simp
    · have a := encUs_len (us := o) h.o16 (by omega)
      have b := tagB_len (k := 0) (h := encUs o) (by omega) (by omega)
      omega
  have l2 : (kB k).length ≤ 15 + 16 * (k.getD []).length := by
    cases k with
    | none => simp [kB]
    | some us =>
      simp only [Option.getD_some] at hw ⊢
      have a := encUs_len (us := us) (h.k16 us rfl) (by omega)
      have b := tagB_len (k := 1) (h := encUs us) (by omega) (by omega)
      simp only [kB]; omega
  simp only [List.length_append]
  omega
def fP : F := .leaf 1 .i32 false (.leaf 2 .i64 false (.leaf 3 .i64 false (.leaf 4 .bool false (.leaf 5 .bool false .nil))))
def decW (bs : B) : Option (V × Hs) := (dec true fP bs).bind fun (v, r) => (decH r).map fun s => (v, s)
def encW (v : V) (s : Hs) : B := enc true fP v ++ encH s
theorem hb_rdI {s : Nat} {p r : B} {n : Int} (h : rdI s p = some (n, r)) : r.length ≤ p.length := by
  obtain ⟨⟨hd, r'⟩, hc, hh⟩ := Option.map_eq_some_iff.1 h
  simp at hh
  obtain ⟨_, rfl⟩ := hh
  obtain ⟨_, rfl⟩ := cut_len hc
  simp
theorem decI_len {k : K} {p r : B} {v : V} (hk : k = .i32 ∨ k = .i64 ∨ k = .bool) (h : decK true k false p = some (v, r)) : r.length ≤ p.length := by
  rcases hk with rfl | rfl | rfl
  · obtain ⟨⟨n, r'⟩, hc, hh⟩ := Option.map_eq_some_iff.1 h
    simp at hh; obtain ⟨_, rfl⟩ := hh
    exact hb_rdI hc
  · obtain ⟨⟨n, r'⟩, hc, hh⟩ := Option.map_eq_some_iff.1 h
    simp at hh; obtain ⟨_, rfl⟩ := hh
    exact hb_rdI hc
  · obtain ⟨⟨n, r'⟩, hc, hh⟩ := Option.map_eq_some_iff.1 h
    simp at hh; obtain ⟨_, rfl⟩ := hh
    obtain ⟨_, rfl⟩ := cut_len hc
    simp
theorem dec_fP {p r : B} {v : V} (h : dec true fP p = some (v, r)) : r.length ≤ p.length := by
  have leaf : ∀ {o : Nat} {k : K} {f : F} {p r : B} {v : V}, (k = .i32 ∨ k = .i64 ∨ k = .bool) → (∀ {p r : B} {v : V}, dec true f p = some (v, r) → r.length ≤ p.length) → dec true (.leaf o k false f) p = some (v, r) → r.length ≤ p.length := by
    intro o k f p r v hk hf h
    simp only [dec] at h
    obtain ⟨⟨x, r1⟩, h1, h⟩ := Option.bind_eq_some_iff.1 h
    obtain ⟨⟨y, r2⟩, h2, hh⟩ := Option.map_eq_some_iff.1 h
    simp at hh
    obtain ⟨_, rfl⟩ := hh
    have a := decI_len hk h1
    have b := hf h2
    dsimp only at b
    omega
  refine leaf (.inl rfl) (leaf (.inr (.inl rfl)) (leaf (.inr (.inl rfl)) (leaf (.inr (.inr rfl)) (leaf (.inr (.inr rfl)) ?_)))) h
  intro p r v h
  simp [dec] at h
  rw [h.2]; omega
theorem encI_len {k : K} {v : V} (hk : k = .i32 ∨ k = .i64 ∨ k = .bool) (h : okK true k false v) : (encK true k v).length = k.size := by
  rcases hk with rfl | rfl | rfl <;> cases v <;> first | (cases h; done) | rfl | exact be_length _ _
theorem enc_leaf {o : Nat} {k : K} {f : F} {v : V} {m : Nat} (hk : k = .i32 ∨ k = .i64 ∨ k = .bool) (hf : ∀ w, ok true f w → (enc true f w).length = m) (h : ok true (.leaf o k false f) v) : (enc true (.leaf o k false f) v).length = k.size + m := by
  cases v with
  | c a w =>
    obtain ⟨h1, h2⟩ := h
    simp only [enc, List.length_append]
    rw [encI_len hk h1, hf w h2]
  | _ => cases h
theorem enc_fP {v : V} (h : ok true fP v) : (enc true fP v).length = 22 := by
  have h0 : ∀ w, ok true F.nil w → (enc true F.nil w).length = 0 := fun w _ => by simp [enc]
  exact enc_leaf (m := 18) (.inl rfl) (fun w hw => enc_leaf (m := 10) (.inr (.inl rfl)) (fun w hw => enc_leaf (m := 2) (.inr (.inl rfl)) (fun w hw => enc_leaf (m := 1) (.inr (.inr rfl)) (fun w hw => enc_leaf (m := 0) (.inr (.inr rfl)) h0 hw) hw) hw) hw) h
theorem decW_again {bs : B} {v : V} {s : Hs} (h : decW bs = some (v, s)) (hb : bs.length ≤ 100000) : s.Ok ∧ ok true fP v ∧ s.w ≤ bs.length ∧ (encW v s).length ≤ 72 + 5 * bs.length ∧ decW (encW v s) = some (v, s) := by
  unfold decW at h
  obtain ⟨⟨v', r⟩, h1, h2⟩ := Option.bind_eq_some_iff.1 h
  obtain ⟨s', h3, hh⟩ := Option.map_eq_some_iff.1 h2
  simp at hh
  obtain ⟨rfl, rfl⟩ := hh
  have a := dec_fP h1
  obtain ⟨o1, w1⟩ := decH_ok h3 (by omega)
  have hv := dec_ok h1
  have l1 := enc_fP hv
  have l2 := encH_len o1 (by omega)
  refine ⟨o1, hv, by omega, by unfold encW; rw [List.length_append]; omega, ?_⟩
  unfold decW encW
  rw [dec_enc (by rfl) hv]
  simp only [Option.bind_some]
  rw [decH_encH o1 (by omega)]
  rfl
end Go.Proofs.YtiifcfngbbhgoagDoor.Wire

