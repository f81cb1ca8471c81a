/-
  WHAT THE REFERENCE WRITES of a tree, field by field, is what a format says of a value.
-/
import Derived.Test.YtiifcfngbbhgoaaGreatDoorQWireB
import Derived.Test.YtiifcfngbbhgoaaGreatDoorQRdStr
import Derived.Test.YtiifcfngbbhgoaaGreatDoorQAxDraw2
set_option linter.constructorNameAsVariable false
set_option linter.unusedVariables false
set_option linter.unusedSimpArgs false
namespace Go.Proofs.YtiifcfngbbhgoaaGreatDoor.Wire
inductive Fdl where
  | nil
  | fld (kind : Nat) (frm to null tag dflt : Int) (of : Nat) (sub rest : Fdl)
  deriving DecidableEq
inductive Tr where
  | mk (n : Int) (s : B) (null : Bool) (l : List Tr) (u : List (Nat × B))
def Tr.n : Tr → Int | .mk n _ _ _ _ => n
def Tr.s : Tr → B | .mk _ s _ _ _ => s
def Tr.null : Tr → Bool | .mk _ _ b _ _ => b
def Tr.l : Tr → List Tr | .mk _ _ _ l _ => l
def Tr.u : Tr → List (Nat × B) | .mk _ _ _ _ u => u
def Tr.zero : Tr := .mk 0 [] false [] []
def Tr.at (t : Tr) (i : Nat) : Tr := t.l.getD i .zero
inductive Tr.Fine : Tr → Prop
  | mk {n : Int} {s : B} {b : Bool} {l : List Tr} {u : List (Nat × B)} (hu : ∀ x ∈ u, x.1 < 2 ^ 32) (hl : ∀ x ∈ l, Tr.Fine x) : Tr.Fine (.mk n s b l u)
theorem Tr.Fine.zero : Tr.Fine .zero := .mk (fun x h => by cases h) (fun x h => by cases h)
theorem Tr.Fine.l {t : Tr} (h : t.Fine) : ∀ x ∈ t.l, x.Fine := by cases h; assumption
theorem Tr.Fine.u {t : Tr} (h : t.Fine) : ∀ x ∈ t.u, x.1 < 2 ^ 32 := by cases h; assumption
theorem Tr.Fine.at {t : Tr} (h : t.Fine) (i : Nat) : (t.at i).Fine := by
  unfold Tr.at
  rw [List.getD_eq_getElem?_getD]
  cases hx : t.l[i]? with
  | none => exact .zero
  | some x => exact h.l x (List.mem_of_getElem? hx)
def hasS (frm to : Int) (ver : Nat) : Bool := decide (frm ≤ ver) && (decide (to < 0) || decide ((ver : Int) ≤ to))
def nulS (null : Int) (ver : Nat) : Bool := decide (0 ≤ null) && decide (null ≤ ver)
def kindK : Nat → K
  | 0 => .bool
  | 1 => .i8
  | 2 => .i16
  | 3 => .i32
  | 4 => .i64
  | 5 => .u16
  | 6 => .f64
  | 7 => .uuid
  | 8 => .str
  | 9 => .bytes
  | _ => .i64
def whole (b : B) : B := b.take 32767
def leafS (flex : Bool) (k : K) (null : Bool) (t : Tr) : B :=
  match k with
  | .bool => [if t.n % 2 = 1 then 1 else 0]
  | .uuid => (t.s ++ List.replicate 16 0).take 16
  | .str | .pstr => if null then cnt0 flex 2 else cnt flex 2 (whole t.s).length ++ whole t.s
  | .bytes => if null then cnt0 flex 4 else cnt flex 4 (whole t.s).length ++ whole t.s
  | k => be k.size t.n
def putF (k : Nat) (v : B) : List (Nat × B) → List (Nat × B)
  | [] => [(k, v)]
  | (k', v') :: r => if k < k' then (k, v) :: (k', v') :: r else if k = k' then (k', v') :: r else (k', v') :: putF k v r
def unkS (l : List (Nat × B)) : List (Nat × B) := (l.take 32767).foldl (fun a t => putF t.1 t.2 a) []
def tagsW (l : List (Nat × B)) : List (Nat × B) := (unkS l).map fun t => (t.1, whole t.2)
def tlS (flex : Bool) (t : Tr) : B := if flex then uv (tagsW t.u).length ++ encT (tagsW t.u) else []
def bodyS (ver : Nat) (flex : Bool) : Fdl → Nat → Tr → B
  | .nil, _, _ => []
  | .fld kind frm to null _ _ of sub rest, i, t =>
    (if hasS frm to ver then
      (if kind = 11 then
        (if (t.at i).null && nulS null ver then cnt0 flex 4 else
          cnt flex 4 ((t.at i).l.take 32767).length ++ ((t.at i).l.take 32767).flatMap fun x => if of = 10 then bodyS ver flex sub 0 x ++ tlS flex x else leafS flex (kindK of) false x)
      else if kind = 10 then bodyS ver flex sub 0 (t.at i) ++ tlS flex (t.at i)
      else leafS flex (kindK kind) ((t.at i).null && nulS null ver) (t.at i))
    else []) ++ bodyS ver flex rest (i + 1) t
def partS (ver : Nat) (flex : Bool) (fd : Fdl) (t : Tr) : B := bodyS ver flex fd 0 t ++ tlS flex t
def tlF (flex : Bool) (r : F) : F := if flex then .tags 0 r else r
def fmtS (ver : Nat) (flex : Bool) : Fdl → F → F
  | .nil, r => r
  | .fld kind frm to null _ _ of sub rest, r =>
    if hasS frm to ver then
      (if kind = 11 then .list 0 0 (nulS null ver) (if of = 10 then fmtS ver flex sub (tlF flex .nil) else .leaf 0 (kindK of) false .nil) (fmtS ver flex rest r)
      else if kind = 10 then fmtS ver flex sub (tlF flex (fmtS ver flex rest r))
      else .leaf 0 (kindK kind) (nulS null ver) (fmtS ver flex rest r))
    else fmtS ver flex rest r
def fmtP (ver : Nat) (flex : Bool) (fd : Fdl) : F := fmtS ver flex fd (tlF flex .nil)
def leafV (k : K) (null : Bool) (t : Tr) : V :=
  match k with
  | .bool => .b (decide (t.n % 2 = 1))
  | .uuid => .s ((t.s ++ List.replicate 16 0).take 16)
  | .str | .bytes | .pstr => if null then .nul else .s (whole t.s)
  | .u16 => .i (nat (be 2 t.n) : Nat)
  | .f64 => .i (nat (be 8 t.n) : Nat)
  | k => .i (sgn k.size (nat (be k.size t.n)))
def tlV (flex : Bool) (t : Tr) (w : V) : V := if flex then .c (.t (tagsW t.u)) w else w
def valS (ver : Nat) (flex : Bool) : Fdl → Nat → Tr → V → V
  | .nil, _, _, w => w
  | .fld kind frm to null _ _ of sub rest, i, t, w =>
    if hasS frm to ver then
      (if kind = 11 then .c (if (t.at i).null && nulS null ver then .nul else .l (((t.at i).l.take 32767).map fun x => if of = 10 then valS ver flex sub 0 x (tlV flex x .u) else .c (leafV (kindK of) false x) .u)) (valS ver flex rest (i + 1) t w)
      else if kind = 10 then valS ver flex sub 0 (t.at i) (tlV flex (t.at i) (valS ver flex rest (i + 1) t w))
      else .c (leafV (kindK kind) ((t.at i).null && nulS null ver) (t.at i)) (valS ver flex rest (i + 1) t w))
    else valS ver flex rest (i + 1) t w
def valP (ver : Nat) (flex : Bool) (fd : Fdl) (t : Tr) : V := valS ver flex fd 0 t (tlV flex t .u)
theorem enc_tlV (flex : Bool) (t : Tr) (r : F) (w : V) : enc flex (tlF flex r) (tlV flex t w) = tlS flex t ++ enc flex r w := by
  cases flex <;> simp [tlF, tlV, tlS, enc]
theorem putF_ok : ∀ (ts : List (Nat × B)) (m k : Nat) (v : B), okT m ts → m ≤ k → k < 2 ^ 32 → v.length < 2 ^ 32 → okT m (putF k v ts)
  | [], m, k, v, _, h1, h2, h3 => ⟨h1, h2, h3, trivial⟩
  | (k', v') :: r, m, k, v, h, h1, h2, h3 => by
    obtain ⟨a, b, c, d⟩ := h
    unfold putF
    split
    · exact ⟨h1, h2, h3, by omega, b, c, d⟩
    · split
      · exact ⟨a, b, c, d⟩
      · exact ⟨a, b, c, putF_ok r _ k v d (by omega) h2 h3⟩
theorem be_eq1 {m n : Int} (h : m % 256 = n % 256) : be 1 m = be 1 n := by simp [be, h]
theorem be_eq2 {m n : Int} (h : m % 65536 = n % 65536) : be 2 m = be 2 n := by
  have h1 : m / 256 % 256 = n / 256 % 256 := by omega
  have h2 : m % 256 = n % 256 := by omega
  simp [be, h1, h2]
theorem be_eq4 {m n : Int} (h : m % 4294967296 = n % 4294967296) : be 4 m = be 4 n := by
  have h1 : m / 16777216 % 256 = n / 16777216 % 256 := by omega
  have h2 : m / 65536 % 256 = n / 65536 % 256 := by omega
  have h3 : m / 256 % 256 = n / 256 % 256 := by omega
  have h4 : m % 256 = n % 256 := by omega
  simp [be, h1, h2, h3, h4]
theorem be_eq8 {m n : Int} (h : m % 18446744073709551616 = n % 18446744073709551616) : be 8 m = be 8 n := by
  rw [be8, be8, be_eq4 (show m / 4294967296 % 4294967296 = n / 4294967296 % 4294967296 by omega), be_eq4 (show m % 4294967296 = n % 4294967296 by omega)]
theorem enc_leafV (flex : Bool) (k : K) (null : Bool) (t : Tr) : encK flex k (leafV k null t) = leafS flex k null t := by
  cases k
  case bool => simp [encK, leafV, leafS]
  case uuid => rfl
  case str => cases null <;> simp [encK, leafV, leafS]
  case pstr => cases null <;> simp [encK, leafV, leafS]
  case bytes => cases null <;> simp [encK, leafV, leafS]
  case i8 =>
    show be 1 (sgn 1 (nat (be 1 t.n))) = be 1 t.n
    apply be_eq1; have := nat_be1 t.n; unfold sgn; split <;> omega
  case i16 =>
    show be 2 (sgn 2 (nat (be 2 t.n))) = be 2 t.n
    apply be_eq2; have := nat_be2 t.n; unfold sgn; split <;> omega
  case i32 =>
    show be 4 (sgn 4 (nat (be 4 t.n))) = be 4 t.n
    apply be_eq4; have := nat_be4 t.n; unfold sgn; split <;> omega
  case i64 =>
    show be 8 (sgn 8 (nat (be 8 t.n))) = be 8 t.n
    apply be_eq8; have := nat_be8 t.n; unfold sgn; split <;> omega
  case u16 =>
    show be 2 (nat (be 2 t.n) : Nat) = be 2 t.n
    apply be_eq2; have := nat_be2 t.n; omega
  case f64 =>
    show be 8 (nat (be 8 t.n) : Nat) = be 8 t.n
    apply be_eq8; have := nat_be8 t.n; omega
theorem whole_len (b : B) : (whole b).length ≤ 32767 := by unfold whole; rw [List.length_take]; omega
theorem ok_leafV (flex : Bool) (k : K) (nl null : Bool) (t : Tr) (h : null = true → nl = true) : okK flex k nl (leafV k null t) := by
  have hw := whole_len t.s
  cases k
  case bool => trivial
  case uuid => show ((t.s ++ List.replicate 16 0).take 16).length = 16; simp
  case str =>
    cases null
    · show if flex then (whole t.s).length + 1 < 2 ^ 32 else (whole t.s).length < 2 ^ 15
      split <;> omega
    · exact h rfl
  case pstr =>
    cases null
    · show if flex then (whole t.s).length + 1 < 2 ^ 32 else (whole t.s).length < 2 ^ 15
      split <;> omega
    · exact h rfl
  case bytes =>
    cases null
    · show if flex then (whole t.s).length + 1 < 2 ^ 32 else (whole t.s).length < 2 ^ 31
      split <;> omega
    · exact h rfl
  case i8 => exact sgn_in (.inl rfl) (be_length 1 t.n)
  case i16 => exact sgn_in (.inr (.inl rfl)) (be_length 2 t.n)
  case i32 => exact sgn_in (.inr (.inr (.inl rfl))) (be_length 4 t.n)
  case i64 => exact sgn_in (.inr (.inr (.inr rfl))) (be_length 8 t.n)
  case u16 =>
    have := nat_be2 t.n
    show (0 : Int) ≤ (nat (be 2 t.n) : Nat) ∧ ((nat (be 2 t.n) : Nat) : Int) < 2 ^ 16
    omega
  case f64 =>
    have := nat_be8 t.n
    show (0 : Int) ≤ (nat (be 8 t.n) : Nat) ∧ ((nat (be 8 t.n) : Nat) : Int) < 2 ^ 64
    omega
theorem nul_and {a b : Bool} (h : (a && b) = true) : b = true := by cases a <;> simp at h; exact h
theorem enc_valS (ver : Nat) (flex : Bool) : ∀ (fd : Fdl) (i : Nat) (t : Tr) (r : F) (w : V), enc flex (fmtS ver flex fd r) (valS ver flex fd i t w) = bodyS ver flex fd i t ++ enc flex r w
  | .nil, i, t, r, w => by simp [fmtS, valS, bodyS]
  | .fld kind frm to null tag dflt of sub rest, i, t, r, w => by
    have ih1 := enc_valS ver flex sub
    have ih2 := enc_valS ver flex rest (i + 1) t r w
    unfold fmtS valS bodyS
    by_cases hh : hasS frm to ver = true
    · simp only [hh, if_true]
      by_cases h11 : kind = 11
      · simp only [h11, if_true]
        by_cases hn : ((t.at i).null && nulS null ver) = true
        · simp only [hn, if_true, enc, ih2, List.append_assoc]
        · have hn : ((t.at i).null && nulS null ver) = false := by simpa using hn
          simp only [hn, Bool.false_eq_true, if_false, enc, ih2, List.length_map, List.flatMap_map, List.append_assoc]
          congr 2
          congr 1
          funext x
          by_cases ho : of = 10
          · simp only [ho, if_true, ih1, enc_tlV, enc, List.append_nil]
          · simp only [ho, if_false, enc, enc_leafV, List.append_nil]
      · simp only [h11, if_false]
        by_cases h10 : kind = 10
        · simp only [h10, if_true, ih1, enc_tlV, ih2, List.append_assoc]
        · simp only [h10, if_false, enc, enc_leafV, ih2, List.append_assoc]
    · have hh : hasS frm to ver = false := by simpa using hh
      simp only [hh, Bool.false_eq_true, if_false, List.nil_append, ih2]
theorem putF_map (k : Nat) (v : B) : ∀ ts : List (Nat × B), (putF k v ts).map (fun t => (t.1, whole t.2)) = putF k (whole v) (ts.map fun t => (t.1, whole t.2))
  | [] => rfl
  | (k', v') :: r => by
    have ih := putF_map k v r
    unfold putF
    simp only [List.map_cons]
    by_cases h1 : k < k'
    · simp [h1]
    · by_cases h2 : k = k'
      · simp [h1, h2]
      · simp [h1, h2, ih]
theorem fold_map : ∀ (l a : List (Nat × B)), (l.foldl (fun a t => putF t.1 t.2 a) a).map (fun t => (t.1, whole t.2)) = l.foldl (fun a t => putF t.1 (whole t.2) a) (a.map fun t => (t.1, whole t.2))
  | [], a => rfl
  | t :: l, a => by
    simp only [List.foldl_cons]
    rw [fold_map l, putF_map]
theorem fold_ok : ∀ (l a : List (Nat × B)), (∀ x ∈ l, x.1 < 2 ^ 32) → okT 0 a → okT 0 (l.foldl (fun a t => putF t.1 (whole t.2) a) a)
  | [], a, _, h => h
  | t :: l, a, hl, h => by
    have := whole_len t.2
    exact fold_ok l _ (fun x hx => hl x (List.mem_cons_of_mem _ hx)) (putF_ok a 0 t.1 (whole t.2) h (Nat.zero_le _) (hl t List.mem_cons_self) (by omega))
theorem putF_len (k : Nat) (v : B) : ∀ ts : List (Nat × B), (putF k v ts).length ≤ ts.length + 1
  | [] => by simp [putF]
  | (k', v') :: r => by
    have := putF_len k v r
    unfold putF
    split
    · simp
    · split
      · simp
      · simp; omega
theorem fold_len : ∀ (l a : List (Nat × B)), (l.foldl (fun a t => putF t.1 t.2 a) a).length ≤ a.length + l.length
  | [], a => by simp
  | t :: l, a => by
    have h1 := fold_len l (putF t.1 t.2 a)
    have h2 := putF_len t.1 t.2 a
    simp only [List.foldl_cons, List.length_cons]
    omega
theorem tagsW_ok {u : List (Nat × B)} (h : ∀ x ∈ u, x.1 < 2 ^ 32) : okT 0 (tagsW u) ∧ (tagsW u).length < 2 ^ 32 := by
  unfold tagsW unkS
  constructor
  · rw [fold_map]
    exact fold_ok _ _ (fun x hx => h x (List.mem_of_mem_take hx)) trivial
  · rw [List.length_map]
    have h1 := fold_len (u.take 32767) []
    have h2 : (u.take 32767).length ≤ 32767 := by rw [List.length_take]; omega
    simp only [List.length_nil] at h1
    omega
theorem ok_tlV {flex : Bool} {t : Tr} (h : t.Fine) {r : F} {w : V} (hw : ok flex r w) : ok flex (tlF flex r) (tlV flex t w) := by
  obtain ⟨a, b⟩ := tagsW_ok h.u
  unfold tlF tlV
  cases flex
  · exact hw
  · exact ⟨a, b, hw⟩
theorem ok_valS (ver : Nat) (flex : Bool) : ∀ (fd : Fdl) (i : Nat) (t : Tr) (r : F) (w : V), t.Fine → ok flex r w → ok flex (fmtS ver flex fd r) (valS ver flex fd i t w)
  | .nil, i, t, r, w, h, hw => hw
  | .fld kind frm to null tag dflt of sub rest, i, t, r, w, h, hw => by
    have ih1 := ok_valS ver flex sub
    have ih2 := ok_valS ver flex rest (i + 1) t r w h hw
    unfold fmtS valS
    by_cases hh : hasS frm to ver = true
    · simp only [hh, if_true]
      by_cases h11 : kind = 11
      · simp only [h11, if_true]
        by_cases hn : ((t.at i).null && nulS null ver) = true
        · simp only [hn, if_true]
          exact ⟨nul_and hn, ih2⟩
        · have hn : ((t.at i).null && nulS null ver) = false := by simpa using hn
          simp only [hn, Bool.false_eq_true, if_false]
          refine ⟨⟨?_, fun x hx => ?_⟩, ih2⟩
          · rw [List.length_map, List.length_take]; omega
          · obtain ⟨y, hy, rfl⟩ := List.mem_map.1 hx
            have hyf : y.Fine := (h.at i).l y (List.mem_of_mem_take hy)
            by_cases ho : of = 10
            · simp only [ho, if_true]
              exact ih1 0 y _ _ hyf (ok_tlV hyf trivial)
            · simp only [ho, if_false]
              exact ⟨ok_leafV flex _ _ _ y (fun h => by cases h), trivial⟩
      · simp only [h11, if_false]
        by_cases h10 : kind = 10
        · simp only [h10, if_true]
          exact ih1 0 (t.at i) _ _ (h.at i) (ok_tlV (h.at i) ih2)
        · simp only [h10, if_false]
          exact ⟨ok_leafV flex _ _ _ _ (fun h => nul_and h), ih2⟩
    · have hh : hasS frm to ver = false := by simpa using hh
      simp only [hh, Bool.false_eq_true, if_false]
      exact ih2
theorem enc_valP (ver : Nat) (flex : Bool) (fd : Fdl) (t : Tr) : enc flex (fmtP ver flex fd) (valP ver flex fd t) = partS ver flex fd t := by
  unfold fmtP valP partS
  rw [enc_valS, enc_tlV]
  simp [enc]
theorem ok_valP (ver : Nat) (flex : Bool) (fd : Fdl) {t : Tr} (h : t.Fine) : ok flex (fmtP ver flex fd) (valP ver flex fd t) := ok_valS ver flex fd 0 t _ _ h (ok_tlV h trivial)
theorem again_part {ver : Nat} {flex : Bool} {fd : Fdl} {t : Tr} {f : F} (h : t.Fine) (hs : f.strip = (fmtP ver flex fd).strip) (hg : (fmtP ver flex fd).good = true) : dec flex f (partS ver flex fd t) = some (valP ver flex fd t, []) ∧ enc flex f (valP ver flex fd t) = partS ver flex fd t := by
  have e1 : enc flex f (valP ver flex fd t) = partS ver flex fd t := by rw [← enc_strip, hs, enc_strip, enc_valP]
  refine ⟨?_, e1⟩
  rw [← dec_strip, hs, dec_strip, ← enc_valP]
  have := dec_enc hg (ok_valP ver flex fd h) []
  rwa [List.append_nil] at this
theorem cut_part {ver : Nat} {flex : Bool} {fd : Fdl} {t : Tr} {f : F} (h : t.Fine) (hs : f.strip = (fmtP ver flex fd).strip) (hg : (fmtP ver flex fd).good = true) {p q : B} (hpq : partS ver flex fd t = p ++ q) (hq : q ≠ []) : dec flex f p = none := by
  rw [← dec_strip, hs, dec_strip]
  exact dec_cut hg (ok_valP ver flex fd h) (by rw [enc_valP]; exact hpq) hq
end Go.Proofs.YtiifcfngbbhgoaaGreatDoor.Wire

namespace Go.Proofs.YtiifcfngbbhgoaaGreatDoor.Wire
def bulkU : List (Nat × B) → Nat
  | [] => 0
  | (_, v) :: r => 1 + v.length + bulkU r
mutual
def Tr.bulk : Tr → Nat
  | .mk _ s _ l u => 1 + s.length + bulkL l + bulkU u
def bulkL : List Tr → Nat
  | [] => 0
  | x :: r => x.bulk + bulkL r
end
theorem Tr.bulk_pos (t : Tr) : 1 ≤ t.bulk := by cases t; unfold Tr.bulk; omega
theorem bulkL_mem : ∀ {l : List Tr} {x : Tr}, x ∈ l → x.bulk ≤ bulkL l
  | y :: r, x, h => by
    unfold bulkL
    rcases List.mem_cons.1 h with rfl | h
    · omega
    · have := bulkL_mem h; omega
theorem bulk_l (t : Tr) : bulkL t.l + 1 ≤ t.bulk := by cases t; simp only [Tr.bulk, Tr.l]; omega
theorem bulk_s (t : Tr) : t.s.length + 1 ≤ t.bulk := by cases t; simp only [Tr.bulk, Tr.s]; omega
theorem bulk_u (t : Tr) : bulkU t.u + 1 ≤ t.bulk := by cases t; simp only [Tr.bulk, Tr.u]; omega
theorem bulk_at (t : Tr) (i : Nat) : (t.at i).bulk ≤ t.bulk := by
  unfold Tr.at
  rw [List.getD_eq_getElem?_getD]
  cases hx : t.l[i]? with
  | none => exact t.bulk_pos
  | some x =>
    have h1 := bulkL_mem (List.mem_of_getElem? hx)
    have h2 := bulk_l t
    simp only [Option.getD_some]
    omega
theorem bulkL_take : ∀ (l : List Tr) (n : Nat), bulkL (l.take n) ≤ bulkL l
  | [], n => by simp
  | x :: r, 0 => by simp [bulkL]
  | x :: r, n + 1 => by simp only [List.take_succ_cons, bulkL]; have := bulkL_take r n; omega
theorem uv_le5 {n : Nat} (h : n < 34359738368) : (uv n).length ≤ 5 := by
  rw [uv]; split
  · simp
  · rw [uv]; split
    · simp
    · rw [uv]; split
      · simp
      · rw [uv]; split
        · simp
        · rw [uv]; split
          · simp
          · omega
theorem be_len' : ∀ (s : Nat) (n : Int), (be s n).length = s
  | 0, n => rfl
  | s + 1, n => by simp [be, be_len' s n]
theorem cnt_le (flex : Bool) {s n : Nat} (hs : s ≤ 5) (hn : n ≤ 32767) : (cnt flex s n).length ≤ 5 := by
  unfold cnt
  split
  · exact uv_le5 (by omega)
  · rw [be_len']; exact hs
theorem cnt0_le (flex : Bool) {s : Nat} (hs : s ≤ 5) : (cnt0 flex s).length ≤ 5 := by
  unfold cnt0
  split
  · simp
  · rw [be_len']; exact hs
theorem whole_le (b : B) : (whole b).length ≤ b.length := by unfold whole; rw [List.length_take]; omega
theorem leafS_le (flex : Bool) (k : K) (null : Bool) (t : Tr) : (leafS flex k null t).length ≤ 17 * t.bulk := by
  have h1 := bulk_s t
  have h2 := whole_le t.s
  have h3 := whole_len t.s
  cases k
  case bool => simp [leafS]; omega
  case uuid => simp [leafS]; omega
  case str =>
    cases null
    · have := cnt_le flex (show 2 ≤ 5 by omega) h3
      simp [leafS]; omega
    · have := cnt0_le flex (show 2 ≤ 5 by omega)
      simp [leafS]; omega
  case pstr =>
    cases null
    · have := cnt_le flex (show 2 ≤ 5 by omega) h3
      simp [leafS]; omega
    · have := cnt0_le flex (show 2 ≤ 5 by omega)
      simp [leafS]; omega
  case bytes =>
    cases null
    · have := cnt_le flex (show 4 ≤ 5 by omega) h3
      simp [leafS]; omega
    · have := cnt0_le flex (show 4 ≤ 5 by omega)
      simp [leafS]; omega
  all_goals simp [leafS, be_len', K.size]; omega
theorem bulkU_put (k : Nat) (v : B) : ∀ ts : List (Nat × B), bulkU (putF k v ts) ≤ bulkU ts + (1 + v.length)
  | [] => by simp [putF, bulkU]
  | (k', v') :: r => by
    unfold putF
    split
    · simp only [bulkU]; omega
    · split
      · simp only [bulkU]; omega
      · simp only [bulkU]; have := bulkU_put k v r; omega
theorem bulkU_fold : ∀ (l a : List (Nat × B)), bulkU (l.foldl (fun a t => putF t.1 t.2 a) a) ≤ bulkU a + bulkU l
  | [], a => by simp [bulkU]
  | (k, v) :: l, a => by
    simp only [List.foldl_cons]
    have h1 := bulkU_fold l (putF k v a)
    have h2 := bulkU_put k v a
    simp only [bulkU]; omega
theorem bulkU_take : ∀ (l : List (Nat × B)) (n : Nat), bulkU (l.take n) ≤ bulkU l
  | [], n => by simp
  | (k, v) :: r, 0 => by simp [bulkU]
  | (k, v) :: r, n + 1 => by simp only [List.take_succ_cons, bulkU]; have := bulkU_take r n; omega
theorem bulkU_map : ∀ ts : List (Nat × B), bulkU (ts.map fun t => (t.1, whole t.2)) ≤ bulkU ts
  | [] => by simp [bulkU]
  | (k, v) :: r => by
    have h1 := bulkU_map r
    have h2 := whole_le v
    simp only [List.map_cons, bulkU]; omega
theorem bulkU_tags (u : List (Nat × B)) : bulkU (tagsW u) ≤ bulkU u := by
  unfold tagsW unkS
  have h1 := bulkU_map ((u.take 32767).foldl (fun a t => putF t.1 t.2 a) [])
  have h2 := bulkU_fold (u.take 32767) []
  have h3 := bulkU_take u 32767
  simp only [bulkU] at h2
  omega
theorem encT_le : ∀ {ts : List (Nat × B)} {m : Nat}, okT m ts → (encT ts).length ≤ 10 * bulkU ts
  | [], _, _ => by simp [encT]
  | (k, v) :: r, m, ⟨h1, h2, h3, h4⟩ => by
    have i1 := encT_le h4
    have i2 := uv_le5 (n := k) (by omega)
    have i3 := uv_le5 (n := v.length) (by omega)
    simp only [encT, List.flatMap_cons, List.length_append, bulkU] at i1 ⊢
    omega
theorem tlS_le {flex : Bool} {t : Tr} (h : t.Fine) : (tlS flex t).length ≤ 15 * t.bulk := by
  unfold tlS
  split
  · obtain ⟨h1, h2⟩ := tagsW_ok h.u
    have i1 := encT_le h1
    have i2 := uv_le5 (n := (tagsW t.u).length) (by omega)
    have i3 := bulkU_tags t.u
    have i4 := bulk_u t
    rw [List.length_append]
    omega
  · simp
def Fdl.len : Fdl → Nat
  | .nil => 0
  | .fld _ _ _ _ _ _ _ _ r => r.len + 1
def Fdl.plain : Fdl → Bool
  | .nil => true
  | .fld kind _ _ null tag _ of sub rest => decide (tag < 0) && decide (kind ≤ 11) && decide (of ≤ 10) && (decide (kind ≠ 10) || decide (null < 0)) && decide (sub.len ≤ 1000) && sub.plain && rest.plain
def Fdl.cost : Fdl → Nat
  | .nil => 0
  | .fld _ _ _ _ _ _ _ sub rest => sub.cost + 22 + rest.cost
theorem flat_le {f : Tr → B} {c : Nat} : ∀ (l : List Tr), (∀ x ∈ l, (f x).length ≤ c * x.bulk) → (l.flatMap f).length ≤ c * bulkL l
  | [], _ => by simp
  | x :: r, h => by
    have h1 := h x (by simp)
    have h2 := flat_le r (fun y hy => h y (by simp [hy]))
    simp only [List.flatMap_cons, List.length_append, bulkL, Nat.mul_add]
    omega
theorem bodyS_le (ver : Nat) (flex : Bool) : ∀ (fd : Fdl) (i : Nat) (t : Tr), t.Fine → (bodyS ver flex fd i t).length ≤ fd.cost * t.bulk
  | .nil, i, t, h => by simp [bodyS]
  | .fld kind frm to null tag dflt of sub rest, i, t, h => by
    have hr := bodyS_le ver flex rest (i + 1) t h
    have hs := bodyS_le ver flex sub 0
    have hb := bulk_at t i
    have hp := t.bulk_pos
    have key : ∀ z : B, z.length ≤ (sub.cost + 22) * (t.at i).bulk → (z ++ bodyS ver flex rest (i + 1) t).length ≤ (sub.cost + 22 + rest.cost) * t.bulk := fun z hz => by
      have e : (sub.cost + 22 + rest.cost) * t.bulk = (sub.cost + 22) * t.bulk + rest.cost * t.bulk := Nat.add_mul _ _ _
      have e2 : (sub.cost + 22) * (t.at i).bulk ≤ (sub.cost + 22) * t.bulk := Nat.mul_le_mul_left _ hb
      rw [List.length_append, e]
      omega
    have hleaf : ∀ k nl x, (leafS flex k nl x).length ≤ (sub.cost + 17) * x.bulk := fun k nl x => by
      have h1 := leafS_le flex k nl x
      rw [Nat.add_mul]; omega
    have hpart : ∀ x : Tr, x.Fine → (bodyS ver flex sub 0 x ++ tlS flex x).length ≤ (sub.cost + 17) * x.bulk := fun x hx => by
      have h1 := hs x hx
      have h2 := tlS_le (flex := flex) hx
      rw [List.length_append, Nat.add_mul]; omega
    have up : ∀ x : Tr, (sub.cost + 17) * x.bulk + 5 ≤ (sub.cost + 22) * x.bulk := fun x => by
      have := x.bulk_pos
      have e : (sub.cost + 22) * x.bulk = (sub.cost + 17) * x.bulk + 5 * x.bulk := by rw [← Nat.add_mul]
      omega
    unfold bodyS Fdl.cost
    apply key
    have hat := h.at i
    split
    · split
      · split
        · have h1 := cnt0_le flex (show 4 ≤ 5 by omega)
          have h2 := up (t.at i)
          omega
        · have h1 := cnt_le flex (s := 4) (n := ((t.at i).l.take 32767).length) (by omega) (by rw [List.length_take]; omega)
          have h2 := flat_le (f := fun x => if of = 10 then bodyS ver flex sub 0 x ++ tlS flex x else leafS flex (kindK of) false x) (c := sub.cost + 17) ((t.at i).l.take 32767) (fun x hx => by
            have hf := hat.l x (List.mem_of_mem_take hx)
            split
            · exact hpart x hf
            · exact hleaf _ _ x)
          have h3 := bulkL_take (t.at i).l 32767
          have h4 := bulk_l (t.at i)
          have h5 : (sub.cost + 17) * bulkL ((t.at i).l.take 32767) ≤ (sub.cost + 17) * (t.at i).bulk := Nat.mul_le_mul_left _ (by omega)
          have h6 := up (t.at i)
          rw [List.length_append]
          omega
      · split
        · have h1 := hpart (t.at i) hat
          have h2 := up (t.at i)
          omega
        · have h1 := hleaf (kindK kind) ((t.at i).null && nulS null ver) (t.at i)
          have h2 := up (t.at i)
          omega
    · simp
theorem partS_le (ver : Nat) (flex : Bool) (fd : Fdl) {t : Tr} (h : t.Fine) : (partS ver flex fd t).length ≤ (fd.cost + 15) * t.bulk := by
  have h1 := bodyS_le ver flex fd 0 t h
  have h2 := tlS_le (flex := flex) h
  unfold partS
  rw [List.length_append, Nat.add_mul]
  omega
end Go.Proofs.YtiifcfngbbhgoaaGreatDoor.Wire

namespace Go.Proofs.YtiifcfngbbhgoaaGreatDoor.Rd
open Go Go.Proofs.YtiifcfngbbhgoaaGreatDoor.Ax Go.Proofs.YtiifcfngbbhgoaaGreatDoor.Wire
set_option maxRecDepth 100000
def SlAt (H : Heap) (sz : Nat) (av : AV) (n : Nat) : Prop :=
  ((av = .s0 ∨ av = .se) ∧ n = 0) ∨ ∃ i o ty kn cs, av = .sl i o n ∧ 0 < n ∧ H[i]? = some (.cells ty kn cs) ∧ o + n * sz ≤ cs.length
def elAt (H : Heap) (sz : Nat) (av : AV) (j : Nat) : Option (List AV) :=
  match av with
  | .sl i o _ => match H[i]? with
    | some (.cells _ _ cs) => some ((cs.drop (o + j * sz)).take sz)
    | _ => none
  | _ => none
def Lt (H : Heap) : Nat → Prop := fun i => i < H.length
def TgAt (H : Heap) (av : AV) (us : List (Nat × B)) : Prop :=
  SlAt H 2 av us.length ∧ ∀ (j k : Nat) (bs : B), us[j]? = some (k, bs) → ∃ v, elAt H 2 av j = some [.i .u32 (k : Nat), v] ∧ BytesAt (Lt H) H v bs
inductive TrAt (H : Heap) : List AV → Tr → Prop
  | mk {n : Int} {s l u : AV} {nl : Bool} {bs : B} {ts : List Tr} {us : List (Nat × B)} (hn : -9223372036854775808 ≤ n ∧ n ≤ 9223372036854775807) (hs : BytesAt (Lt H) H s bs) (hu : TgAt H u us) (hl : SlAt H 5 l ts.length)
      (hx : ∀ (j : Nat) (x : Tr), ts[j]? = some x → ∀ c, elAt H 5 l j = some c → TrAt H c x) : TrAt H [.i .i64 n, s, .b nl, l, u] (.mk n bs nl ts us)
def FdC (H : Heap) : Fdl → List AV → Prop
  | .nil, cs => cs = []
  | .fld kind frm to null tag dflt of sub rest, cs => ∃ av cs', cs = .i .i64 (kind : Nat) :: .i .i64 frm :: .i .i64 to :: .i .i64 null :: .i .i64 tag :: .i .i64 dflt :: .i .i64 (of : Nat) :: av :: cs' ∧
      ((sub = .nil ∧ (av = .s0 ∨ av = .se)) ∨ ∃ i ty kn c2, av = .sl i 0 sub.len ∧ H[i]? = some (.cells ty kn c2) ∧ FdC H sub c2 ∧ sub ≠ .nil) ∧ FdC H rest cs'
def FdAt (H : Heap) (av : AV) (fd : Fdl) : Prop := (fd = .nil ∧ (av = .s0 ∨ av = .se)) ∨ ∃ i ty kn c2, av = .sl i 0 fd.len ∧ H[i]? = some (.cells ty kn c2) ∧ FdC H fd c2 ∧ fd ≠ .nil
def Kp (H H' : Heap) : Prop := H.length ≤ H'.length ∧ ∀ i, i < H.length → H'[i]? = H[i]?
theorem Kp.refl (H : Heap) : Kp H H := ⟨Nat.le_refl _, fun _ _ => rfl⟩
theorem Kp.trans {a b c : Heap} (h : Kp a b) (k : Kp b c) : Kp a c := ⟨Nat.le_trans h.1 k.1, fun i hi => by rw [k.2 i (Nat.lt_of_lt_of_le hi h.1), h.2 i hi]⟩
theorem Kp.at_ {H H' : Heap} (h : Kp H H') {i : Nat} {b : Blk} (hi : H[i]? = some b) : H'[i]? = some b := by
  rw [h.2 i (List.getElem?_eq_some_iff.1 hi).1]; exact hi
theorem Kp.app (H K : Heap) : Kp H (H ++ K) := ⟨by simp, fun i hi => by rw [List.getElem?_append_left hi]⟩
theorem Kp.w {L0 : Nat} {H H' : Heap} (h : Kp H H') (hL : L0 ≤ H.length) : WKeep L0 H H' := ⟨fun i hi => h.2 i (by omega), h.1⟩
section
variable {H H' : Heap}
theorem Kp.bytes (k : Kp H H') {av : AV} {bs : B} (h : BytesAt (Lt H) H av bs) : BytesAt (Lt H') H' av bs := by
  cases h with
  | z => exact .z
  | e => exact .e
  | s hA h h0 h1 => exact .s (show _ < H'.length from Nat.lt_of_lt_of_le hA k.1) (k.at_ h) h0 h1
theorem SlAt.kp {sz n : Nat} {av : AV} (h : SlAt H sz av n) (k : Kp H H') : SlAt H' sz av n := by
  rcases h with h | ⟨i, o, ty, kn, cs, h1, h2, h3, h4⟩
  · exact .inl h
  · exact .inr ⟨i, o, ty, kn, cs, h1, h2, k.at_ h3, h4⟩
theorem SlAt.el {sz n : Nat} {av : AV} (h : SlAt H sz av n) (k : Kp H H') {j : Nat} (hj : j < n) : elAt H' sz av j = elAt H sz av j := by
  rcases h with ⟨_, h⟩ | ⟨i, o, ty, kn, cs, rfl, h2, h3, h4⟩
  · omega
  · simp only [elAt, k.at_ h3, h3]
theorem SlAt.get {sz n : Nat} {av : AV} (h : SlAt H sz av n) {j : Nat} (hj : j < n) : ∃ c, elAt H sz av j = some c ∧ c.length = sz := by
  rcases h with ⟨_, h⟩ | ⟨i, o, ty, kn, cs, rfl, h2, h3, h4⟩
  · omega
  · refine ⟨(cs.drop (o + j * sz)).take sz, by simp only [elAt, h3], ?_⟩
    have : (j + 1) * sz ≤ n * sz := Nat.mul_le_mul_right _ hj
    rw [List.length_take, List.length_drop]
    have e : (j + 1) * sz = j * sz + sz := by rw [Nat.add_mul, Nat.one_mul]
    omega
theorem TgAt.kp {av : AV} {us : List (Nat × B)} (h : TgAt H av us) (k : Kp H H') : TgAt H' av us := by
  refine ⟨h.1.kp k, fun j n bs hj => ?_⟩
  obtain ⟨v, h1, h2⟩ := h.2 j n bs hj
  exact ⟨v, by rw [h.1.el k (List.getElem?_eq_some_iff.1 hj).1]; exact h1, k.bytes h2⟩
theorem TrAt.kp (k : Kp H H') {c : List AV} {t : Tr} (h : TrAt H c t) : TrAt H' c t := by
  induction h with
  | mk hn hs hu hl _ ih =>
    refine .mk hn (k.bytes hs) (hu.kp k) (hl.kp k) fun j x hj c hc => ?_
    rw [hl.el k (List.getElem?_eq_some_iff.1 hj).1] at hc
    exact ih j x hj c hc
theorem FdC.kp (k : Kp H H') : ∀ {fd : Fdl} {cs : List AV}, FdC H fd cs → FdC H' fd cs
  | .nil, _, h => h
  | .fld kind frm to null tag dflt of sub rest, cs, ⟨av, cs', h1, h2, h3⟩ => by
    refine ⟨av, cs', h1, ?_, FdC.kp k h3⟩
    rcases h2 with h | ⟨i, ty, kn, c2, h4, h5, h6, h7⟩
    · exact .inl h
    · exact .inr ⟨i, ty, kn, c2, h4, k.at_ h5, FdC.kp k h6, h7⟩
theorem FdAt.kp (k : Kp H H') {fd : Fdl} {av : AV} (h : FdAt H av fd) : FdAt H' av fd := by
  rcases h with h | ⟨i, ty, kn, c2, h4, h5, h6, h7⟩
  · exact .inl h
  · exact .inr ⟨i, ty, kn, c2, h4, k.at_ h5, FdC.kp k h6, h7⟩
theorem FdC.len : ∀ {fd : Fdl} {cs : List AV}, FdC H fd cs → cs.length = fd.len * 8
  | .nil, _, h => by have h : _ = _ := h; subst h; rfl
  | .fld kind frm to null tag dflt of sub rest, cs, ⟨av, cs', h1, h2, h3⟩ => by
    have := FdC.len h3
    subst h1
    simp [Fdl.len, this]; omega
end
end Go.Proofs.YtiifcfngbbhgoaaGreatDoor.Rd

namespace Go.Proofs.YtiifcfngbbhgoaaGreatDoor.Ax
open Go
inductive OpsS (P : Program) (call : CallA) (R : Heap → Prop) : List Oper → List AV → Heap → List AV → Heap → Prop
  | nil (fr : List AV) (H : Heap) : OpsS P call R [] fr H fr H
  | eff {o : Oper} {l : List Oper} {fr fr' : List AV} {H H1 H' : Heap} {v : AV} (hg : o.guard = none) (he : isEff o.op = true) (h : oneOp P call o.op fr H = some (v, H1)) (g : R H1) (t : OpsS P call R l (putA fr o.dst v) H1 fr' H') : OpsS P call R (o :: l) fr H fr' H'
  | pure {o : Oper} {l : List Oper} {fr fr' : List AV} {H H' : Heap} {v : AV} (hg : o.guard = none) (he : isEff o.op = false) (h : ∀ H2, R H2 → ∃ H3, opA P o.op fr H2 = some (v, H3)) (t : OpsS P call R l (putA fr o.dst v) H fr' H') : OpsS P call R (o :: l) fr H fr' H'
def effOk3 (ops : Array Oper) : Bool := (statEs ops.toList []).all fun e => !e.eff || decide (e.no ≤ e.lo)
def drawOk3 (P : Program) (ops : Array Oper) : Bool := P.follows .mixedOrders && edgesOk ops.toList && slotsOk ops ops.toList && dstsOk ops.toList && effOk3 ops
theorem ops_looks {ops : Array Oper} {o : Oper} : ∀ x ∈ o.op.operands, ∀ t, x = .tmp t → t ∈ o.looksAt ops := by
  intro x hx t ht
  unfold Oper.looksAt
  refine List.mem_append_left _ (List.mem_filterMap.2 ⟨x, by simpa using hx, ?_⟩)
  rw [ht]
theorem lexA_S {P : Program} {call : CallA} {R : Heap → Prop} {ops : Array Oper} : ∀ (l : List Oper) (fr : List AV) (H : Heap) (fr' : List AV) (H' : Heap), OpsS P call R l fr H fr' H' → R H → ∀ (es es0 : List Ent) (Hs : List Heap), (∀ h ∈ Hs, R h) → es.map Ent.key = es0.map Ent.key →
    (∀ e ∈ es, e.eff = false → ∀ H2, R H2 → ∃ H3, opA P e.o.op e.fr H2 = some (e.val, H3)) →
    ∃ es' Hs', lexA P call ops l es Hs fr H = some (es', Hs', fr', H') ∧ (∀ h ∈ Hs', R h) ∧ es'.map Ent.key = (statEs l es0).map Ent.key ∧ (∀ e ∈ es', e.eff = false → ∀ H2, R H2 → ∃ H3, opA P e.o.op e.fr H2 = some (e.val, H3)) := by
  intro l fr H fr' H' h
  induction h with
  | nil fr H => intro _ es es0 Hs hr hk hg; exact ⟨es, Hs, rfl, hr, hk, hg⟩
  | @eff o l fr fr' H H1 H' v hgd he hv g _ ih =>
    intro hR es es0 Hs hr hk hg
    have hr2 : oneOp P call o.op (restr (o.looksAt ops) fr) H = some (v, H1) := by rw [oneOp_restr o.op ops_looks]; exact hv
    have hw : wantA ops (restr (o.looksAt ops) fr) o.guard = some true := by rw [hgd]; rfl
    obtain ⟨es', Hs', h1, h2, h3, h4⟩ := ih g (es ++ [⟨o, true, true, countEff es, loOf es o.after.toList, v, restr (o.looksAt ops) fr⟩]) (es0 ++ [⟨o, true, isEff o.op, countEff es0, loOf es0 o.after.toList, .u, []⟩]) (Hs ++ [H1])
      (fun h hm => by
        rcases List.mem_append.1 hm with hm | hm
        · exact hr h hm
        · simp at hm; subst hm; exact g) (by simp [hk, Ent.key, he, key_count hk, key_lo hk]) (fun e hm hf => by
        rcases List.mem_append.1 hm with hm | hm
        · exact hg e hm hf
        · simp at hm; subst hm; cases hf)
    refine ⟨es', Hs', ?_, h2, h3, h4⟩
    unfold lexA
    simp only [hw, he, if_true, hr2]
    exact h1
  | @pure o l fr fr' H H' v hgd he hv _ ih =>
    intro hR es es0 Hs hr hk hg
    have hw : wantA ops (restr (o.looksAt ops) fr) o.guard = some true := by rw [hgd]; rfl
    have hv2 : ∀ H2, R H2 → ∃ H3, opA P o.op (restr (o.looksAt ops) fr) H2 = some (v, H3) := fun H2 q => by rw [opA_restr o.op ops_looks]; exact hv H2 q
    obtain ⟨es', Hs', h1, h2, h3, h4⟩ := ih hR (es ++ [⟨o, true, false, countEff es, loOf es o.after.toList, v, restr (o.looksAt ops) fr⟩]) (es0 ++ [⟨o, true, isEff o.op, countEff es0, loOf es0 o.after.toList, .u, []⟩]) Hs hr
      (by simp [hk, Ent.key, he, key_count hk, key_lo hk]) (fun e hm hf => by
        rcases List.mem_append.1 hm with hm | hm
        · exact hg e hm hf
        · simp at hm; subst hm; exact hv2)
    refine ⟨es', Hs', ?_, h2, h3, h4⟩
    obtain ⟨H3, hq⟩ := hv2 H hR
    unfold lexA
    simp only [hw, he, hq]
    exact h1
theorem draw_S {P : Program} {call : CallA} {R : Heap → Prop} {ops : Array Oper} {H H' : Heap} {fr fr' : List AV} (hok : drawOk3 P ops = true) (hR : R H) (h : OpsS P call R ops.toList fr H fr' H') : drawA P call ops fr H = some (fr', H') := by
  unfold drawOk3 at hok
  simp only [Bool.and_eq_true] at hok
  obtain ⟨⟨⟨⟨a, b⟩, c⟩, d⟩, e⟩ := hok
  obtain ⟨es', Hs', h1, h2, h3, h4⟩ := lexA_S (ops := ops) _ _ _ _ _ h hR [] [] [H] (fun h hm => by simp at hm; subst hm; exact hR) rfl (fun e he => by simp at he)
  unfold drawA
  simp only [a, b, c, d, Bool.and_self, if_true, h1]
  rw [if_pos]
  rw [List.all_eq_true]
  intro x hx
  unfold effOk3 at e
  rw [List.all_eq_true] at e
  have hkx : x.key ∈ es'.map Ent.key := List.mem_map_of_mem hx
  rw [h3] at hkx
  obtain ⟨y, hy, hxy⟩ := List.mem_map.1 hkx
  have hy2 := e y hy
  have k1 : y.eff = x.eff := congrArg (fun z => z.2.2.1) hxy
  have k2 : y.no = x.no := congrArg (fun z => z.2.2.2.1) hxy
  have k3 : y.lo = x.lo := congrArg (fun z => z.2.2.2.2) hxy
  rw [k1, k2, k3] at hy2
  cases hxe : x.eff with
  | true => simp [hxe] at hy2; simp [hy2]
  | false =>
    have : floatOk P x Hs' = true := by
      unfold floatOk
      rw [List.all_eq_true]
      intro h hh
      obtain ⟨H3, hval⟩ := h4 x hx hxe h (h2 h (List.mem_of_mem_drop hh))
      rw [hval]
      exact sameV_refl _
    simp [this]
theorem RU.drawS {P : Program} {S : CallA} {id : Nat} {ops : Array Oper} {fr fr1 : List AV} {H H1 : Heap} (R : Heap → Prop) (hok : drawOk3 P ops = true) (hR : R H) {n0 : Nat} (h : ∀ n, n0 ≤ n → OpsS P (run P S n) R ops.toList fr H fr1 H1) : RU P S (.region id ops true) fr H (.normal, fr1, H1) := by
  refine ⟨n0 + 1, fun n hn => ?_⟩
  obtain ⟨m, rfl⟩ : ∃ m, n = m + 1 := ⟨n - 1, by omega⟩
  have := draw_S hok hR (h m (by omega))
  simp only [run] at this
  simp [exec, this]
def drawOk0 (P : Program) (ops : Array Oper) : Bool := P.follows .mixedOrders && edgesOk ops.toList && slotsOk ops ops.toList && dstsOk ops.toList && ops.toList.all (fun o => !isEff o.op)
theorem want_restr {ops : Array Oper} {o : Oper} {fr : List AV} : wantA ops (restr (o.looksAt ops) fr) o.guard = wantA ops fr o.guard := by
  cases hg : o.guard with
  | none => rfl
  | some g =>
    obtain ⟨j, w⟩ := g
    unfold wantA
    simp only
    cases hd : (ops[j]?).bind (·.dst) with
    | none => rfl
    | some d =>
      have hm : d ∈ o.looksAt ops := by
        unfold Oper.looksAt
        refine List.mem_append_right _ ?_
        simp [hg, hd]
      simp only [restr_at]
      cases fr[d]? <;> simp [hm]
theorem lexA_0 {P : Program} {call : CallA} {ops : Array Oper} : ∀ (l : List Oper) (fr : List AV) (H : Heap) (fr' : List AV) (H' : Heap), (∀ o ∈ l, isEff o.op = false) → opsA P call ops l fr H = some (fr', H') → ∀ (es : List Ent),
    (∀ e ∈ es, e.eff = false ∧ (e.wanted = true → ∃ H3, opA P e.o.op e.fr H = some (e.val, H3))) →
    H' = H ∧ ∃ es', lexA P call ops l es [H] fr H = some (es', [H], fr', H') ∧ (∀ e ∈ es', e.eff = false ∧ (e.wanted = true → ∃ H3, opA P e.o.op e.fr H = some (e.val, H3)))
  | [], fr, H, fr', H', _, h, es, hg => by
    simp [opsA] at h
    obtain ⟨rfl, rfl⟩ := h
    exact ⟨rfl, es, rfl, hg⟩
  | o :: l, fr, H, fr', H', ha, h, es, hg => by
    have he' : isEff o.op = false := ha o (by simp)
    have hcl : isCall o.op = false := by
      cases ho : o.op <;> simp [isCall]
      rename_i c
      obtain ⟨cl, _, _⟩ := c
      cases cl <;> simp [ho, isEff] at *
    simp only [opsA] at h
    split at h
    · rename_i hw
      split at h
      rotate_left
      · cases h
      rename_i v H1 hv
      have hv2 := hv
      rw [oneOp_pure hcl] at hv2
      obtain rfl : H1 = H := float_heap he' hv2
      have hr2 : opA P o.op (restr (o.looksAt ops) fr) H1 = some (v, H1) := by rw [opA_restr o.op ops_looks]; exact hv2
      obtain ⟨h0, es', h1, h4⟩ := lexA_0 l _ _ _ _ (fun x hx => ha x (by simp [hx])) h (es ++ [⟨o, true, false, countEff es, loOf es o.after.toList, v, restr (o.looksAt ops) fr⟩]) (fun e hm => by
        rcases List.mem_append.1 hm with hm | hm
        · exact hg e hm
        · simp at hm; subst hm; exact ⟨rfl, fun _ => ⟨_, hr2⟩⟩)
      refine ⟨h0, es', ?_, h4⟩
      unfold lexA
      simp only [want_restr, hw, he', hr2]
      exact h1
    · rename_i hw
      obtain ⟨h0, es', h1, h4⟩ := lexA_0 l _ _ _ _ (fun x hx => ha x (by simp [hx])) h (es ++ [⟨o, false, false, countEff es, loOf es o.after.toList, .t [], restr (o.looksAt ops) fr⟩]) (fun e hm => by
        rcases List.mem_append.1 hm with hm | hm
        · exact hg e hm
        · simp at hm; subst hm; exact ⟨rfl, fun h => by cases h⟩)
      refine ⟨h0, es', ?_, h4⟩
      unfold lexA
      simp only [want_restr, hw]
      exact h1
    · cases h
theorem draw_0 {P : Program} {call : CallA} {ops : Array Oper} {H H' : Heap} {fr fr' : List AV} (hok : drawOk0 P ops = true) (h : opsA P call ops ops.toList fr H = some (fr', H')) : drawA P call ops fr H = some (fr', H') := by
  unfold drawOk0 at hok
  simp only [Bool.and_eq_true] at hok
  obtain ⟨⟨⟨⟨a, b⟩, c⟩, d⟩, e⟩ := hok
  rw [List.all_eq_true] at e
  obtain ⟨h0, es', h1, h4⟩ := lexA_0 (ops := ops) _ _ _ _ _ (fun o ho => by simpa using e o ho) h [] (fun e he => by simp at he)
  unfold drawA
  simp only [a, b, c, d, Bool.and_self, if_true, h1]
  rw [if_pos]
  rw [List.all_eq_true]
  intro x hx
  obtain ⟨hxe, hx2⟩ := h4 x hx
  cases hw : x.wanted with
  | false => simp [hxe]
  | true =>
    obtain ⟨H3, hval⟩ := hx2 hw
    have : floatOk P x [H] = true := by
      unfold floatOk
      rw [List.all_eq_true]
      intro h hh
      have hh := List.mem_of_mem_drop hh
      simp at hh
      subst hh
      rw [hval]
      exact sameV_refl _
    simp [hxe, this]
theorem RU.draw0 {P : Program} {S : CallA} {id : Nat} {ops : Array Oper} {fr fr1 : List AV} {H H1 : Heap} (hok : drawOk0 P ops = true) (h : OS P S ops ops.toList fr H (fr1, H1)) : RU P S (.region id ops true) fr H (.normal, fr1, H1) := by
  obtain ⟨n1, k1⟩ := h
  refine ⟨n1 + 1, fun n hn => ?_⟩
  obtain ⟨m, rfl⟩ : ∃ m, n = m + 1 := ⟨n - 1, by omega⟩
  have := draw_0 hok (k1 m (by omega))
  simp only [run] at this
  simp [exec, this]
end Go.Proofs.YtiifcfngbbhgoaaGreatDoor.Ax

