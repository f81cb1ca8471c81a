/-
  WHAT THE REFERENCE WRITES of a tree, field by field, is what a format says of a value.
-/
import Derived.Test.YtdanlkiojkimaaaDoorQWireB
set_option linter.constructorNameAsVariable false
set_option linter.unusedVariables false
set_option linter.unusedSimpArgs false
namespace Go.Proofs.YtdanlkiojkimaaaDoor.Wire
inductive Fdl where
  | nil
  | fld (kind : Nat) (frm to null tag dflt : Int) (of : Nat) (sub rest : Fdl)
  deriving DecidableEq
inductive Tr where
  | mk (n : Int) (s : B) (null : Bool) (l : List Tr) (u : List (Nat × B))
def Tr.n : Tr → Int | .mk n _ _ _ _ => n
def Tr.s : Tr → B | .mk _ s _ _ _ => s
def Tr.null : Tr → Bool | .mk _ _ b _ _ => b
def Tr.l : Tr → List Tr | .mk _ _ _ l _ => l
def Tr.u : Tr → List (Nat × B) | .mk _ _ _ _ u => u
def Tr.zero : Tr := .mk 0 [] false [] []
def Tr.at (t : Tr) (i : Nat) : Tr := t.l.getD i .zero
inductive Tr.Fine : Tr → Prop
  | mk {n : Int} {s : B} {b : Bool} {l : List Tr} {u : List (Nat × B)} (hu : ∀ x ∈ u, x.1 < 2 ^ 32) (hl : ∀ x ∈ l, Tr.Fine x) : Tr.Fine (.mk n s b l u)
theorem Tr.Fine.zero : Tr.Fine .zero := .mk (fun x h => by cases h) (fun x h => by cases h)
theorem Tr.Fine.l {t : Tr} (h : t.Fine) : ∀ x ∈ t.l, x.Fine := by cases h; assumption
theorem Tr.Fine.u {t : Tr} (h : t.Fine) : ∀ x ∈ t.u, x.1 < 2 ^ 32 := by cases h; assumption
theorem Tr.Fine.at {t : Tr} (h : t.Fine) (i : Nat) : (t.at i).Fine := by
  unfold Tr.at
  rw [List.getD_eq_getElem?_getD]
  cases hx : t.l[i]? with
  | none => exact .zero
  | some x => exact h.l x (List.mem_of_getElem? hx)
def hasS (frm to : Int) (ver : Nat) : Bool := decide (frm ≤ ver) && (decide (to < 0) || decide ((ver : Int) ≤ to))
def nulS (null : Int) (ver : Nat) : Bool := decide (0 ≤ null) && decide (null ≤ ver)
def kindK : Nat → K
  | 0 => .bool
  | 1 => .i8
  | 2 => .i16
  | 3 => .i32
  | 4 => .i64
  | 5 => .u16
  | 6 => .f64
  | 7 => .uuid
  | 8 => .str
  | 9 => .bytes
  | _ => .i64
def whole (b : B) : B := b.take 32767
def leafS (flex : Bool) (k : K) (null : Bool) (t : Tr) : B :=
  match k with
  | .bool => [if t.n % 2 = 1 then 1 else 0]
  | .uuid => (t.s ++ List.replicate 16 0).take 16
  | .str => if null then cnt0 flex 2 else cnt flex 2 (whole t.s).length ++ whole t.s
  | .bytes => if null then cnt0 flex 4 else cnt flex 4 (whole t.s).length ++ whole t.s
  | k => be k.size t.n
def putF (k : Nat) (v : B) : List (Nat × B) → List (Nat × B)
  | [] => [(k, v)]
  | (k', v') :: r => if k < k' then (k, v) :: (k', v') :: r else if k = k' then (k', v') :: r else (k', v') :: putF k v r
def unkS (l : List (Nat × B)) : List (Nat × B) := (l.take 32767).foldl (fun a t => putF t.1 t.2 a) []
def tagsW (l : List (Nat × B)) : List (Nat × B) := (unkS l).map fun t => (t.1, whole t.2)
def tlS (flex : Bool) (t : Tr) : B := if flex then uv (tagsW t.u).length ++ encT (tagsW t.u) else []
def bodyS (ver : Nat) (flex : Bool) : Fdl → Nat → Tr → B
  | .nil, _, _ => []
  | .fld kind frm to null _ _ of sub rest, i, t =>
    (if hasS frm to ver then
      (if kind = 11 then
        (if (t.at i).null && nulS null ver then cnt0 flex 4 else
          cnt flex 4 ((t.at i).l.take 32767).length ++ ((t.at i).l.take 32767).flatMap fun x => if of = 10 then bodyS ver flex sub 0 x ++ tlS flex x else leafS flex (kindK of) false x)
      else if kind = 10 then bodyS ver flex sub 0 (t.at i) ++ tlS flex (t.at i)
      else leafS flex (kindK kind) ((t.at i).null && nulS null ver) (t.at i))
    else []) ++ bodyS ver flex rest (i + 1) t
def partS (ver : Nat) (flex : Bool) (fd : Fdl) (t : Tr) : B := bodyS ver flex fd 0 t ++ tlS flex t
def tlF (flex : Bool) (r : F) : F := if flex then .tags 0 r else r
def fmtS (ver : Nat) (flex : Bool) : Fdl → F → F
  | .nil, r => r
  | .fld kind frm to null _ _ of sub rest, r =>
    if hasS frm to ver then
      (if kind = 11 then .list 0 0 (nulS null ver) (if of = 10 then fmtS ver flex sub (tlF flex .nil) else .leaf 0 (kindK of) false .nil) (fmtS ver flex rest r)
      else if kind = 10 then fmtS ver flex sub (tlF flex (fmtS ver flex rest r))
      else .leaf 0 (kindK kind) (nulS null ver) (fmtS ver flex rest r))
    else fmtS ver flex rest r
def fmtP (ver : Nat) (flex : Bool) (fd : Fdl) : F := fmtS ver flex fd (tlF flex .nil)
def leafV (k : K) (null : Bool) (t : Tr) : V :=
  match k with
  | .bool => .b (decide (t.n % 2 = 1))
  | .uuid => .s ((t.s ++ List.replicate 16 0).take 16)
  | .str | .bytes => if null then .nul else .s (whole t.s)
  | .u16 => .i (nat (be 2 t.n) : Nat)
  | .f64 => .i (nat (be 8 t.n) : Nat)
  | k => .i (sgn k.size (nat (be k.size t.n)))
def tlV (flex : Bool) (t : Tr) (w : V) : V := if flex then .c (.t (tagsW t.u)) w else w
def valS (ver : Nat) (flex : Bool) : Fdl → Nat → Tr → V → V
  | .nil, _, _, w => w
  | .fld kind frm to null _ _ of sub rest, i, t, w =>
    if hasS frm to ver then
      (if kind = 11 then .c (if (t.at i).null && nulS null ver then .nul else .l (((t.at i).l.take 32767).map fun x => if of = 10 then valS ver flex sub 0 x (tlV flex x .u) else .c (leafV (kindK of) false x) .u)) (valS ver flex rest (i + 1) t w)
      else if kind = 10 then valS ver flex sub 0 (t.at i) (tlV flex (t.at i) (valS ver flex rest (i + 1) t w))
      else .c (leafV (kindK kind) ((t.at i).null && nulS null ver) (t.at i)) (valS ver flex rest (i + 1) t w))
    else valS ver flex rest (i + 1) t w
def valP (ver : Nat) (flex : Bool) (fd : Fdl) (t : Tr) : V := valS ver flex fd 0 t (tlV flex t .u)
theorem enc_tlV (flex : Bool) (t : Tr) (r : F) (w : V) : enc flex (tlF flex r) (tlV flex t w) = tlS flex t ++ enc flex r w := by
  cases flex <;> simp [tlF, tlV, tlS, enc]
theorem putF_ok : ∀ (ts : List (Nat × B)) (m k : Nat) (v : B), okT m ts → m ≤ k → k < 2 ^ 32 → v.length < 2 ^ 32 → okT m (putF k v ts)
  | [], m, k, v, _, h1, h2, h3 => ⟨h1, h2, h3, trivial⟩
  | (k', v') :: r, m, k, v, h, h1, h2, h3 => by
    obtain ⟨a, b, c, d⟩ := h
    unfold putF
    split
    · exact ⟨h1, h2, h3, by omega, b, c, d⟩
    · split
      · exact ⟨a, b, c, d⟩
      · exact ⟨a, b, c, putF_ok r _ k v d (by omega) h2 h3⟩
theorem be_eq1 {m n : Int} (h : m % 256 = n % 256) : be 1 m = be 1 n := by simp [be, h]
theorem be_eq2 {m n : Int} (h : m % 65536 = n % 65536) : be 2 m = be 2 n := by
  have h1 : m / 256 % 256 = n / 256 % 256 := by omega
  have h2 : m % 256 = n % 256 := by omega
  simp [be, h1, h2]
theorem be_eq4 {m n : Int} (h : m % 4294967296 = n % 4294967296) : be 4 m = be 4 n := by
  have h1 : m / 16777216 % 256 = n / 16777216 % 256 := by omega
  have h2 : m / 65536 % 256 = n / 65536 % 256 := by omega
  have h3 : m / 256 % 256 = n / 256 % 256 := by omega
  have h4 : m % 256 = n % 256 := by omega
  simp [be, h1, h2, h3, h4]
theorem be_eq8 {m n : Int} (h : m % 18446744073709551616 = n % 18446744073709551616) : be 8 m = be 8 n := by
  rw [be8, be8, be_eq4 (show m / 4294967296 % 4294967296 = n / 4294967296 % 4294967296 by omega), be_eq4 (show m % 4294967296 = n % 4294967296 by omega)]
theorem enc_leafV (flex : Bool) (k : K) (null : Bool) (t : Tr) : encK flex k (leafV k null t) = leafS flex k null t := by
  cases k
  case bool => simp [encK, leafV, leafS]
  case uuid => rfl
  case str => cases null <;> simp [encK, leafV, leafS]
  case bytes => cases null <;> simp [encK, leafV, leafS]
  case i8 =>
    show be 1 (sgn 1 (nat (be 1 t.n))) = be 1 t.n
    apply be_eq1; have := nat_be1 t.n; unfold sgn; split <;> omega
  case i16 =>
    show be 2 (sgn 2 (nat (be 2 t.n))) = be 2 t.n
    apply be_eq2; have := nat_be2 t.n; unfold sgn; split <;> omega
  case i32 =>
    show be 4 (sgn 4 (nat (be 4 t.n))) = be 4 t.n
    apply be_eq4; have := nat_be4 t.n; unfold sgn; split <;> omega
  case i64 =>
    show be 8 (sgn 8 (nat (be 8 t.n))) = be 8 t.n
    apply be_eq8; have := nat_be8 t.n; unfold sgn; split <;> omega
  case u16 =>
    show be 2 (nat (be 2 t.n) : Nat) = be 2 t.n
    apply be_eq2; have := nat_be2 t.n; omega
  case f64 =>
    show be 8 (nat (be 8 t.n) : Nat) = be 8 t.n
    apply be_eq8; have := nat_be8 t.n; omega
theorem whole_len (b : B) : (whole b).length ≤ 32767 := by unfold whole; rw [List.length_take]; omega
theorem ok_leafV (flex : Bool) (k : K) (nl null : Bool) (t : Tr) (h : null = true → nl = true) : okK flex k nl (leafV k null t) := by
  have hw := whole_len t.s
  cases k
  case bool => trivial
  case uuid => show ((t.s ++ List.replicate 16 0).take 16).length = 16; simp
  case str =>
    cases null
    · show if flex then (whole t.s).length + 1 < 2 ^ 32 else (whole t.s).length < 2 ^ 15
      split <;> omega
    · exact h rfl
  case bytes =>
    cases null
    · show if flex then (whole t.s).length + 1 < 2 ^ 32 else (whole t.s).length < 2 ^ 31
      split <;> omega
    · exact h rfl
  case i8 => exact sgn_in (.inl rfl) (be_length 1 t.n)
  case i16 => exact sgn_in (.inr (.inl rfl)) (be_length 2 t.n)
  case i32 => exact sgn_in (.inr (.inr (.inl rfl))) (be_length 4 t.n)
  case i64 => exact sgn_in (.inr (.inr (.inr rfl))) (be_length 8 t.n)
  case u16 =>
    have := nat_be2 t.n
    show (0 : Int) ≤ (nat (be 2 t.n) : Nat) ∧ ((nat (be 2 t.n) : Nat) : Int) < 2 ^ 16
    omega
  case f64 =>
    have := nat_be8 t.n
    show (0 : Int) ≤ (nat (be 8 t.n) : Nat) ∧ ((nat (be 8 t.n) : Nat) : Int) < 2 ^ 64
    omega
theorem nul_and {a b : Bool} (h : (a && b) = true) : b = true := by cases a <;> simp at h; exact h
theorem enc_valS (ver : Nat) (flex : Bool) : ∀ (fd : Fdl) (i : Nat) (t : Tr) (r : F) (w : V), enc flex (fmtS ver flex fd r) (valS ver flex fd i t w) = bodyS ver flex fd i t ++ enc flex r w
  | .nil, i, t, r, w => by simp [fmtS, valS, bodyS]
  | .fld kind frm to null tag dflt of sub rest, i, t, r, w => by
    have ih1 := enc_valS ver flex sub
    have ih2 := enc_valS ver flex rest (i + 1) t r w
    unfold fmtS valS bodyS
    by_cases hh : hasS frm to ver = true
    · simp only [hh, if_true]
      by_cases h11 : kind = 11
      · simp only [h11, if_true]
        by_cases hn : ((t.at i).null && nulS null ver) = true
        · simp only [hn, if_true, enc, ih2, List.append_assoc]
        · have hn : ((t.at i).null && nulS null ver) = false := by simpa using hn
          simp only [hn, Bool.false_eq_true, if_false, enc, ih2, List.length_map, List.flatMap_map, List.append_assoc]
          congr 2
          congr 1
          funext x
          by_cases ho : of = 10
          · simp only [ho, if_true, ih1, enc_tlV, enc, List.append_nil]
          · simp only [ho, if_false, enc, enc_leafV, List.append_nil]
      · simp only [h11, if_false]
        by_cases h10 : kind = 10
        · simp only [h10, if_true, ih1, enc_tlV, ih2, List.append_assoc]
        · simp only [h10, if_false, enc, enc_leafV, ih2, List.append_assoc]
    · have hh : hasS frm to ver = false := by simpa using hh
      simp only [hh, Bool.false_eq_true, if_false, List.nil_append, ih2]
theorem putF_map (k : Nat) (v : B) : ∀ ts : List (Nat × B), (putF k v ts).map (fun t => (t.1, whole t.2)) = putF k (whole v) (ts.map fun t => (t.1, whole t.2))
  | [] => rfl
  | (k', v') :: r => by
    have ih := putF_map k v r
    unfold putF
    simp only [List.map_cons]
    by_cases h1 : k < k'
    · simp [h1]
    · by_cases h2 : k = k'
      · simp [h1, h2]
      · simp [h1, h2, ih]
theorem fold_map : ∀ (l a : List (Nat × B)), (l.foldl (fun a t => putF t.1 t.2 a) a).map (fun t => (t.1, whole t.2)) = l.foldl (fun a t => putF t.1 (whole t.2) a) (a.map fun t => (t.1, whole t.2))
  | [], a => rfl
  | t :: l, a => by
    simp only [List.foldl_cons]
    rw [fold_map l, putF_map]
theorem fold_ok : ∀ (l a : List (Nat × B)), (∀ x ∈ l, x.1 < 2 ^ 32) → okT 0 a → okT 0 (l.foldl (fun a t => putF t.1 (whole t.2) a) a)
  | [], a, _, h => h
  | t :: l, a, hl, h => by
    have := whole_len t.2
    exact fold_ok l _ (fun x hx => hl x (List.mem_cons_of_mem _ hx)) (putF_ok a 0 t.1 (whole t.2) h (Nat.zero_le _) (hl t List.mem_cons_self) (by omega))
theorem putF_len (k : Nat) (v : B) : ∀ ts : List (Nat × B), (putF k v ts).length ≤ ts.length + 1
  | [] => by simp [putF]
  | (k', v') :: r => by
    have := putF_len k v r
    unfold putF
    split
    · simp
    · split
      · simp
      · simp; omega
theorem fold_len : ∀ (l a : List (Nat × B)), (l.foldl (fun a t => putF t.1 t.2 a) a).length ≤ a.length + l.length
  | [], a => by simp
  | t :: l, a => by
    have h1 := fold_len l (putF t.1 t.2 a)
    have h2 := putF_len t.1 t.2 a
    simp only [List.foldl_cons, List.length_cons]
    omega
theorem tagsW_ok {u : List (Nat × B)} (h : ∀ x ∈ u, x.1 < 2 ^ 32) : okT 0 (tagsW u) ∧ (tagsW u).length < 2 ^ 32 := by
  unfold tagsW unkS
  constructor
  · rw [fold_map]
    exact fold_ok _ _ (fun x hx => h x (List.mem_of_mem_take hx)) trivial
  · rw [List.length_map]
    have h1 := fold_len (u.take 32767) []
    have h2 : (u.take 32767).length ≤ 32767 := by rw [List.length_take]; omega
    simp only [List.length_nil] at h1
    omega
theorem ok_tlV {flex : Bool} {t : Tr} (h : t.Fine) {r : F} {w : V} (hw : ok flex r w) : ok flex (tlF flex r) (tlV flex t w) := by
  obtain ⟨a, b⟩ := tagsW_ok h.u
  unfold tlF tlV
  cases flex
  · exact hw
  · exact ⟨a, b, hw⟩
theorem ok_valS (ver : Nat) (flex : Bool) : ∀ (fd : Fdl) (i : Nat) (t : Tr) (r : F) (w : V), t.Fine → ok flex r w → ok flex (fmtS ver flex fd r) (valS ver flex fd i t w)
  | .nil, i, t, r, w, h, hw => hw
  | .fld kind frm to null tag dflt of sub rest, i, t, r, w, h, hw => by
    have ih1 := ok_valS ver flex sub
    have ih2 := ok_valS ver flex rest (i + 1) t r w h hw
    unfold fmtS valS
    by_cases hh : hasS frm to ver = true
    · simp only [hh, if_true]
      by_cases h11 : kind = 11
      · simp only [h11, if_true]
        by_cases hn : ((t.at i).null && nulS null ver) = true
        · simp only [hn, if_true]
          exact ⟨nul_and hn, ih2⟩
        · have hn : ((t.at i).null && nulS null ver) = false := by simpa using hn
          simp only [hn, Bool.false_eq_true, if_false]
          refine ⟨⟨?_, fun x hx => ?_⟩, ih2⟩
          · rw [List.length_map, List.length_take]; omega
          · obtain ⟨y, hy, rfl⟩ := List.mem_map.1 hx
            have hyf : y.Fine := (h.at i).l y (List.mem_of_mem_take hy)
            by_cases ho : of = 10
            · simp only [ho, if_true]
              exact ih1 0 y _ _ hyf (ok_tlV hyf trivial)
            · simp only [ho, if_false]
              exact ⟨ok_leafV flex _ _ _ y (fun h => by cases h), trivial⟩
      · simp only [h11, if_false]
        by_cases h10 : kind = 10
        · simp only [h10, if_true]
          exact ih1 0 (t.at i) _ _ (h.at i) (ok_tlV (h.at i) ih2)
        · simp only [h10, if_false]
          exact ⟨ok_leafV flex _ _ _ _ (fun h => nul_and h), ih2⟩
    · have hh : hasS frm to ver = false := by simpa using hh
      simp only [hh, Bool.false_eq_true, if_false]
      exact ih2
theorem enc_valP (ver : Nat) (flex : Bool) (fd : Fdl) (t : Tr) : enc flex (fmtP ver flex fd) (valP ver flex fd t) = partS ver flex fd t := by
  unfold fmtP valP partS
  rw [enc_valS, enc_tlV]
  simp [enc]
theorem ok_valP (ver : Nat) (flex : Bool) (fd : Fdl) {t : Tr} (h : t.Fine) : ok flex (fmtP ver flex fd) (valP ver flex fd t) := ok_valS ver flex fd 0 t _ _ h (ok_tlV h trivial)
theorem again_part {ver : Nat} {flex : Bool} {fd : Fdl} {t : Tr} {f : F} (h : t.Fine) (hs : f.strip = (fmtP ver flex fd).strip) (hg : (fmtP ver flex fd).good = true) : dec flex f (partS ver flex fd t) = some (valP ver flex fd t, []) ∧ enc flex f (valP ver flex fd t) = partS ver flex fd t := by
  have e1 : enc flex f (valP ver flex fd t) = partS ver flex fd t := by rw [← enc_strip, hs, enc_strip, enc_valP]
  refine ⟨?_, e1⟩
  rw [← dec_strip, hs, dec_strip, ← enc_valP]
  have := dec_enc hg (ok_valP ver flex fd h) []
  rwa [List.append_nil] at this
theorem cut_part {ver : Nat} {flex : Bool} {fd : Fdl} {t : Tr} {f : F} (h : t.Fine) (hs : f.strip = (fmtP ver flex fd).strip) (hg : (fmtP ver flex fd).good = true) {p q : B} (hpq : partS ver flex fd t = p ++ q) (hq : q ≠ []) : dec flex f p = none := by
  rw [← dec_strip, hs, dec_strip]
  exact dec_cut hg (ok_valP ver flex fd h) (by rw [enc_valP]; exact hpq) hq
end Go.Proofs.YtdanlkiojkimaaaDoor.Wire

namespace Go.Proofs.YtdanlkiojkimaaaDoor.Wire
def verOf (bs : B) : Int := match rdI 2 bs with
  | some (k, _) => k
  | none => 0
def keptF (ver : Nat) (flex : Bool) (fd : Fdl) : F := .leaf 0 .i16 false (fmtP ver flex fd)
def keptV (ver : Nat) (flex : Bool) (fd : Fdl) (t : Tr) : V := .c (.i (ver : Nat)) (valP ver flex fd t)
def keptB (ver : Nat) (flex : Bool) (fd : Fdl) (t : Tr) : B := be 2 (ver : Nat) ++ partS ver flex fd t
theorem kept_enc (ver : Nat) (flex : Bool) (fd : Fdl) (t : Tr) : enc flex (keptF ver flex fd) (keptV ver flex fd t) = keptB ver flex fd t := by
  show encK flex .i16 (.i (ver : Nat)) ++ enc flex (fmtP ver flex fd) (valP ver flex fd t) = _
  rw [enc_valP]; rfl
theorem kept_ok {ver : Nat} {flex : Bool} {fd : Fdl} {t : Tr} (h : t.Fine) (hv : ver < 32768) : ok flex (keptF ver flex fd) (keptV ver flex fd t) :=
  ⟨inI2 hv, ok_valP ver flex fd h⟩
theorem kept_again {ver : Nat} {flex : Bool} {fd : Fdl} {t : Tr} {f : F} (h : t.Fine) (hv : ver < 32768) (hs : f.strip = (keptF ver flex fd).strip) (hg : (keptF ver flex fd).good = true) :
    dec flex f (keptB ver flex fd t) = some (keptV ver flex fd t, []) ∧ enc flex f (keptV ver flex fd t) = keptB ver flex fd t := by
  refine ⟨?_, by rw [← enc_strip, hs, enc_strip, kept_enc]⟩
  rw [← dec_strip, hs, dec_strip, ← kept_enc]
  have := dec_enc hg (kept_ok (flex := flex) (fd := fd) h hv) []
  rwa [List.append_nil] at this
theorem kept_cut {ver : Nat} {flex : Bool} {fd : Fdl} {t : Tr} {f : F} (h : t.Fine) (hv : ver < 32768) (hs : f.strip = (keptF ver flex fd).strip) (hg : (keptF ver flex fd).good = true) {p q : B} (hpq : keptB ver flex fd t = p ++ q) (hq : q ≠ []) : dec flex f p = none := by
  rw [← dec_strip, hs, dec_strip]
  exact dec_cut hg (kept_ok h hv) (by rw [kept_enc]; exact hpq) hq
theorem verOf_kept {ver : Nat} {flex : Bool} {fd : Fdl} {t : Tr} (hv : ver < 32768) : verOf (keptB ver flex fd t) = ver := by
  unfold verOf keptB
  rw [rdI_be (sgn_be2 (inI2 hv))]
theorem verOf_dec {flex : Bool} {o : Nat} {f : F} {bs r : B} {x : V} (h : dec flex (.leaf o .i16 false f) bs = some (x, r)) : ∃ y, x = .c (.i (verOf bs)) y := by
  have e : decK flex .i16 false bs = (rdI 2 bs).map fun (n, r) => (V.i n, r) := rfl
  simp only [dec, e] at h
  unfold verOf
  cases hr : rdI 2 bs with
  | none => rw [hr] at h; cases h
  | some p =>
    obtain ⟨n, r1⟩ := p
    rw [hr] at h
    simp only [Option.map_some, Option.bind_some, Option.map_eq_some_iff] at h
    obtain ⟨⟨w, r2⟩, _, h2⟩ := h
    simp only [Prod.mk.injEq] at h2
    exact ⟨w, h2.1.symm⟩
theorem verOf_in (bs : B) : -32768 ≤ verOf bs ∧ verOf bs ≤ 32767 := by
  unfold verOf
  cases hr : rdI 2 bs with
  | none => simp
  | some p =>
    obtain ⟨n, r1⟩ := p
    have := rdI_in (.inr (.inl rfl)) hr
    simp only [inI] at this
    simp; omega
end Go.Proofs.YtdanlkiojkimaaaDoor.Wire

