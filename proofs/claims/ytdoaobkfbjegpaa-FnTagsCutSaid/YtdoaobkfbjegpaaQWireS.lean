/-
  WHAT THE REFERENCE WRITES of a tree, field by field, is what a format says of a value.
-/
import Derived.Test.YtdoaobkfbjegpaaQWireB
import Derived.Test.YtdoaobkfbjegpaaQRdStr
set_option linter.constructorNameAsVariable false
set_option linter.unusedVariables false
set_option linter.unusedSimpArgs false
namespace Go.Proofs.Ytdoaobkfbjegpaa.Wire
inductive Fdl where
  | nil
  | fld (kind : Nat) (frm to null tag dflt : Int) (of : Nat) (sub rest : Fdl)
  deriving DecidableEq
inductive Tr where
  | mk (n : Int) (s : B) (null : Bool) (l : List Tr) (u : List (Nat × B))
def Tr.n : Tr → Int | .mk n _ _ _ _ => n
def Tr.s : Tr → B | .mk _ s _ _ _ => s
def Tr.null : Tr → Bool | .mk _ _ b _ _ => b
def Tr.l : Tr → List Tr | .mk _ _ _ l _ => l
def Tr.u : Tr → List (Nat × B) | .mk _ _ _ _ u => u
def Tr.zero : Tr := .mk 0 [] false [] []
def Tr.at (t : Tr) (i : Nat) : Tr := t.l.getD i .zero
inductive Tr.Fine : Tr → Prop
  | mk {n : Int} {s : B} {b : Bool} {l : List Tr} {u : List (Nat × B)} (hu : ∀ x ∈ u, x.1 < 2 ^ 32) (hl : ∀ x ∈ l, Tr.Fine x) : Tr.Fine (.mk n s b l u)
theorem Tr.Fine.zero : Tr.Fine .zero := .mk (fun x h => by cases h) (fun x h => by cases h)
theorem Tr.Fine.l {t : Tr} (h : t.Fine) : ∀ x ∈ t.l, x.Fine := by cases h; assumption
theorem Tr.Fine.u {t : Tr} (h : t.Fine) : ∀ x ∈ t.u, x.1 < 2 ^ 32 := by cases h; assumption
theorem Tr.Fine.at {t : Tr} (h : t.Fine) (i : Nat) : (t.at i).Fine := by
  unfold Tr.at
  rw [List.getD_eq_getElem?_getD]
  cases hx : t.l[i]? with
  | none => exact .zero
  | some x => exact h.l x (List.mem_of_getElem? hx)
def hasS (frm to : Int) (ver : Nat) : Bool := decide (frm ≤ ver) && (decide (to < 0) || decide ((ver : Int) ≤ to))
def nulS (null : Int) (ver : Nat) : Bool := decide (0 ≤ null) && decide (null ≤ ver)
def kindK : Nat → K
  | 0 => .bool
  | 1 => .i8
  | 2 => .i16
  | 3 => .i32
  | 4 => .i64
  | 5 => .u16
  | 6 => .f64
  | 7 => .uuid
  | 8 => .str
  | 9 => .bytes
  | _ => .i64
def whole (b : B) : B := b.take 32767
def leafS (flex : Bool) (k : K) (null : Bool) (t : Tr) : B :=
  match k with
  | .bool => [if t.n % 2 = 1 then 1 else 0]
  | .uuid => (t.s ++ List.replicate 16 0).take 16
  | .str | .pstr => if null then cnt0 flex 2 else cnt flex 2 (whole t.s).length ++ whole t.s
  | .bytes => if null then cnt0 flex 4 else cnt flex 4 (whole t.s).length ++ whole t.s
  | k => be k.size t.n
def putF (k : Nat) (v : B) : List (Nat × B) → List (Nat × B)
  | [] => [(k, v)]
  | (k', v') :: r => if k < k' then (k, v) :: (k', v') :: r else if k = k' then (k', v') :: r else (k', v') :: putF k v r
def unkS (l : List (Nat × B)) : List (Nat × B) := (l.take 32767).foldl (fun a t => putF t.1 t.2 a) []
def tagsW (l : List (Nat × B)) : List (Nat × B) := (unkS l).map fun t => (t.1, whole t.2)
def tlS (flex : Bool) (t : Tr) : B := if flex then uv (tagsW t.u).length ++ encT (tagsW t.u) else []
def bodyS (ver : Nat) (flex : Bool) : Fdl → Nat → Tr → B
  | .nil, _, _ => []
  | .fld kind frm to null _ _ of sub rest, i, t =>
    (if hasS frm to ver then
      (if kind = 11 then
        (if (t.at i).null && nulS null ver then cnt0 flex 4 else
          cnt flex 4 ((t.at i).l.take 32767).length ++ ((t.at i).l.take 32767).flatMap fun x => if of = 10 then bodyS ver flex sub 0 x ++ tlS flex x else leafS flex (kindK of) false x)
      else if kind = 10 then bodyS ver flex sub 0 (t.at i) ++ tlS flex (t.at i)
      else leafS flex (kindK kind) ((t.at i).null && nulS null ver) (t.at i))
    else []) ++ bodyS ver flex rest (i + 1) t
def partS (ver : Nat) (flex : Bool) (fd : Fdl) (t : Tr) : B := bodyS ver flex fd 0 t ++ tlS flex t
def tlF (flex : Bool) (r : F) : F := if flex then .tags 0 r else r
def fmtS (ver : Nat) (flex : Bool) : Fdl → F → F
  | .nil, r => r
  | .fld kind frm to null _ _ of sub rest, r =>
    if hasS frm to ver then
      (if kind = 11 then .list 0 0 (nulS null ver) (if of = 10 then fmtS ver flex sub (tlF flex .nil) else .leaf 0 (kindK of) false .nil) (fmtS ver flex rest r)
      else if kind = 10 then fmtS ver flex sub (tlF flex (fmtS ver flex rest r))
      else .leaf 0 (kindK kind) (nulS null ver) (fmtS ver flex rest r))
    else fmtS ver flex rest r
def fmtP (ver : Nat) (flex : Bool) (fd : Fdl) : F := fmtS ver flex fd (tlF flex .nil)
def leafV (k : K) (null : Bool) (t : Tr) : V :=
  match k with
  | .bool => .b (decide (t.n % 2 = 1))
  | .uuid => .s ((t.s ++ List.replicate 16 0).take 16)
  | .str | .bytes | .pstr => if null then .nul else .s (whole t.s)
  | .u16 => .i (nat (be 2 t.n) : Nat)
  | .f64 => .i (nat (be 8 t.n) : Nat)
  | k => .i (sgn k.size (nat (be k.size t.n)))
def tlV (flex : Bool) (t : Tr) (w : V) : V := if flex then .c (.t (tagsW t.u)) w else w
def valS (ver : Nat) (flex : Bool) : Fdl → Nat → Tr → V → V
  | .nil, _, _, w => w
  | .fld kind frm to null _ _ of sub rest, i, t, w =>
    if hasS frm to ver then
      (if kind = 11 then .c (if (t.at i).null && nulS null ver then .nul else .l (((t.at i).l.take 32767).map fun x => if of = 10 then valS ver flex sub 0 x (tlV flex x .u) else .c (leafV (kindK of) false x) .u)) (valS ver flex rest (i + 1) t w)
      else if kind = 10 then valS ver flex sub 0 (t.at i) (tlV flex (t.at i) (valS ver flex rest (i + 1) t w))
      else .c (leafV (kindK kind) ((t.at i).null && nulS null ver) (t.at i)) (valS ver flex rest (i + 1) t w))
    else valS ver flex rest (i + 1) t w
def valP (ver : Nat) (flex : Bool) (fd : Fdl) (t : Tr) : V := valS ver flex fd 0 t (tlV flex t .u)
theorem putF_ok : ∀ (ts : List (Nat × B)) (m k : Nat) (v : B), okT m ts → m ≤ k → k < 2 ^ 32 → v.length < 2 ^ 32 → okT m (putF k v ts)
  | [], m, k, v, _, h1, h2, h3 => ⟨h1, h2, h3, trivial⟩
  | (k', v') :: r, m, k, v, h, h1, h2, h3 => by
    obtain ⟨a, b, c, d⟩ := h
    unfold putF
    split
    · exact ⟨h1, h2, h3, by omega, b, c, d⟩
    · split
      · exact ⟨a, b, c, d⟩
      · exact ⟨a, b, c, putF_ok r _ k v d (by omega) h2 h3⟩
theorem be_eq1 {m n : Int} (h : m % 256 = n % 256) : be 1 m = be 1 n := by simp [be, h]
theorem be_eq2 {m n : Int} (h : m % 65536 = n % 65536) : be 2 m = be 2 n := by
  have h1 : m / 256 % 256 = n / 256 % 256 := by omega
  have h2 : m % 256 = n % 256 := by omega
  simp [be, h1, h2]
theorem be_eq4 {m n : Int} (h : m % 4294967296 = n % 4294967296) : be 4 m = be 4 n := by
  have h1 : m / 16777216 % 256 = n / 16777216 % 256 := by omega
  have h2 : m / 65536 % 256 = n / 65536 % 256 := by omega
  have h3 : m / 256 % 256 = n / 256 % 256 := by omega
  have h4 : m % 256 = n % 256 := by omega
  simp [be, h1, h2, h3, h4]
theorem be_eq8 {m n : Int} (h : m % 18446744073709551616 = n % 18446744073709551616) : be 8 m = be 8 n := by
  rw [be8, be8, be_eq4 (show m / 4294967296 % 4294967296 = n / 4294967296 % 4294967296 by omega), be_eq4 (show m % 4294967296 = n % 4294967296 by omega)]
theorem enc_leafV (flex : Bool) (k : K) (null : Bool) (t : Tr) : encK flex k (leafV k null t) = leafS flex k null t := by
  cases k
  case bool => simp [encK, leafV, leafS]
  case uuid => rfl
  case str => cases null <;> simp [encK, leafV, leafS]
  case pstr => cases null <;> simp [encK, leafV, leafS]
  case bytes => cases null <;> simp [encK, leafV, leafS]
  case i8 =>
    show be 1 (sgn 1 (nat (be 1 t.n))) = be 1 t.n
    apply be_eq1; have := nat_be1 t.n; unfold sgn; split <;> omega
  case i16 =>
    show be 2 (sgn 2 (nat (be 2 t.n))) = be 2 t.n
    apply be_eq2; have := nat_be2 t.n; unfold sgn; split <;> omega
  case i32 =>
    show be 4 (sgn 4 (nat (be 4 t.n))) = be 4 t.n
    apply be_eq4; have := nat_be4 t.n; unfold sgn; split <;> omega
  case i64 =>
    show be 8 (sgn 8 (nat (be 8 t.n))) = be 8 t.n
    apply be_eq8; have := nat_be8 t.n; unfold sgn; split <;> omega
  case u16 =>
    show be 2 (nat (be 2 t.n) : Nat) = be 2 t.n
    apply be_eq2; have := nat_be2 t.n; omega
  case f64 =>
    show be 8 (nat (be 8 t.n) : Nat) = be 8 t.n
    apply be_eq8; have := nat_be8 t.n; omega
theorem whole_len (b : B) : (whole b).length ≤ 32767 := by unfold whole; rw [List.length_take]; omega
theorem putF_map (k : Nat) (v : B) : ∀ ts : List (Nat × B), (putF k v ts).map (fun t => (t.1, whole t.2)) = putF k (whole v) (ts.map fun t => (t.1, whole t.2))
  | [] => rfl
  | (k', v') :: r => by
    have ih := putF_map k v r
    unfold putF
    simp only [List.map_cons]
    by_cases h1 : k < k'
    · simp [h1]
    · by_cases h2 : k = k'
      · simp [h1, h2]
      · simp [h1, h2, ih]
theorem fold_map : ∀ (l a : List (Nat × B)), (l.foldl (fun a t => putF t.1 t.2 a) a).map (fun t => (t.1, whole t.2)) = l.foldl (fun a t => putF t.1 (whole t.2) a) (a.map fun t => (t.1, whole t.2))
  | [], a => rfl
  | t :: l, a => by
    simp only [List.foldl_cons]
    rw [fold_map l, putF_map]
theorem fold_ok : ∀ (l a : List (Nat × B)), (∀ x ∈ l, x.1 < 2 ^ 32) → okT 0 a → okT 0 (l.foldl (fun a t => putF t.1 (whole t.2) a) a)
  | [], a, _, h => h
  | t :: l, a, hl, h => by
    have := whole_len t.2
    exact fold_ok l _ (fun x hx => hl x (List.mem_cons_of_mem _ hx)) (putF_ok a 0 t.1 (whole t.2) h (Nat.zero_le _) (hl t List.mem_cons_self) (by omega))
end Go.Proofs.Ytdoaobkfbjegpaa.Wire

namespace Go.Proofs.Ytdoaobkfbjegpaa.Wire
def bulkU : List (Nat × B) → Nat
  | [] => 0
  | (_, v) :: r => 1 + v.length + bulkU r
mutual
def Tr.bulk : Tr → Nat
  | .mk _ s _ l u => 1 + s.length + bulkL l + bulkU u
def bulkL : List Tr → Nat
  | [] => 0
  | x :: r => x.bulk + bulkL r
end
theorem uv_le5 {n : Nat} (h : n < 34359738368) : (uv n).length ≤ 5 := by
  rw [uv]; split
  · simp
  · rw [uv]; split
    · simp
    · rw [uv]; split
      · simp
      · rw [uv]; split
        · simp
        · rw [uv]; split
          · simp
          · omega
theorem be_len' : ∀ (s : Nat) (n : Int), (be s n).length = s
  | 0, n => rfl
  | s + 1, n => by simp [be, be_len' s n]
theorem cnt_le (flex : Bool) {s n : Nat} (hs : s ≤ 5) (hn : n ≤ 32767) : (cnt flex s n).length ≤ 5 := by
  unfold cnt
  split
  · exact uv_le5 (by omega)
  · rw [be_len']; exact hs
def Fdl.len : Fdl → Nat
  | .nil => 0
  | .fld _ _ _ _ _ _ _ _ r => r.len + 1
def Fdl.plain : Fdl → Bool
  | .nil => true
  | .fld kind _ _ null tag _ of sub rest => decide (tag < 0) && decide (kind ≤ 11) && decide (of ≤ 10) && (decide (kind ≠ 10) || decide (null < 0)) && decide (sub.len ≤ 1000) && sub.plain && rest.plain
def Fdl.cost : Fdl → Nat
  | .nil => 0
  | .fld _ _ _ _ _ _ _ sub rest => sub.cost + 22 + rest.cost
end Go.Proofs.Ytdoaobkfbjegpaa.Wire

namespace Go.Proofs.Ytdoaobkfbjegpaa.Rd
open Go Go.Proofs.Ytdoaobkfbjegpaa.Ax Go.Proofs.Ytdoaobkfbjegpaa.Wire
set_option maxRecDepth 100000
def SlAt (H : Heap) (sz : Nat) (av : AV) (n : Nat) : Prop :=
  ((av = .s0 ∨ av = .se) ∧ n = 0) ∨ ∃ i o ty kn cs, av = .sl i o n ∧ 0 < n ∧ H[i]? = some (.cells ty kn cs) ∧ o + n * sz ≤ cs.length
def elAt (H : Heap) (sz : Nat) (av : AV) (j : Nat) : Option (List AV) :=
  match av with
  | .sl i o _ => match H[i]? with
    | some (.cells _ _ cs) => some ((cs.drop (o + j * sz)).take sz)
    | _ => none
  | _ => none
def Lt (H : Heap) : Nat → Prop := fun i => i < H.length
def TgAt (H : Heap) (av : AV) (us : List (Nat × B)) : Prop :=
  SlAt H 2 av us.length ∧ ∀ (j k : Nat) (bs : B), us[j]? = some (k, bs) → ∃ v, elAt H 2 av j = some [.i .u32 (k : Nat), v] ∧ BytesAt (Lt H) H v bs
inductive TrAt (H : Heap) : List AV → Tr → Prop
  | mk {n : Int} {s l u : AV} {nl : Bool} {bs : B} {ts : List Tr} {us : List (Nat × B)} (hn : -9223372036854775808 ≤ n ∧ n ≤ 9223372036854775807) (hs : BytesAt (Lt H) H s bs) (hu : TgAt H u us) (hl : SlAt H 5 l ts.length)
      (hx : ∀ (j : Nat) (x : Tr), ts[j]? = some x → ∀ c, elAt H 5 l j = some c → TrAt H c x) : TrAt H [.i .i64 n, s, .b nl, l, u] (.mk n bs nl ts us)
def FdC (H : Heap) : Fdl → List AV → Prop
  | .nil, cs => cs = []
  | .fld kind frm to null tag dflt of sub rest, cs => ∃ av cs', cs = .i .i64 (kind : Nat) :: .i .i64 frm :: .i .i64 to :: .i .i64 null :: .i .i64 tag :: .i .i64 dflt :: .i .i64 (of : Nat) :: av :: cs' ∧
      ((sub = .nil ∧ (av = .s0 ∨ av = .se)) ∨ ∃ i ty kn c2, av = .sl i 0 sub.len ∧ H[i]? = some (.cells ty kn c2) ∧ FdC H sub c2 ∧ sub ≠ .nil) ∧ FdC H rest cs'
def FdAt (H : Heap) (av : AV) (fd : Fdl) : Prop := (fd = .nil ∧ (av = .s0 ∨ av = .se)) ∨ ∃ i ty kn c2, av = .sl i 0 fd.len ∧ H[i]? = some (.cells ty kn c2) ∧ FdC H fd c2 ∧ fd ≠ .nil
def Kp (H H' : Heap) : Prop := H.length ≤ H'.length ∧ ∀ i, i < H.length → H'[i]? = H[i]?
theorem Kp.refl (H : Heap) : Kp H H := ⟨Nat.le_refl _, fun _ _ => rfl⟩
theorem Kp.trans {a b c : Heap} (h : Kp a b) (k : Kp b c) : Kp a c := ⟨Nat.le_trans h.1 k.1, fun i hi => by rw [k.2 i (Nat.lt_of_lt_of_le hi h.1), h.2 i hi]⟩
theorem Kp.at_ {H H' : Heap} (h : Kp H H') {i : Nat} {b : Blk} (hi : H[i]? = some b) : H'[i]? = some b := by
  rw [h.2 i (List.getElem?_eq_some_iff.1 hi).1]; exact hi
theorem Kp.app (H K : Heap) : Kp H (H ++ K) := ⟨by simp, fun i hi => by rw [List.getElem?_append_left hi]⟩
theorem Kp.w {L0 : Nat} {H H' : Heap} (h : Kp H H') (hL : L0 ≤ H.length) : WKeep L0 H H' := ⟨fun i hi => h.2 i (by omega), h.1⟩
section
variable {H H' : Heap}
theorem Kp.bytes (k : Kp H H') {av : AV} {bs : B} (h : BytesAt (Lt H) H av bs) : BytesAt (Lt H') H' av bs := by
  cases h with
  | z => exact .z
  | e => exact .e
  | s hA h h0 h1 => exact .s (show _ < H'.length from Nat.lt_of_lt_of_le hA k.1) (k.at_ h) h0 h1
theorem SlAt.kp {sz n : Nat} {av : AV} (h : SlAt H sz av n) (k : Kp H H') : SlAt H' sz av n := by
  rcases h with h | ⟨i, o, ty, kn, cs, h1, h2, h3, h4⟩
  · exact .inl h
  · exact .inr ⟨i, o, ty, kn, cs, h1, h2, k.at_ h3, h4⟩
theorem SlAt.el {sz n : Nat} {av : AV} (h : SlAt H sz av n) (k : Kp H H') {j : Nat} (hj : j < n) : elAt H' sz av j = elAt H sz av j := by
  rcases h with ⟨_, h⟩ | ⟨i, o, ty, kn, cs, rfl, h2, h3, h4⟩
  · omega
  · simp only [elAt, k.at_ h3, h3]
theorem SlAt.get {sz n : Nat} {av : AV} (h : SlAt H sz av n) {j : Nat} (hj : j < n) : ∃ c, elAt H sz av j = some c ∧ c.length = sz := by
  rcases h with ⟨_, h⟩ | ⟨i, o, ty, kn, cs, rfl, h2, h3, h4⟩
  · omega
  · refine ⟨(cs.drop (o + j * sz)).take sz, by simp only [elAt, h3], ?_⟩
    have : (j + 1) * sz ≤ n * sz := Nat.mul_le_mul_right _ hj
    rw [List.length_take, List.length_drop]
    have e : (j + 1) * sz = j * sz + sz := by rw [Nat.add_mul, Nat.one_mul]
    omega
theorem TgAt.kp {av : AV} {us : List (Nat × B)} (h : TgAt H av us) (k : Kp H H') : TgAt H' av us := by
  refine ⟨h.1.kp k, fun j n bs hj => ?_⟩
  obtain ⟨v, h1, h2⟩ := h.2 j n bs hj
  exact ⟨v, by rw [h.1.el k (List.getElem?_eq_some_iff.1 hj).1]; exact h1, k.bytes h2⟩
theorem TrAt.kp (k : Kp H H') {c : List AV} {t : Tr} (h : TrAt H c t) : TrAt H' c t := by
  induction h with
  | mk hn hs hu hl _ ih =>
    refine .mk hn (k.bytes hs) (hu.kp k) (hl.kp k) fun j x hj c hc => ?_
    rw [hl.el k (List.getElem?_eq_some_iff.1 hj).1] at hc
    exact ih j x hj c hc
theorem FdC.kp (k : Kp H H') : ∀ {fd : Fdl} {cs : List AV}, FdC H fd cs → FdC H' fd cs
  | .nil, _, h => h
  | .fld kind frm to null tag dflt of sub rest, cs, ⟨av, cs', h1, h2, h3⟩ => by
    refine ⟨av, cs', h1, ?_, FdC.kp k h3⟩
    rcases h2 with h | ⟨i, ty, kn, c2, h4, h5, h6, h7⟩
    · exact .inl h
    · exact .inr ⟨i, ty, kn, c2, h4, k.at_ h5, FdC.kp k h6, h7⟩
theorem FdAt.kp (k : Kp H H') {fd : Fdl} {av : AV} (h : FdAt H av fd) : FdAt H' av fd := by
  rcases h with h | ⟨i, ty, kn, c2, h4, h5, h6, h7⟩
  · exact .inl h
  · exact .inr ⟨i, ty, kn, c2, h4, k.at_ h5, FdC.kp k h6, h7⟩
theorem FdC.len : ∀ {fd : Fdl} {cs : List AV}, FdC H fd cs → cs.length = fd.len * 8
  | .nil, _, h => by have h : _ = _ := h; subst h; rfl
  | .fld kind frm to null tag dflt of sub rest, cs, ⟨av, cs', h1, h2, h3⟩ => by
    have := FdC.len h3
    subst h1
    simp [Fdl.len, this]; omega
end
end Go.Proofs.Ytdoaobkfbjegpaa.Rd

