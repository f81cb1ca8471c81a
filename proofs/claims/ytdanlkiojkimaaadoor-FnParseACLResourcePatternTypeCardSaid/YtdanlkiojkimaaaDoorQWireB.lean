/-
  WHAT IS WRITTEN IS READ AS THE SAME: tags, lists, messages; what is cut is not read.
-/
import Derived.Test.YtdanlkiojkimaaaDoorQAxLog
set_option linter.constructorNameAsVariable false
set_option linter.unusedVariables false
set_option linter.unusedSimpArgs false
namespace Go.Proofs.YtdanlkiojkimaaaDoor.Wire
theorem rdL_ok {flex : Bool} {p r : B} {l : Int} (h : rdL flex p = some (l, r)) : inI 4 l ∧ l ≤ r.length := by
  unfold rdL at h
  obtain ⟨⟨m, r'⟩, hc, h⟩ := Option.bind_eq_some_iff.1 h
  simp only at h
  split at h
  · cases h
  · rename_i h1
    simp at h
    obtain ⟨rfl, rfl⟩ := h
    refine ⟨?_, by omega⟩
    cases flex with
    | true =>
      simp only [if_true] at hc
      obtain ⟨⟨n, r0⟩, hv, hh⟩ := Option.map_eq_some_iff.1 hc
      simp at hh
      obtain ⟨rfl, rfl⟩ := hh
      generalize hx : (sgn 4 n - 1) % 4294967296 = x
      have : 0 ≤ x ∧ x < 4294967296 := by omega
      unfold inI sgn
      simp
      split <;> omega
    | false =>
      simp only [Bool.false_eq_true, if_false] at hc
      exact rdI_in (.inr (.inr (.inl rfl))) hc
theorem many_ok {d : B → Option (V × B)} : ∀ (n : Nat) {vs : List V} {p r : B}, many d n p = some (vs, r) → vs.length = n ∧ ∀ v ∈ vs, ∃ p r, d p = some (v, r)
  | 0, vs, p, r, h => by
    simp [many] at h
    obtain ⟨rfl, rfl⟩ := h
    exact ⟨rfl, fun v hv => by simp at hv⟩
  | n + 1, vs, p, r, h => by
    simp only [many] at h
    obtain ⟨⟨v, r1⟩, h1, h⟩ := Option.bind_eq_some_iff.1 h
    obtain ⟨⟨ws, r2⟩, h2, hh⟩ := Option.map_eq_some_iff.1 h
    simp at hh
    obtain ⟨rfl, rfl⟩ := hh
    have := many_ok n h2
    refine ⟨by simp [this.1], fun x hx => ?_⟩
    rcases List.mem_cons.1 hx with rfl | hx
    · exact ⟨_, _, h1⟩
    · exact this.2 x hx
end Go.Proofs.YtdanlkiojkimaaaDoor.Wire

namespace Go.Proofs.YtdanlkiojkimaaaDoor.Ax
open Go Go.Proofs.YtdanlkiojkimaaaDoor.Wire
def U8 (b : UInt8) : AV := .i .u8 (b.toNat : Int)
def u8s (bs : B) : List AV := bs.map U8
def bst (bs : B) : ByteArray := ⟨bs.toArray⟩
structure Bty (P : Program) (tB tU : TypeId) : Prop where
  elem : elemA P tB = some tU
  size : sizeA P tU = some 1
  bytes : bytesA P tU = some 1
  zero : zeroA P tU = some (.i .u8 0)
  agg : aggA P tU = some false
  u8 : P.underlying tU = some (.int .u8)
inductive BytesAt (A : Nat → Prop) (H : Heap) : AV → B → Prop
  | z : BytesAt A H .s0 []
  | e : BytesAt A H .se []
  | s {i o : Nat} {ty : TypeId} {kn : Kn} {cs : List AV} {bs : B} (hA : A i) (h : H[i]? = some (.cells ty kn cs)) (h0 : 0 < bs.length) (h1 : (cs.drop o).take bs.length = u8s bs) : BytesAt A H (.sl i o bs.length) bs
def Keep (A : Nat → Prop) (H H' : Heap) : Prop := H.length ≤ H'.length ∧ ∀ i b, A i → H[i]? = some b → H'[i]? = some b
theorem Keep.refl (A : Nat → Prop) (H : Heap) : Keep A H H := ⟨Nat.le_refl _, fun _ _ _ h => h⟩
theorem Keep.trans {A : Nat → Prop} {H H' H'' : Heap} (h : Keep A H H') (k : Keep A H' H'') : Keep A H H'' := ⟨Nat.le_trans h.1 k.1, fun i b a x => k.2 i b a (h.2 i b a x)⟩
theorem Keep.sub {A A' : Nat → Prop} (s : ∀ i, A' i → A i) {H H' : Heap} (h : Keep A H H') : Keep A' H H' := ⟨h.1, fun i b a x => h.2 i b (s i a) x⟩
theorem Keep.set {A : Nat → Prop} {H : Heap} {i : Nat} (hi : ¬ A i) (b : Blk) : Keep A H (H.set i b) := ⟨by simp, fun j c a x => by
  rw [List.getElem?_set]
  by_cases e : i = j
  · subst e; exact absurd a hi
  · rw [if_neg e]; exact x⟩
theorem Keep.app (A : Nat → Prop) (H K : Heap) : Keep A H (H ++ K) := ⟨by simp, fun i b _ x => by rw [List.getElem?_append_left (List.getElem?_eq_some_iff.1 x).1]; exact x⟩
section
variable {P : Program} {tB tU : TypeId} {A : Nat → Prop} {H H' : Heap} {av : AV} {bs : B}
theorem u8s_length (bs : B) : (u8s bs).length = bs.length := by simp [u8s]
theorem u8s_one (bs : B) : (u8s bs).all AV.one = true := by
  rw [List.all_eq_true]
  intro x hx
  obtain ⟨b, _, rfl⟩ := List.mem_map.1 hx
  rfl
theorem BytesAt.keep (h : BytesAt A H av bs) (k : Keep A H H') : BytesAt A H' av bs := by
  cases h with
  | z => exact .z
  | e => exact .e
  | s hA h h0 h1 => exact .s hA (k.2 _ _ hA h) h0 h1
theorem BytesAt.sub {A' : Nat → Prop} (s : ∀ i, A i → A' i) (h : BytesAt A H av bs) : BytesAt A' H av bs := by
  cases h with
  | z => exact .z
  | e => exact .e
  | s hA h h0 h1 => exact .s (s _ hA) h h0 h1
theorem cells_fit {cs : List AV} {o n : Nat} {bs : B} (h : (cs.drop o).take n = u8s bs) (hn : n = bs.length) (h0 : 0 < bs.length) : o + n ≤ cs.length := by
  have := congrArg List.length h
  rw [u8s_length, List.length_take, List.length_drop] at this
  omega
theorem elem_slice {t e : TypeId} (h : elemA P t = some e) : P.underlying t = some (.slice e) := run_elemA h
theorem BytesAt.len (T : Bty P tB tU) (h : BytesAt A H av bs) : lenA P tB av = some (.i .i64 bs.length) := by
  have hu := elem_slice T.elem
  unfold lenA
  cases h <;> simp [hu]
theorem BytesAt.lo (T : Bty P tB tU) (h : BytesAt A H av bs) (kd : IntKind) {n : Nat} (hn : n ≤ bs.length) :
    ∃ av', sliceA P tB av (some (.i kd n)) none = some av' ∧ BytesAt A H av' (bs.drop n) ∧ ((0 < n ∨ av ≠ .s0) → av' ≠ .s0) := by
  unfold sliceA
  simp only [T.elem, T.size]
  cases h with
  | z =>
    obtain rfl : n = 0 := by simpa using hn
    exact ⟨.s0, by simp, by simpa using BytesAt.z, fun h => by rcases h with h | h <;> simp at h⟩
  | e =>
    obtain rfl : n = 0 := by simpa using hn
    exact ⟨.se, by simp, by simpa using BytesAt.e, fun _ => by simp⟩
  | @s i o ty kn cs bs hA h h0 h1 =>
    simp only
    rw [if_pos ⟨by omega, by omega, by omega⟩]
    by_cases e0 : n = 0
    · subst e0
      refine ⟨.sl i o bs.length, by simp, ?_, fun _ => by simp⟩
      simpa using BytesAt.s hA h h0 h1
    · rw [if_neg (by omega)]
      by_cases e1 : n = bs.length
      · rw [if_pos (by omega)]
        refine ⟨.se, rfl, ?_, fun _ => by simp⟩
        rw [e1, List.drop_length]; exact .e
      · rw [if_neg (by omega)]
        have hl : (bs.drop n).length = bs.length - n := by simp
        refine ⟨.sl i (o + n) (bs.drop n).length, by simp, .s hA h (by rw [hl]; omega) ?_, fun _ => by simp⟩
        rw [hl, ← List.drop_drop, ← List.drop_take, h1]
        simp [u8s]
theorem BytesAt.max (T : Bty P tB tU) (h : BytesAt A H av bs) (kd kd2 : IntKind) {n : Nat} (hn : n ≤ bs.length) :
    ∃ av', sliceMaxA P tB av (.i kd n) (.i kd2 n) = some av' ∧ BytesAt A H av' (bs.take n) ∧ (av ≠ .s0 → av' ≠ .s0) := by
  unfold sliceMaxA
  simp only [T.elem, T.size, if_true]
  cases h with
  | z =>
    obtain rfl : n = 0 := by simpa using hn
    exact ⟨.s0, by simp, by simpa using BytesAt.z, fun h => h⟩
  | e =>
    obtain rfl : n = 0 := by simpa using hn
    exact ⟨.se, by simp, by simpa using BytesAt.e, fun h => h⟩
  | @s i o ty kn cs bs hA h h0 h1 =>
    simp only
    rw [if_pos ⟨by omega, by omega⟩]
    by_cases e0 : n = 0
    · subst e0
      exact ⟨.se, by simp, by simpa using BytesAt.e, fun _ => by simp⟩
    · rw [if_neg (by omega)]
      have hl : (bs.take n).length = n := by simp; omega
      refine ⟨.sl i o (bs.take n).length, by rw [hl]; simp, .s hA h (by omega) ?_, fun _ => by simp⟩
      rw [hl]
      have : (cs.drop o).take n = ((cs.drop o).take bs.length).take n := by rw [List.take_take]; congr 1; omega
      rw [this, h1]
      simp [u8s, List.map_take]
theorem BytesAt.idx (T : Bty P tB tU) (h : BytesAt A H av bs) (kd : IntKind) {n : Nat} {b : UInt8} (hn : bs[n]? = some b) :
    ∃ p, indexAddrA P tB av (.i kd n) = some p ∧ loadA P H tU p = some (U8 b) := by
  have hlt := (List.getElem?_eq_some_iff.1 hn).1
  cases h with
  | z => simp at hn
  | e => simp at hn
  | @s i o ty kn cs bs hA h h0 h1 =>
    refine ⟨.p i (o + n), ?_, ?_⟩
    · simp only [indexAddrA, T.elem, T.size]
      rw [if_pos ⟨by omega, by omega⟩]
      simp
    · simp only [loadA, loadAt, h, T.agg]
      have : ((cs.drop o).take bs.length)[n]? = (u8s bs)[n]? := by rw [h1]
      rw [List.getElem?_take, if_pos hlt, List.getElem?_drop] at this
      rw [this]
      simp [u8s, hn]
theorem bytesOf_u8s : ∀ (bs : B), bytesOf (u8s bs) = some bs
  | [] => rfl
  | b :: r => by
    have := bytesOf_u8s r
    simp only [u8s, List.map_cons, U8, bytesOf] at *
    rw [this]
    simp
theorem BytesAt.str (h : BytesAt A H av bs) : strOf H av = some (bst bs) := by
  cases h with
  | z => rfl
  | e => rfl
  | @s i o ty kn cs bs hA h h0 h1 =>
    simp only [strOf, h]
    rw [if_pos (cells_fit h1 rfl h0), h1, bytesOf_u8s]
    rfl
theorem BytesAt.first (h : BytesAt A H av bs) : firstA H 1 av = some (bs.length, u8s bs) := by
  cases h with
  | z => rfl
  | e => rfl
  | @s i o ty kn cs bs hA h h0 h1 =>
    simp only [firstA, h, Nat.mul_one]
    rw [if_pos ⟨cells_fit h1 rfl h0, by rw [h1]; exact u8s_one _⟩, h1]
end
def RdAt (A : Nat → Prop) (tR : TypeId) (H : Heap) (rb : Nat) (nn : Bool) : Option B → Prop
  | some bs => ∃ src, H[rb]? = some (.cells tR .vr [src, .b false]) ∧ BytesAt A H src bs ∧ (nn = true → src ≠ .s0)
  | none => H[rb]? = some (.cells tR .vr [.s0, .b true])
def Got {α : Type} (st : Option B) (d : B → Option (α × B)) (st' : Option B) (R : α → Prop) : Prop :=
  match st with
  | none => st' = none
  | some bs => match d bs with
    | none => st' = none
    | some (v, r) => st' = some r ∧ R v
def K.ik : K → IntKind
  | .i8 => .i8
  | .i16 => .i16
  | .i32 => .i32
  | .i64 => .i64
  | .u16 => .u16
  | _ => .u8
def RepK (A : Nat → Prop) (H : Heap) (k : K) (null : Bool) (av : AV) (v : V) : Prop :=
  match k, v with
  | .bool, .b x => av = .b x
  | .f64, .i n => av = .f .f64 n.toNat
  | .uuid, .s bs => av = .g (u8s bs)
  | .str, .s bs => if null then ∃ i ty, A i ∧ av = .p i 0 ∧ H[i]? = some (.cells ty .vr [.s (bst bs)]) else av = .s (bst bs)
  | .str, .nul => av = .p0
  | .pstr, .s bs => ∃ i ty, A i ∧ av = .p i 0 ∧ H[i]? = some (.cells ty .vr [.s (bst bs)])
  | .bytes, .s bs => BytesAt A H av bs ∧ (null = true → av ≠ .s0)
  | .bytes, .nul => av = .s0
  | .i8, .i n | .i16, .i n | .i32, .i n | .i64, .i n | .u16, .i n => av = .i (K.ik k) n
  | _, _ => False
def RepF (A : Nat → Prop) (H : Heap) : F → V → List AV → Prop
  | .nil, _, _ => True
  | .leaf o k n r, .c v w, cs => (∃ av, RepK A H k n av v ∧ o + k.wide ≤ cs.length ∧ (cs.drop o).take k.wide = av.cells) ∧ RepF A H r w cs
  | .list o sz n e r, .c v w, cs => (match v with
    | .l vs => (vs = [] ∧ (n = false ∧ cs[o]? = some .s0 ∨ cs[o]? = some .se)) ∨
      ∃ i ty bl, 0 < vs.length ∧ A i ∧ cs[o]? = some (.sl i 0 vs.length) ∧ H[i]? = some (.cells ty .row bl) ∧ bl.length = vs.length * sz ∧ ∀ j x, vs[j]? = some x → RepF A H e x ((bl.drop (j * sz)).take sz)
    | .nul => cs[o]? = some .s0
    | _ => False) ∧ RepF A H r w cs
  | .tags _ _, _, _ => False
  | _, _, _ => False
end Go.Proofs.YtdanlkiojkimaaaDoor.Ax

