import Derived.Test.YtopfghmpaobnnaaDoorQLwKit
import Derived.ProofKit
import Derived.OpenShut
import Derived.ChangeSlices
import Derived.Stop.LaidErr
import Derived.Deep.DeepHandedRow
/-
  FROM THE ABSTRACT MACHINE TO THE WORLD: a law of a number and of octets whose run the machine answers with true.
-/
namespace Go.Proofs.YtopfghmpaobnnaaDoor.Rd
set_option linter.constructorNameAsVariable false
set_option linter.unusedVariables false
set_option linter.unusedSimpArgs false
open Go Go.RowKit Go.ChangeShapes Go.WideShapes Go.Proofs.YtopfghmpaobnnaaDoor.Ax Go.Proofs.YtopfghmpaobnnaaDoor.Wire
set_option linter.unusedVariables false
set_option linter.unusedSimpArgs false
set_option maxRecDepth 100000

theorem trod_iface {H : Type} {enc : TypeId × Value → H} {P : Program} {w : World} {base fuel : Nat} {sp : Nat → Bool} {t : TypeId} {ms : Array (String × TypeId)} {cs : List Value} {n : String} {x : DataW H} {p : List MemPlace} (hi : P.underlying t = some (.interface ms))
    (h : DataW.trod enc P w base sp false fuel t cs = some (.iface n x, p)) : ∃ u v, cs = [.iface u v] := by
  cases fuel with
  | zero => simp [DataW.trod] at h
  | succ fuel =>
    rcases cs with _ | ⟨c, _ | ⟨c', cs⟩⟩
    · simp [DataW.trod, hi] at h
    · cases c <;> first | exact ⟨_, _, rfl⟩ | (simp [DataW.trod, hi] at h)
    · simp [DataW.trod, hi] at h
theorem blk_of_var {P : Program} {W : World} {n : String} {g : Nat} {cs : Array Value} (hg : P.globalNamed n = some g) (h : W.var? P n = some cs) : ∃ ty fz, W.heap[g]? = some (.cells cs ty fz) := by
  unfold World.var? at h
  simp only [hg, Option.bind_some] at h
  split at h
  · rename_i c t f hh
    simp at h
    subst h
    exact ⟨_, _, hh⟩
  · cases h

/-- Where the octets lie: the block, its type, how many cells are ahead, the octets. -/
structure DataAt where
  j : Nat
  ty : TypeId
  o : Nat
  bs : B
def blk0 (d : Option DataAt) (i : Nat) : Blk :=
  match d with
  | some d => if i = d.j then .cells d.ty .ro (List.replicate d.o .u ++ u8s d.bs) else .dead
  | none => .dead
/-- The machine's heap when the law is called. -/
def heap0 (n : Nat) (tB tE : TypeId) (d : Option DataAt) : Heap := (List.range (n + 1)).map fun i =>
  if i = 0 then .cells tB .ro [] else
  if i = 1 then .cells tE .ro [.e] else blk0 d i
def loc0 (n : Nat) : List Ax.Loc := (List.range (n + 1)).map fun i => ⟨i, 0, false⟩
theorem rng_at (n i : Nat) : (List.range n)[i]? = if i < n then some i else none := by
  by_cases h : i < n
  · rw [if_pos h, List.getElem?_range h]
  · rw [if_neg h, List.getElem?_eq_none (by simpa using h)]
theorem loc0_at {n i : Nat} {l : Ax.Loc} (h : (loc0 n)[i]? = some l) : l = ⟨i, 0, false⟩ := by
  simp only [loc0, List.getElem?_map, rng_at] at h
  by_cases hi : i < n + 1
  · rw [if_pos hi] at h; simp at h; exact h.symm
  · rw [if_neg hi] at h; simp at h
theorem loc0_some {n i : Nat} (h : i < n + 1) : (loc0 n)[i]? = some ⟨i, 0, false⟩ := by
  simp only [loc0, List.getElem?_map, rng_at, if_pos h]
  simp
theorem heap0_len (n : Nat) (tB tE : TypeId) (d : Option DataAt) : (heap0 n tB tE d).length = n + 1 := by simp [heap0]

theorem ro_live {P : Program} {ρ : Nat → Value} {base : Nat} {μ : List Ax.Loc} {W : World} {i : Nat} (hi : i < base) {cur : Array Value} {ty : TypeId} {fz : Nat × Nat} (hb : W.heap[i]? = some (.cells cur ty fz)) {cs : List AV} (hl : cs.length ≤ cur.size)
    (hv : ∀ (j : Nat) x v, cs[j]? = some x → cur.toList[j]? = some v → VR ρ μ x v) : LiveAt P ρ base μ W ⟨i, 0, false⟩ ty .ro cs := by
  refine ⟨cur, fz, hb, (fun h => by cases h), (fun _ => hi), ⟨(fun h => by cases h), (fun h => by cases h)⟩, hl, (fun h => by cases h), ⟨?_, fun j x v hx hv' => ?_⟩⟩
  · simp; omega
  · have hj := (List.getElem?_eq_some_iff.1 hx).1
    rw [List.getElem?_take, if_pos hj] at hv'
    exact hv j x v hx hv'

/-- What the world holds. -/
structure At0 (W : World) (tB tE : TypeId) (d : Option DataAt) : Prop where
  be : ∃ cur fz, W.heap[(0 : Nat)]? = some (.cells cur tB fz)
  err : ∃ u v fz, W.heap[(1 : Nat)]? = some (.cells #[.iface u v] tE fz)
  data : ∀ x, d = some x → ∃ cur fz, W.heap[x.j]? = some (.cells cur x.ty fz) ∧ x.o + x.bs.length ≤ cur.size ∧ ∀ (i : Nat) (y : UInt8), x.bs[i]? = some y → cur.toList[x.o + i]? = some (.int .u8 y.toNat)

theorem lt_heap {W : World} {i : Nat} {b : Obj} (h : W.heap[i]? = some b) : i < W.heap.size := (Array.getElem?_eq_some_iff.1 h).1

theorem hr0 {W : World} {tB tE : TypeId} {d : Option DataAt} {ρ : Nat → Value} (h : At0 W tB tE d) : HR P ρ W.heap.size (loc0 W.heap.size) (heap0 W.heap.size tB tE d) W where
  len := by simp [loc0, heap0]
  base_le := Nat.le_refl _
  live := fun i ty kn cs l hi hl => by
    obtain rfl := loc0_at hl
    simp only [heap0, List.getElem?_map, rng_at] at hi
    by_cases hin : i < W.heap.size + 1
    · rw [if_pos hin] at hi
      simp only [Option.map_some, Option.some.injEq] at hi
      by_cases h1 : i = 0
      · subst h1
        simp at hi
        obtain ⟨rfl, rfl, rfl⟩ := hi
        obtain ⟨cur, fz, hb⟩ := h.be
        exact ro_live (lt_heap hb) hb (by simp) (fun j x v hx => by simp at hx)
      rw [if_neg h1] at hi
      by_cases h2 : i = 1
      · subst h2
        simp at hi
        obtain ⟨rfl, rfl, rfl⟩ := hi
        obtain ⟨u, v, fz, hb⟩ := h.err
        refine ro_live (lt_heap hb) hb (by simp) (fun j x v' hx hv => ?_)
        cases j with
        | zero => simp at hx hv; subst hx; subst hv; exact .e _ _
        | succ j => simp at hx
      rw [if_neg h2] at hi
      unfold blk0 at hi
      split at hi
      · rename_i x
        split at hi
        · rename_i hj
          subst hj
          simp at hi
          obtain ⟨rfl, rfl, rfl⟩ := hi
          obtain ⟨cur, fz, hb, hsz, hc⟩ := h.data _ rfl
          refine ro_live (lt_heap hb) hb (by simpa [u8s] using hsz) (fun j y v hx hv => ?_)
          rw [List.getElem?_append] at hx
          split at hx
          · rename_i hjo
            simp [List.getElem?_replicate] at hx
            obtain ⟨_, rfl⟩ := hx
            exact .u _
          · rename_i hjo
            simp only [List.length_replicate] at hx hjo
            simp only [u8s, List.getElem?_map, Option.map_eq_some_iff] at hx
            obtain ⟨z, hz, rfl⟩ := hx
            have := hc _ _ hz
            rw [show x.o + (j - x.o) = j by omega] at this
            rw [hv] at this
            cases this
            exact .i _ _
        · cases hi
      · cases hi
    · rw [if_neg hin] at hi
      simp at hi
  same := fun i ty kn cs l _ _ hl => by rw [loc0_at hl]
  inj := fun i j ty kn cs ty' kn' cs' l l' _ _ _ _ hl hl' e => by rw [loc0_at hl, loc0_at hl'] at e; exact e
theorem heap0_at {n i : Nat} {tB tE : TypeId} {d : Option DataAt} (h : i < n + 1) : (heap0 n tB tE d)[i]? = some (
  if i = 0 then .cells tB .ro [] else
  if i = 1 then .cells tE .ro [.e] else blk0 d i) := by
  simp only [heap0, List.getElem?_map, rng_at, if_pos h]
  simp
theorem globs0 {W : World} {tB tE : TypeId} {d : Option DataAt} (h : At0 W tB tE d) : Globs (heap0 W.heap.size tB tE d) W.heap.size where
  be := by
    obtain ⟨cur, fz, hb⟩ := h.be
    exact ⟨tB, by rw [heap0_at (by have := lt_heap hb; omega)]; rfl⟩
  nbe := by
    obtain ⟨cur, fz, hb⟩ := h.be
    have := lt_heap hb
    omega
  err := by
    obtain ⟨u, v, fz, hb⟩ := h.err
    exact ⟨tE, by rw [heap0_at (by have := lt_heap hb; omega)]; rfl⟩
  nerr := by
    obtain ⟨u, v, fz, hb⟩ := h.err
    have := lt_heap hb
    omega
  lt := by rw [heap0_len]; omega

/-- A slice of octets that came in. -/
theorem data0 {W : World} {tB tE : TypeId} {v : Value}
    (hB : ∃ fz, W.heap[(0 : Nat)]? = some (.cells #[] tB fz))
    (hE : ∃ u v fz, W.heap[(1 : Nat)]? = some (.cells #[.iface u v] tE fz))
    (hv : v = .slice none 0 0 ∨ ∃ (a : Addr) (len cap : Nat) (zs : List Int), v = .slice (some a) len cap ∧ len ≤ cap ∧ cap ≤ maxLen ∧ zs.length = len ∧ (∀ i, i < zs.length → W.cell? (a.add i) = some (.int .u8 (zs.getD i 0))) ∧ (∀ n ∈ zs, (Lit.int .u8 n).wf = true)) :
    ∃ (d : Option DataAt) (av : AV) (bs : B), At0 W tB tE d ∧ BytesAt (fun i => i < (heap0 W.heap.size tB tE d).length) (heap0 W.heap.size tB tE d) av bs ∧ ∀ ρ, VR ρ (loc0 W.heap.size) av v := by
  have none0 : At0 W tB tE none :=
    { err := hE, data := fun x hx => (by cases hx)
      be := hB.elim fun fz h => ⟨_, fz, h⟩
      }
  rcases hv with rfl | ⟨a, len, cap, zs, rfl, hl, hm, hz, hcell, hwz⟩
  · exact ⟨none, .s0, [], none0, .z, fun ρ => .s0⟩
  · by_cases h0 : len = 0
    · subst h0
      exact ⟨none, .se, [], none0, .e, fun ρ => .se _ _⟩
    · have c0 := hcell 0 (by omega)
      obtain ⟨ab, ao, spot⟩ := a
      have hspot : spot = none := by simpa [Addr.add] using World.cell?_spot c0
      subst hspot
      have hcell' : ∀ i, i < len → W.cell? ⟨ab, ao + i, none⟩ = some (.int .u8 (zs.getD i 0)) := fun i hi => by
        have := hcell i (by omega)
        rw [Addr.add_lit] at this
        exact this
      obtain ⟨cur, ty, fz, hb⟩ : ∃ cur ty fz, W.heap[ab]? = some (.cells cur ty fz) := by
        have := hcell' 0 (by omega)
        unfold World.cell? at this
        split at this
        · rename_i hh; exact ⟨_, _, _, hh⟩
        · cases this
      have hcur : ∀ i, i < len → cur.toList[ao + i]? = some (.int .u8 (zs.getD i 0)) := fun i hi => by
        have := hcell' i hi
        simp only [World.cell?, hb] at this
        simpa using this
      have hrng : ∀ i, i < len → zs.getD i 0 = ((UInt8.ofNat (zs.getD i 0).toNat).toNat : Nat) := fun i hi => by
        have hb := range_u8 hwz i
        rw [List.getD_eq_getElem?_getD]
        simp only [UInt8.toNat_ofNat']
        omega
      refine ⟨some ⟨ab, ty, ao, zs.map fun n => UInt8.ofNat n.toNat⟩, .sl ab ao len, zs.map fun n => UInt8.ofNat n.toNat, ?_, ?_, fun ρ => ?_⟩
      · refine { err := hE, data := fun x hx => ?_
                 be := hB.elim fun fz h => ⟨_, fz, h⟩
                 }
        cases hx
        refine ⟨cur, fz, hb, ?_, fun i y hy => ?_⟩
        · have := hcur (len - 1) (by omega)
          have := (List.getElem?_eq_some_iff.1 this).1
          simp at this ⊢
          omega
        · simp only [List.getElem?_map, Option.map_eq_some_iff] at hy
          obtain ⟨z, hz', rfl⟩ := hy
          have hi : i < len := by have := (List.getElem?_eq_some_iff.1 hz').1; omega
          show cur.toList[ao + i]? = _
          rw [hcur i hi, hrng i hi]
          simp [List.getD, hz']
      · have hlt := lt_heap hb
        have key := @BytesAt.s (fun i => i < (heap0 W.heap.size tB tE (some ⟨ab, ty, ao, zs.map fun n => UInt8.ofNat n.toNat⟩)).length) (heap0 W.heap.size tB tE (some ⟨ab, ty, ao, zs.map fun n => UInt8.ofNat n.toNat⟩)) ab ao ty .ro (List.replicate ao .u ++ u8s (zs.map fun n => UInt8.ofNat n.toNat)) (zs.map fun n => UInt8.ofNat n.toNat)
          (by rw [heap0_len]; omega) ?_ (by simp; omega) ?_
        · simpa [hz] using key
        · rw [heap0_at (by omega)]
          rw [if_neg]
          rotate_left
          · intro e
            obtain ⟨fz', hB'⟩ := hB
            rw [← e, hb] at hB'
            simp at hB'
            obtain ⟨rfl, _⟩ := hB'
            have := hcur 0 (by omega)
            simp at this
          rw [if_neg]
          rotate_left
          · intro e
            obtain ⟨u, v, fz', hE'⟩ := hE
            rw [← e, hb] at hE'
            simp at hE'
            obtain ⟨rfl, _⟩ := hE'
            have := hcur 0 (by omega)
            cases ao with
            | zero => simp at this
            | succ ao => simp at this
          simp [blk0]
        · rw [List.drop_append_of_le_length (by simp)]
          simp [u8s]
          rw [List.take_of_length_le (by simp)]
      · exact .sl (loc0_some (by have := lt_heap hb; omega)) hl hm (fun _ h => by cases h)
end Go.Proofs.YtopfghmpaobnnaaDoor.Rd

