/-
  FROM THE ABSTRACT MACHINE TO THE WORLD: a law of a number and of octets whose run the machine answers with true.
-/
import Derived.Test.YtdoaobkfbjegpaaQRdStr
import Derived.ProofKit
import Derived.OpenShut
import Derived.ChangeSlices
import Derived.Stop.LaidErr
import Derived.Deep.DeepHandedRow
import Derived.Test.YtdoaobkfbjegpaaQTgLaw
import Derived.Test.YtdoaobkfbjegpaaRows
import Derived.DataReads
import Derived.ChangeArms
import Derived.Test.YtdoaobkfbjegpaaProg
import Derived.Shelf.GgSortFunc.Whole
import Derived.Shelf.GgSortFunc.Tiny
import Derived.Test.YtdoaobkfbjegpaaQAxDraw2
import Derived.Deep.QuietTactic
import Derived.Lib.RowBridge
import Derived.Lib.SortBridge
import Derived.Sort.LotA
import Derived.WalkKit
set_option linter.constructorNameAsVariable false
set_option linter.unusedVariables false
set_option linter.unusedSimpArgs false
namespace Go.Proofs.Ytdoaobkfbjegpaa.Rd
open Go Go.RowKit Go.ChangeShapes Go.WideShapes Go.Proofs.Ytdoaobkfbjegpaa.Ax Go.Proofs.Ytdoaobkfbjegpaa.Wire
set_option maxRecDepth 100000
def loc0 (n : Nat) : List Ax.Loc := (List.range (n + 1)).map fun i => ⟨i, 0, false⟩
theorem rng_at (n i : Nat) : (List.range n)[i]? = if i < n then some i else none := by
  by_cases h : i < n
  · rw [if_pos h, List.getElem?_range h]
  · rw [if_neg h, List.getElem?_eq_none (by simpa using h)]
theorem loc0_at {n i : Nat} {l : Ax.Loc} (h : (loc0 n)[i]? = some l) : l = ⟨i, 0, false⟩ := by
  simp only [loc0, List.getElem?_map, rng_at] at h
  by_cases hi : i < n + 1
  · rw [if_pos hi] at h; simp at h; exact h.symm
  · rw [if_neg hi] at h; simp at h
theorem loc0_some {n i : Nat} (h : i < n + 1) : (loc0 n)[i]? = some ⟨i, 0, false⟩ := by
  simp only [loc0, List.getElem?_map, rng_at, if_pos h]
  simp
def absV (n : Nat) : Value → AV
  | .bool b => .b b
  | .int k x => .i k x
  | .float k x => .f k x
  | .string s => .s s
  | .pointer none => .p0
  | .pointer (some ⟨b, o, none⟩) => if b < n then .p b o else .u
  | .slice none 0 0 => .s0
  | .slice (some a) l c => if l = 0 then .se else if a.spot = none ∧ a.block < n ∧ l ≤ c ∧ c ≤ maxLen then .sl a.block a.off l else .u
  | .map none => .m0
  | .nilIface => .n
  | .iface _ _ => .e
  | _ => .u
theorem absV_VR (ρ : Nat → Value) (n : Nat) (v : Value) : VR ρ (loc0 n) (absV n v) v := by
  unfold absV
  split
  · exact .b _
  · exact .i _ _
  · exact .f _ _
  · exact .s _
  · exact .p0
  · split
    · exact .p (l := ⟨_, 0, false⟩) (loc0_some (by omega))
    · exact .u _
  · exact .s0
  · split
    · rename_i h; subst h; exact .se _ _
    · split
      · rename_i a _ _ _ h
        obtain ⟨ab, ao, sp⟩ := a
        obtain ⟨h0, h1, h2, h3⟩ := h
        simp only at h0
        subst h0
        exact .sl (l := ⟨_, 0, false⟩) (loc0_some (show ab < n + 1 from Nat.lt_succ_of_lt h1)) h2 h3 (fun _ h => by cases h)
      · exact .u _
  · exact .m0
  · exact .n
  · exact .e _ _
  · exact .u _
def absB (n : Nat) : Obj → Blk
  | .cells cur ty _ => .cells ty .ro (cur.toList.map (absV n))
  | _ => .dead
def heapOf (W : World) : Heap := W.heap.toList.map (absB W.heap.size) ++ [.dead]
theorem heapOf_len (W : World) : (heapOf W).length = W.heap.size + 1 := by simp [heapOf]
theorem lt_heap {W : World} {i : Nat} {b : Obj} (h : W.heap[i]? = some b) : i < W.heap.size := (Array.getElem?_eq_some_iff.1 h).1
theorem heapOf_at {W : World} {i : Nat} {cur : Array Value} {ty : TypeId} {fz : Nat × Nat} (h : W.heap[i]? = some (.cells cur ty fz)) : (heapOf W)[i]? = some (.cells ty .ro (cur.toList.map (absV W.heap.size))) := by
  have hlt := lt_heap h
  unfold heapOf
  rw [List.getElem?_append_left (by simpa using hlt), List.getElem?_map]
  simp [h, absB]
theorem heapOf_of {W : World} {i : Nat} {ty : TypeId} {kn : Kn} {cs : List AV} (h : (heapOf W)[i]? = some (.cells ty kn cs)) : ∃ cur fz, W.heap[i]? = some (.cells cur ty fz) ∧ kn = .ro ∧ cs = cur.toList.map (absV W.heap.size) := by
  unfold heapOf at h
  rcases at_last h with ⟨hlt, h⟩ | ⟨_, e⟩
  · rw [List.getElem?_map] at h
    obtain ⟨o, ho, hb⟩ := Option.map_eq_some_iff.1 h
    unfold absB at hb
    split at hb
    · simp at hb
      obtain ⟨rfl, rfl, rfl⟩ := hb
      exact ⟨_, _, by simpa using ho, rfl, rfl⟩
    · cases hb
  · cases e
theorem heapOf_nomap {W : World} {i : Nat} {kd : IntKind} {es : List (Int × AV)} (h : (heapOf W)[i]? = some (.map kd es)) : False := by
  unfold heapOf at h
  rcases at_last h with ⟨hlt, h⟩ | ⟨_, e⟩
  · rw [List.getElem?_map] at h
    obtain ⟨o, ho, hb⟩ := Option.map_eq_some_iff.1 h
    unfold absB at hb
    split at hb <;> cases hb
  · cases e
theorem hrW (ρ : Nat → Value) (W : World) : HR P ρ W.heap.size (loc0 W.heap.size) (heapOf W) W where
  len := by simp [loc0, heapOf]
  base_le := Nat.le_refl _
  live := fun i ty kn cs l hi hl => by
    obtain rfl := loc0_at hl
    obtain ⟨cur, fz, hb, rfl, rfl⟩ := heapOf_of hi
    refine ⟨cur, fz, hb, (fun h => by cases h), (fun _ => ⟨lt_heap hb, by simp⟩), ⟨(fun h => by cases h), (fun h => by cases h)⟩, by simp, (fun h => by cases h), ⟨by simp, fun j x v hx hv => ?_⟩⟩
    rw [List.getElem?_map] at hx
    obtain ⟨y, hy, rfl⟩ := Option.map_eq_some_iff.1 hx
    have : y = v := by
      rw [List.getElem?_take] at hv
      split at hv
      · rw [hy] at hv; cases hv; rfl
      · cases hv
    subst this
    exact absV_VR ρ _ _
  same := fun i ty kn cs l hi _ hl => by rw [loc0_at hl]
  inj := fun i j ty kn cs ty' kn' cs' l l' hi ho => by
    obtain ⟨_, _, _, rfl, _⟩ := heapOf_of hi
    cases ho
  maps := fun i kd es l hi => (heapOf_nomap hi).elim
  injm := fun i j kd es kd' es' l l' hi => (heapOf_nomap hi).elim
def Octets (W : World) (v : Value) (zs : List Int) : Prop :=
  (v = .slice none 0 0 ∧ zs = []) ∨ ∃ (a : Addr) (len cap : Nat), v = .slice (some a) len cap ∧ len ≤ cap ∧ cap ≤ maxLen ∧ zs.length = len ∧ (∀ i, i < zs.length → W.cell? (a.add i) = some (.int .u8 (zs.getD i 0))) ∧ (∀ n ∈ zs, (Lit.int .u8 n).wf = true)
theorem octetsW {W : World} {v : Value} {zs : List Int} (hv : Octets W v zs) : BytesAt (fun i => i < (heapOf W).length) (heapOf W) (absV W.heap.size v) (zs.map fun n => UInt8.ofNat n.toNat) := by
  rcases hv with ⟨rfl, rfl⟩ | ⟨⟨ab, ao, spot⟩, len, cap, rfl, hl, hm, hz, hcell, hwz⟩
  · exact .z
  · by_cases h0 : len = 0
    · subst h0
      obtain rfl : zs = [] := List.eq_nil_of_length_eq_zero hz
      simp only [absV, if_true, List.map_nil]
      exact .e
    · have c0 := hcell 0 (by omega)
      have hspot : spot = none := by simpa [Addr.add] using World.cell?_spot c0
      subst hspot
      have hcell' : ∀ i, i < len → W.cell? ⟨ab, ao + i, none⟩ = some (.int .u8 (zs.getD i 0)) := fun i hi => by
        have := hcell i (by omega)
        rw [Addr.add_lit] at this
        exact this
      obtain ⟨cur, ty, fz, hb⟩ : ∃ cur ty fz, W.heap[ab]? = some (.cells cur ty fz) := by
        have := hcell' 0 (by omega)
        unfold World.cell? at this
        split at this
        · rename_i hh; exact ⟨_, _, _, hh⟩
        · cases this
      have hcur : ∀ i, i < len → cur.toList[ao + i]? = some (.int .u8 (zs.getD i 0)) := fun i hi => by
        have := hcell' i hi
        simp only [World.cell?, hb] at this
        simpa using this
      have hrng : ∀ i, i < len → zs.getD i 0 = ((UInt8.ofNat (zs.getD i 0).toNat).toNat : Nat) := fun i hi => by
        have hb := range_u8 hwz i
        rw [List.getD_eq_getElem?_getD]
        simp only [UInt8.toNat_ofNat']
        omega
      have hlt := lt_heap hb
      simp only [absV, if_neg h0]
      rw [if_pos ⟨by first | trivial | rfl, hlt, hl, hm⟩]
      have key := @BytesAt.s (fun i => i < (heapOf W).length) (heapOf W) ab ao ty .ro (cur.toList.map (absV W.heap.size)) (zs.map fun n => UInt8.ofNat n.toNat) (by rw [heapOf_len]; omega) (heapOf_at hb) (by simp; omega) (by
        apply List.ext_getElem?
        intro i
        simp only [u8s, List.getElem?_map, List.getElem?_take, List.getElem?_drop, List.length_map]
        by_cases hi : i < zs.length
        · rw [if_pos hi]
          have h1 := hcur i (by omega)
          simp only [List.getElem?_map, h1, Option.map_some, absV]
          rw [hrng i (by omega)]
          have : zs[i]? = some (zs.getD i 0) := by simp [List.getD, hi]
          rw [this]
          rfl
        · rw [if_neg hi, List.getElem?_eq_none (by omega)]
          rfl)
      simpa [hz] using key
end Go.Proofs.Ytdoaobkfbjegpaa.Rd

namespace Go.Proofs.Ytdoaobkfbjegpaa.Rd
open Go Go.RowKit Go.ChangeShapes Go.WideShapes Go.Proofs.Ytdoaobkfbjegpaa.Ax Go.Proofs.Ytdoaobkfbjegpaa.Wire
set_option maxRecDepth 100000
theorem noc : noCount P = true := by kernel_rfl
end Go.Proofs.Ytdoaobkfbjegpaa.Rd

namespace Go.Proofs.Ytdoaobkfbjegpaa.Rd
open Go Go.RowKit Go.ChangeShapes Go.WideShapes Go.Proofs.Ytdoaobkfbjegpaa.Ax Go.Proofs.Ytdoaobkfbjegpaa.Wire
set_option maxRecDepth 100000
section
variable {H : Type} {enc : TypeId × Value → H} {W : World}
theorem sl_open {t e : TypeId} {sz fuel : Nat} {cs : List Value} {x : DataW H × List MemPlace} (ht : P.underlying t = some (.slice e)) (hsz : P.cellsOf e = sz) (h0 : 0 < sz) (h : DataW.trod enc P W 0 (fun _ => true) true fuel t cs = some x) :
    ∃ (v : Value) (es rs : List (DataW H × List MemPlace)) (m : Nat), cs = [v] ∧ m < fuel ∧ SlAt (heapOf W) sz (absV W.heap.size v) es.length ∧
      ∀ (j : Nat) (y : DataW H × List MemPlace), es[j]? = some y → ∃ c : List Value, DataW.trod enc P W 0 (fun _ => true) true m e c = some y ∧ elAt (heapOf W) sz (absV W.heap.size v) j = some (c.map (absV W.heap.size)) ∧ c.length = sz := by
  have hn0 : 0 < fuel := by cases fuel with
    | zero => simp [DataW.trod] at h
    | succ n => omega
  rcases DataW.trod_slice ht h with ⟨rfl, rfl⟩ | ⟨a, len, cap, es, rs, n, rfl, rfl, rfl, _, hl, hm, hlen, hel, _, _⟩
  · exact ⟨_, [], [], 0, rfl, hn0, .inl ⟨.inl rfl, rfl⟩, fun j y hj => by simp at hj⟩
  · subst hsz
    by_cases hz : len = 0
    · subst hz
      obtain rfl : es = [] := List.eq_nil_of_length_eq_zero hlen
      exact ⟨_, [], rs, n, rfl, Nat.lt_succ_self n, .inl ⟨.inr (by simp [absV]), rfl⟩, fun j y hj => by simp at hj⟩
    · have each : ∀ i, i < len → ∃ c : List Value, W.cells? 0 (a.add (i * P.cellsOf e)) (P.cellsOf e) = some c ∧ ∃ y, es[i]? = some y ∧ DataW.trod enc P W 0 (fun _ => true) true n e c = some y := fun i hi => by
        have h1 := hel i hi
        have h2 : es[i]? = some (es[i]'(by omega)) := by simp
        rw [h2] at h1
        obtain ⟨c, c1, c2⟩ := Option.bind_eq_some_iff.1 h1
        exact ⟨c, c1, _, h2, c2⟩
      obtain ⟨ab, ao, spot⟩ := a
      have hcell : ∀ i k, i < len → k < P.cellsOf e → ∃ c, W.cells? 0 ((⟨ab, ao, spot⟩ : Addr).add (i * P.cellsOf e)) (P.cellsOf e) = some c ∧ W.cell? (((⟨ab, ao, spot⟩ : Addr).add (i * P.cellsOf e)).add k) = c[k]? ∧ c.length = P.cellsOf e := fun i k hi hk => by
        obtain ⟨c, c1, _⟩ := each i hi
        obtain ⟨_, q2, q3⟩ := World.cells?_some c1
        exact ⟨c, c1, q3 k hk, q2⟩
      obtain ⟨c0, c01, c02, c03⟩ := hcell 0 0 (by omega) h0
      have hs : W.cell? (((⟨ab, ao, spot⟩ : Addr).add (0 * P.cellsOf e)).add 0) = some (c0[0]'(by omega)) := by rw [c02]; simp
      have hspot : spot = none := by simpa [Addr.add] using World.cell?_spot hs
      subst hspot
      obtain ⟨cur, ty, fz, hb⟩ : ∃ cur ty fz, W.heap[ab]? = some (.cells cur ty fz) := by
        have := hs
        rw [Addr.add_lit, Addr.add_lit] at this
        unfold World.cell? at this
        split at this
        · rename_i hh; exact ⟨_, _, _, hh⟩
        · cases this
      have hat : ∀ i, i < len → ∃ c : List Value, (cur.toList.drop (ao + i * P.cellsOf e)).take (P.cellsOf e) = c ∧ c.length = P.cellsOf e ∧ ∃ y, es[i]? = some y ∧ DataW.trod enc P W 0 (fun _ => true) true n e c = some y := fun i hi => by
        obtain ⟨c, c1, y, y1, y2⟩ := each i hi
        obtain ⟨_, q2, q3⟩ := World.cells?_some c1
        refine ⟨c, ?_, q2, y, y1, y2⟩
        apply List.ext_getElem?
        intro k
        rw [List.getElem?_take]
        by_cases hk : k < P.cellsOf e
        · rw [if_pos hk, List.getElem?_drop, ← q3 k hk, Addr.add_lit, Addr.add_lit, World.cell?]
          simp [hb]
        · rw [if_neg hk, List.getElem?_eq_none (by omega)]
      have hlt := lt_heap hb
      have hav : absV W.heap.size (.slice (some ⟨ab, ao, none⟩) len cap) = .sl ab ao len := by
        simp only [absV, if_neg hz]
        rw [if_pos ⟨by first | trivial | rfl, hlt, hl, hm⟩]
      have hfit : ao + len * P.cellsOf e ≤ cur.toList.length := by
        obtain ⟨c, q1, q2, _⟩ := hat (len - 1) (by omega)
        have := congrArg List.length q1
        rw [q2, List.length_take, List.length_drop] at this
        have e1 : len * P.cellsOf e = (len - 1) * P.cellsOf e + P.cellsOf e := by
          conv => lhs; rw [show len = (len - 1) + 1 by omega, Nat.add_mul, Nat.one_mul]
        omega
      refine ⟨_, es, rs, n, rfl, Nat.lt_succ_self n, .inr ⟨ab, ao, ty, .ro, cur.toList.map (absV W.heap.size), by rw [hav, hlen], by omega, heapOf_at hb, by rw [List.length_map, hlen]; exact hfit⟩, fun j y hj => ?_⟩
      have hjl : j < len := by have := (List.getElem?_eq_some_iff.1 hj).1; omega
      obtain ⟨c, q1, q2, y', y1, y2⟩ := hat j hjl
      rw [hj] at y1
      cases y1
      refine ⟨c, y2, ?_, q2⟩
      rw [hav]
      simp only [elAt, heapOf_at hb]
      rw [← q1, List.map_take, List.map_drop]
theorem oct_open {fuel : Nat} {cs : List Value} {x : DataW H × List MemPlace} (h : DataW.trod enc P W 0 (fun _ => true) true fuel 28 cs = some x) :
    ∃ (v : Value) (bs : B), cs = [v] ∧ BytesAt (Lt (heapOf W)) (heapOf W) (absV W.heap.size v) bs := by
  rcases open_ints Try.underlying28 Try.underlying5 (show P.cellsOf 5 = 1 by kernel_rfl) h with ⟨rfl, rfl⟩ | ⟨a, len, cap, zs, rfl, _, hl, hm, hz, rfl, hcell, hwz⟩
  · exact ⟨_, [], rfl, octetsW (.inl ⟨rfl, rfl⟩)⟩
  · simp only [if_true] at hz
    refine ⟨_, _, rfl, octetsW (zs := zs.take len) (.inr ⟨a, len, cap, rfl, hl, hm, by simp; omega, fun i hi => ?_, fun n hn => hwz n (List.mem_of_mem_take hn)⟩)⟩
    have hi' : i < len := by simp at hi; omega
    have := hcell i (by omega)
    rw [this]
    simp [List.getD_eq_getElem?_getD, List.getElem?_take, hi']
theorem tags_open {fuel : Nat} {cs : List Value} {x : DataW H × List MemPlace} (h : DataW.trod enc P W 0 (fun _ => true) true fuel 22 cs = some x) :
    ∃ (v : Value) (us : List (Nat × B)), cs = [v] ∧ TgAt (heapOf W) (absV W.heap.size v) us ∧ (∀ u ∈ us, u.1 < 2 ^ 32) := by
  obtain ⟨v, es, rs, m, rfl, _, hsl, hel⟩ := sl_open Try.underlying22 (show P.cellsOf 39 = 2 by kernel_rfl) (by omega) h
  have each : ∀ (j : Nat) (y : DataW H × List MemPlace), es[j]? = some y → ∃ (k : Nat) (bs : B), k < 2 ^ 32 ∧ (∃ w, elAt (heapOf W) 2 (absV W.heap.size v) j = some [.i .u32 (k : Nat), w] ∧ BytesAt (Lt (heapOf W)) (heapOf W) w bs) := fun j y hj => by
    obtain ⟨c, h1, h2, h3⟩ := hel j y hj
    obtain ⟨xs, n, rfl, rfl, hcl, hxl, hx⟩ := DataW.trod_struct Try.underlying39 h1
    rcases c with _ | ⟨c0, _ | ⟨c1, _ | ⟨c2, c⟩⟩⟩ <;> simp at h3
    have x0 := hx 0 _ rfl
    have x1 := hx 1 _ rfl
    obtain ⟨y0, y1, rfl⟩ : ∃ y0 y1, xs = [y0, y1] := by
      have : xs.length = 2 := hxl
      rcases xs with _ | ⟨y0, _ | ⟨y1, _ | ⟨y2, r⟩⟩⟩ <;> simp at this
      exact ⟨y0, y1, rfl⟩
    have e0 : ([c0, c1].drop 0).take (P.cellsOf 37) = [c0] := by rw [show P.cellsOf 37 = 1 by kernel_rfl]; rfl
    have e1 : ([c0, c1].drop 1).take (P.cellsOf 28) = [c1] := by rw [show P.cellsOf 28 = 1 by kernel_rfl]; rfl
    obtain ⟨k, q1, q2, q3⟩ := DataW.trod_int Try.underlying37 (x0.trans rfl)
    obtain ⟨w, bs, r1, r2⟩ := oct_open (x1.trans rfl)
    replace q1 := e0.symm.trans q1
    replace r1 := e1.symm.trans r1
    simp only [List.cons.injEq, and_true] at q1 r1
    subst q1; subst r1
    have hk := bounds_u32 q3
    refine ⟨k.toNat, bs, by omega, ⟨_, ?_, r2⟩⟩
    rw [h2]
    simp only [List.map_cons, List.map_nil, absV]
    rw [Int.toNat_of_nonneg hk.1]
  have hall : ∀ (l : List (DataW H × List MemPlace)) (o : Nat), (∀ j y, l[j]? = some y → es[o + j]? = some y) → ∃ us : List (Nat × B), us.length = l.length ∧ (∀ u ∈ us, u.1 < 2 ^ 32) ∧ ∀ j k bs, us[j]? = some (k, bs) → ∃ w, elAt (heapOf W) 2 (absV W.heap.size v) (o + j) = some [.i .u32 (k : Nat), w] ∧ BytesAt (Lt (heapOf W)) (heapOf W) w bs := by
    intro l
    induction l with
    | nil => intro o _; exact ⟨[], rfl, by simp, fun j k bs hj => by simp at hj⟩
    | cons y r ih =>
      intro o ho
      obtain ⟨us, u1, u2, u4⟩ := ih (o + 1) (fun j z hz => by rw [show o + 1 + j = o + (j + 1) by omega]; exact ho (j + 1) z (by simpa using hz))
      obtain ⟨k, bs, b1, b2⟩ := each o y (by simpa using ho 0 y rfl)
      refine ⟨(k, bs) :: us, by simp [u1], fun u hu => ?_, fun j k' bs' hj => ?_⟩
      · rcases List.mem_cons.1 hu with rfl | hu
        · exact b1
        · exact u2 u hu
      · cases j with
        | zero => simp at hj; obtain ⟨rfl, rfl⟩ := hj; exact b2
        | succ j => rw [show o + (j + 1) = o + 1 + j by omega]; exact u4 j k' bs' (by simpa using hj)
  obtain ⟨us, u1, u2, u4⟩ := hall es 0 (fun j y h => by simpa using h)
  exact ⟨v, us, rfl, ⟨by rw [u1]; exact hsl, fun j k bs hj => by simpa using u4 j k bs hj⟩, u2⟩
theorem tagsI_open {base : Nat} {v : Value} {d : DataW H} {p : List MemPlace} (hval : Value.okWide P W .any base 22 v) (h : DataW.Trod enc P W 0 (fun _ => true) true 22 v d p) :
    ∃ us : List (Nat × B), TgAt (heapOf W) (absV W.heap.size v) us ∧ (∀ u ∈ us, u.1 < 2 ^ 32) := by
  obtain ⟨a, len, cap, rfl⟩ := okWide_slice Try.underlying22 hval
  obtain ⟨fuel, h⟩ := h
  obtain ⟨v', us, hc, h1, h2⟩ := tags_open h
  simp [Value.cells] at hc
  subst hc
  exact ⟨us, h1, h2⟩
theorem tags_stay {W' : World} {v1 : Value} {d1 : DataW H} {p1 : List MemPlace} (h1 : DataW.Trod enc P W 0 (fun _ => true) true 22 v1 d1 p1) (hb : Below W.heap.size W W') (hlt : ∀ p ∈ p1, p.block < W.heap.size) {sp : Nat → Bool} (hs : ∀ p ∈ p1, sp p.block = true) :
    DataW.Trod enc P W' 0 sp true 22 v1 d1 p1 :=
  WideElems.Trod_stays (P := P) (show laidOutB P = true by kernel_rfl) (by kernel_rfl) (of_decide_eq_true (by kernel_rfl)) h1 (fun p hp => hb.same (hlt p hp)) hs
theorem law_world0 {law : FuncId} {S : CallA} (hS : ∀ base, CallSound P (fun _ => .bool true) base S) {aA : List AV} {aV : List Value} {W : World} (hav : VRs (fun _ => .bool true) (loc0 W.heap.size) aA aV)
    (hCA : ∃ H', CA P S law aA (heapOf W) (.b true, H')) (hlb : ((P.funcs[law]?).bind (·.body)).isSome = true := by kernel_rfl) :
    Calls P law aV.toArray W fun e w' => e = .returned (.bool true) ∧ Below W.heap.size W w' := by
  obtain ⟨H', n, hn⟩ := hCA
  have hr := hn n (Nat.le_refl _)
  have hbd : Bodied P law := by
    cases hf : P.funcs[law]? with
    | none => rw [hf] at hlb; cases hlb
    | some fn => rw [hf] at hlb; exact ⟨fn, hf, hlb⟩
  have hc := run_sound (fun _ => rfl) (noCount_iff noc) (hS W.heap.size) (drawA_sound (fun _ => rfl) (noCount_iff noc)) n
  refine (hc.at_ hbd hr (hrW _ W) hav).mono fun e w' hm => ?_
  obtain ⟨v', μ', rfl, _, hv', _, hbel⟩ := hm
  cases hv'
  exact ⟨rfl, hbel⟩
end
end Go.Proofs.Ytdoaobkfbjegpaa.Rd

namespace Go.Proofs.Ytdoaobkfbjegpaa.Rd
open Go Go.Shelf
def sa6_ren : Go.Shelf.Ren := ⟨fun | 6 => 20 | 10 => 22 | 11 => 23 | 12 => 24 | 13 => 25 | 14 => 26 | 24 => 36 | 25 => 37 | 26 => 38 | 27 => 39 | 28 => 40 | 29 => 41 | 30 => 42 | 31 => 43 | 32 => 44 | 33 => 45 | 34 => 46 | 35 => 47 | 36 => 48 | 37 => 49 | 38 => 50 | 39 => 51 | n => n, fun | 20 => 20 | 26 => 63 | 35 => 67 | 0 => 0 | 37 => 69 | 3 => 3 | 41 => 43 | 44 => 75 | 49 => 37 | 51 => 30 | 4 => 4 | 54 => 83 | 53 => 82 | 58 => 34 | 5 => 5 | 9 => 9 | 60 => 88 | 64 => 92 | 66 => 94 | 67 => 95 | 17 => 17 | 32 => 64 | 33 => 65 | 82 => 110 | 12 => 12 | 75 => 103 | 76 => 104 | 77 => 105 | 78 => 106 | 79 => 107 | 80 => 108 | n => n, fun | n => n⟩
theorem sa6 : Go.Proofs.LaysGg.n6 Try.prog sa6_ren := {
  mixed := by kernel_rfl,
  f6 := Try.func20.trans (congrArg some (by kernel_rfl)),
  f10 := Try.func22.trans (congrArg some (by kernel_rfl)),
  f11 := Try.func23.trans (congrArg some (by kernel_rfl)),
  f12 := Try.func24.trans (congrArg some (by kernel_rfl)),
  f13 := Try.func25.trans (congrArg some (by kernel_rfl)),
  f14 := Try.func26.trans (congrArg some (by kernel_rfl)),
  f24 := Try.func36.trans (congrArg some (by kernel_rfl)),
  f25 := Try.func37.trans (congrArg some (by kernel_rfl)),
  f26 := Try.func38.trans (congrArg some (by kernel_rfl)),
  f27 := Try.func39.trans (congrArg some (by kernel_rfl)),
  f28 := Try.func40.trans (congrArg some (by kernel_rfl)),
  f29 := Try.func41.trans (congrArg some (by kernel_rfl)),
  f30 := Try.func42.trans (congrArg some (by kernel_rfl)),
  f31 := Try.func43.trans (congrArg some (by kernel_rfl)),
  f32 := Try.func44.trans (congrArg some (by kernel_rfl)),
  f33 := Try.func45.trans (congrArg some (by kernel_rfl)),
  f34 := Try.func46.trans (congrArg some (by kernel_rfl)),
  f35 := Try.func47.trans (congrArg some (by kernel_rfl)),
  f36 := Try.func48.trans (congrArg some (by kernel_rfl)),
  f37 := Try.func49.trans (congrArg some (by kernel_rfl)),
  f38 := Try.func50.trans (congrArg some (by kernel_rfl)),
  f39 := Try.func51.trans (congrArg some (by kernel_rfl)),
  t0 := Try.underlying0,
  a0 := Try.isAgg0,
  z0 := Try.sizeOf0,
  v0 := Try.zeroValue0,
  i0 := by kernel_rfl,
  t3 := Try.underlying3,
  a3 := Try.isAgg3,
  z3 := Try.sizeOf3,
  v3 := Try.zeroValue3,
  i3 := by kernel_rfl,
  t4 := Try.underlying4,
  a4 := Try.isAgg4,
  z4 := Try.sizeOf4,
  v4 := Try.zeroValue4,
  i4 := by kernel_rfl,
  t5 := Try.underlying5,
  a5 := Try.isAgg5,
  z5 := Try.sizeOf5,
  v5 := Try.zeroValue5,
  i5 := by kernel_rfl,
  t9 := Try.underlying9,
  a9 := Try.isAgg9,
  z9 := Try.sizeOf9,
  v9 := Try.zeroValue9,
  i9 := by kernel_rfl,
  t12 := Try.underlying12,
  a12 := Try.isAgg12,
  z12 := Try.sizeOf12,
  v12 := Try.zeroValue12,
  i12 := by kernel_rfl,
  t17 := Try.underlying17,
  a17 := Try.isAgg17,
  z17 := Try.sizeOf17,
  v17 := Try.zeroValue17,
  i17 := by kernel_rfl,
  t20 := Try.underlying20,
  a20 := Try.isAgg20,
  z20 := Try.sizeOf20,
  v20 := Try.zeroValue20,
  i20 := by kernel_rfl,
  t26 := Try.underlying63,
  a26 := Try.isAgg63,
  z26 := Try.sizeOf63,
  v26 := Try.zeroValue63,
  i26 := by kernel_rfl,
  t32 := Try.underlying64,
  a32 := Try.isAgg64,
  z32 := Try.sizeOf64,
  v32 := Try.zeroValue64,
  i32 := by kernel_rfl,
  t33 := Try.underlying65,
  a33 := Try.isAgg65,
  z33 := Try.sizeOf65,
  v33 := Try.zeroValue65,
  i33 := by kernel_rfl,
  t35 := Try.underlying67,
  a35 := Try.isAgg67,
  z35 := Try.sizeOf67,
  v35 := Try.zeroValue67,
  i35 := by kernel_rfl,
  t37 := Try.underlying69,
  a37 := Try.isAgg69,
  z37 := Try.sizeOf69,
  v37 := Try.zeroValue69,
  i37 := by kernel_rfl,
  t41 := Try.underlying43,
  a41 := Try.isAgg43,
  z41 := Try.sizeOf43,
  v41 := Try.zeroValue43,
  i41 := by kernel_rfl,
  t44 := Try.underlying75,
  a44 := Try.isAgg75,
  z44 := Try.sizeOf75,
  v44 := Try.zeroValue75,
  i44 := by kernel_rfl,
  t49 := Try.underlying37,
  a49 := Try.isAgg37,
  z49 := Try.sizeOf37,
  v49 := Try.zeroValue37,
  i49 := by kernel_rfl,
  t51 := Try.underlying30,
  a51 := Try.isAgg30,
  z51 := Try.sizeOf30,
  v51 := Try.zeroValue30,
  i51 := by kernel_rfl,
  t53 := Try.underlying82,
  a53 := Try.isAgg82,
  z53 := Try.sizeOf82,
  v53 := Try.zeroValue82,
  i53 := by kernel_rfl,
  t54 := Try.underlying83,
  a54 := Try.isAgg83,
  z54 := Try.sizeOf83,
  v54 := Try.zeroValue83,
  i54 := by kernel_rfl,
  t58 := Try.underlying34,
  a58 := Try.isAgg34,
  z58 := Try.sizeOf34,
  v58 := Try.zeroValue34,
  i58 := by kernel_rfl,
  t60 := Try.underlying88,
  a60 := Try.isAgg88,
  z60 := Try.sizeOf88,
  v60 := Try.zeroValue88,
  i60 := by kernel_rfl,
  t64 := Try.underlying92,
  a64 := Try.isAgg92,
  z64 := Try.sizeOf92,
  v64 := Try.zeroValue92,
  i64 := by kernel_rfl,
  t66 := Try.underlying94,
  a66 := Try.isAgg94,
  z66 := Try.sizeOf94,
  v66 := Try.zeroValue94,
  i66 := by kernel_rfl,
  t67 := Try.underlying95,
  a67 := Try.isAgg95,
  z67 := Try.sizeOf95,
  v67 := Try.zeroValue95,
  i67 := by kernel_rfl,
  t75 := Try.underlying103,
  a75 := Try.isAgg103,
  z75 := Try.sizeOf103,
  v75 := Try.zeroValue103,
  i75 := by kernel_rfl,
  t76 := Try.underlying104,
  a76 := Try.isAgg104,
  z76 := Try.sizeOf104,
  v76 := Try.zeroValue104,
  i76 := by kernel_rfl,
  t77 := Try.underlying105,
  a77 := Try.isAgg105,
  z77 := Try.sizeOf105,
  v77 := Try.zeroValue105,
  i77 := by kernel_rfl,
  t78 := Try.underlying106,
  a78 := Try.isAgg106,
  z78 := Try.sizeOf106,
  v78 := Try.zeroValue106,
  i78 := by kernel_rfl,
  t79 := Try.underlying107,
  a79 := Try.isAgg107,
  z79 := Try.sizeOf107,
  v79 := Try.zeroValue107,
  i79 := by kernel_rfl,
  t80 := Try.underlying108,
  a80 := Try.isAgg108,
  z80 := Try.sizeOf108,
  v80 := Try.zeroValue108,
  i80 := by kernel_rfl,
  t82 := Try.underlying110,
  a82 := Try.isAgg110,
  z82 := Try.sizeOf110,
  v82 := Try.zeroValue110,
  i82 := by kernel_rfl }
end Go.Proofs.Ytdoaobkfbjegpaa.Rd

namespace Go.Proofs.Ytdoaobkfbjegpaa.Rd
open Go Go.Shelf Go.RowKit Go.Lib Go.Sort
noncomputable def siT : TypeInfo := (Try.prog.info? 61).get (by kernel_rfl)
noncomputable def siE : TypeInfo := (Try.prog.info? 37).get (by kernel_rfl)
theorem siK (n : Nat) (h2 : 2 ≤ n) : Lib.swapperK n siE 10 = 6 := by
  have a : siE.hasPointers = false := by kernel_rfl
  have b : siE.bytes = 4 := by kernel_rfl
  have c : (n == 0) = false := by simp; omega
  have d : (n == 1) = false := by simp; omega
  simp [Lib.swapperK, a, b, c, d]
set_option maxHeartbeats 2000000 in
theorem less_keys (blk off c Bs size : Nat) (W : World) (G : Nat → Int) (hs : W.cell? ⟨Bs, 0, none⟩ = some (.slice (some ⟨blk, off, none⟩) size c))
    (hc : ∀ t, t < size → W.cell? ⟨blk, off + t, none⟩ = some (.int .u32 (G t))) (i j : Nat) (hi : i < size) (hj : j < size) :
    Calls Try.prog 21 #[.int .i64 i, .int .i64 j, .pointer (some ⟨Bs, 0, none⟩)] W fun e w' => e = .returned (.bool (decide (G i < G j))) ∧ ∃ q, w' = W.drewN q := by
  have ci := hc i hi
  have cj := hc j hj
  go_enter Try.func21, Try.ntmps21
  go_wp2
  go_quiet (fail)
  go_wp2
  go_ret
  exact ⟨rfl, nq, rfl⟩
theorem sorted_le {d d' : Array Int} (hp : PermIn 0 d.size d d') (hs : SortedIn ltInt 0 d.size d') : d'.size = d.size ∧ d'.toList.Perm d.toList ∧ d'.toList.Pairwise (· ≤ ·) := by
  have h := sorted_unique_holds (lt := ltInt) swo_ltInt (fun x y h1 h2 => by simp only [ltInt, decide_eq_false_iff_not] at h1 h2; omega) d d' hp hs
  have e : (fun x y : Int => !ltInt y x) = fun x y => decide (x ≤ y) := by
    funext x y
    simp only [ltInt]
    by_cases h : x ≤ y
    · first | (simp [h]; done) | (simp [h]; omega)
    · first | (simp [h]; done) | (simp [h]; omega)
  rw [e] at h
  have q := List.pairwise_mergeSort (le := fun x y : Int => decide (x ≤ y)) (fun a b c h1 h2 => by simp only [decide_eq_true_eq] at *; omega) (fun a b => by simp only [Bool.or_eq_true, decide_eq_true_eq]; omega) d.toList
  rw [← h] at q
  have pm : d'.toList.Perm d.toList := by rw [h]; exact List.mergeSort_perm d.toList _
  exact ⟨by simpa using pm.length_eq, pm, by simpa using q⟩
set_option maxHeartbeats 2000000 in
theorem sort_many (blk c Bs : Nat) (d : Array Int) (h2 : 2 ≤ d.size) (h12 : d.size < 4611686018427387904) (w : World) (hH : Holds (Value.int .u32) w blk 0 d) (hblk : blk < w.heap.size) (hne : Bs ≠ blk)
    (hs : w.cell? ⟨Bs, 0, none⟩ = some (.slice (some ⟨blk, 0, none⟩) d.size c)) :
    Calls Try.prog 20 #[.iface 61 (.slice (some ⟨blk, 0, none⟩) d.size c), .func (.func 21) #[] #[.pointer (some ⟨Bs, 0, none⟩)]] w fun e w' =>
      e = .returned (.tuple #[]) ∧ ∃ (d' : Array Int) (n : Nat) (os : Array Obj), d'.size = d.size ∧ d'.toList.Perm d.toList ∧ d'.toList.Pairwise (· ≤ ·) ∧ w' = grow (putRow (Value.int .u32) (Sort.ahead w n) blk 0 d') os := by
  have hBs : Bs < w.heap.size := by
    by_cases h : Bs < w.heap.size
    · exact h
    · exfalso
      unfold World.cell? at hs
      have : w.heap[Bs]? = none := by simp; omega
      simp [this] at hs
  have hless : LessReads Try.prog 21 #[.pointer (some ⟨Bs, 0, none⟩)] (Value.int .u32) ltInt blk 0 d.size w := by
    intro m os dk hsz i j hi hj
    have e : sortWorld (Value.int .u32) w blk 0 m dk os = putRow (Value.int .u32) (grow (Sort.ahead w m) os) blk 0 dk := by
      unfold sortWorld; rw [putRow_grow _ (Sort.ahead w m) _ blk 0 _ hblk]
    have hHg : Holds (Value.int .u32) (grow (Sort.ahead w m) os) blk 0 d := holds_grow _ _ _ blk 0 d hblk (holds_ahead _ _ _ _ _ _ hH)
    refine less_keys blk 0 c Bs d.size _ (fun t => dk[t]!) ?_ (fun t ht => ?_) i j hi hj
    · rw [e, cell?_putRow_other _ _ blk 0 dk _ (Or.inl (by show Bs ≠ blk; exact hne)), cell?_grow _ _ _ (by show Bs < w.heap.size; exact hBs)]
      exact hs
    · rw [e]; exact cell?_putRow _ _ blk 0 d dk hHg hsz t (by omega)
  have hS := Any.sort_Slice_sorted sa6 61 37 siT siE (by kernel_rfl) (by kernel_rfl) (by kernel_rfl) (by kernel_rfl) 10 (fun _ => by kernel_rfl) (by kernel_rfl) (fun _ => by kernel_rfl) (Value.int .u32) (fun _ => rfl) ltInt swo_ltInt 21 _
    (enters_of Try.func21 (by kernel_rfl) rfl) blk 0 c d h2 h12 32 (by rw [siK _ h2]; kernel_rfl) true
    (fun args W => run_callFunc_extern Try.func32 (by kernel_rfl) (by kernel_rfl) (by kernel_rfl) (e := Extern.ReflectliteSwapper.swap true) (by kernel_rfl) args W) _ hless hH hblk
  change Calls Try.prog 20 _ _ _ at hS
  refine hS.mono ?_
  rintro e w' ⟨rfl, d', n, os, hp, hso, rfl⟩
  obtain ⟨q1, q2, q3⟩ := sorted_le hp hso
  exact ⟨rfl, d', n, os, q1, q2, q3, rfl⟩
set_option maxHeartbeats 2000000 in
theorem sort_few (p : Option Addr) (n c : Nat) (h1 : n ≤ 1) (lf : Fn) (la lb : Array Value) (w : World) :
    Calls Try.prog 20 #[.iface 61 (.slice p n c), .func lf la lb] w fun e w' => e = .returned (.tuple #[]) ∧ ∃ os, w' = grow w os := by
  have hK : Lib.swapperK n siE 10 = n + 1 := by
    rcases Nat.eq_zero_or_pos n with h | h
    · subst h; simp [Lib.swapperK]
    · obtain rfl : n = 1 := by omega
      simp [Lib.swapperK]
  exact Any.sort_Slice_tiny sa6 61 37 siT siE (by kernel_rfl) (by kernel_rfl) (by kernel_rfl) (by kernel_rfl) 10 (fun _ => by kernel_rfl) p n c h1 (27 + n) (by
    rw [hK]
    rcases Nat.eq_zero_or_pos n with h | h
    · subst h; kernel_rfl
    · obtain rfl : n = 1 := by omega
      kernel_rfl) lf la lb w
end Go.Proofs.Ytdoaobkfbjegpaa.Rd

