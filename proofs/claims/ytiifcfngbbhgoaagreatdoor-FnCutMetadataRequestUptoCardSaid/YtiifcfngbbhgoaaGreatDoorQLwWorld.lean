/-
  FROM THE ABSTRACT MACHINE TO THE WORLD: a law of a number and of octets whose run the machine answers with true.
-/
import Derived.Test.YtiifcfngbbhgoaaGreatDoorQRdStr
import Derived.ProofKit
import Derived.OpenShut
import Derived.ChangeSlices
import Derived.Stop.LaidErr
import Derived.Deep.DeepHandedRow
import Derived.Test.YtiifcfngbbhgoaaGreatDoorQWireS
import Derived.Test.YtiifcfngbbhgoaaGreatDoorRows
import Derived.DataReads
import Derived.ChangeArms
import Derived.Test.YtiifcfngbbhgoaaGreatDoorProg
import Derived.Shelf.GgSortFunc.Whole
import Derived.Shelf.GgSortFunc.Tiny
import Derived.Test.YtiifcfngbbhgoaaGreatDoorQAxDraw2
import Derived.Deep.QuietTactic
import Derived.Lib.RowBridge
import Derived.Lib.SortBridge
import Derived.Sort.LotA
import Derived.WalkKit
set_option linter.constructorNameAsVariable false
set_option linter.unusedVariables false
set_option linter.unusedSimpArgs false
namespace Go.Proofs.YtiifcfngbbhgoaaGreatDoor.Rd
open Go Go.RowKit Go.ChangeShapes Go.WideShapes Go.Proofs.YtiifcfngbbhgoaaGreatDoor.Ax Go.Proofs.YtiifcfngbbhgoaaGreatDoor.Wire
set_option maxRecDepth 100000
theorem trod_iface {H : Type} {enc : TypeId × Value → H} {P : Program} {w : World} {base fuel : Nat} {sp : Nat → Bool} {t : TypeId} {ms : Array (String × TypeId)} {cs : List Value} {n : String} {x : DataW H} {p : List MemPlace} (hi : P.underlying t = some (.interface ms))
    (h : DataW.trod enc P w base sp false fuel t cs = some (.iface n x, p)) : ∃ u v, cs = [.iface u v] := by
  cases fuel with
  | zero => simp [DataW.trod] at h
  | succ fuel =>
    rcases cs with _ | ⟨c, _ | ⟨c', cs⟩⟩
    · simp [DataW.trod, hi] at h
    · cases c <;> first | exact ⟨_, _, rfl⟩ | (simp [DataW.trod, hi] at h)
    · simp [DataW.trod, hi] at h
theorem blk_of_var {P : Program} {W : World} {n : String} {g : Nat} {cs : Array Value} (hg : P.globalNamed n = some g) (h : W.var? P n = some cs) : ∃ ty fz, W.heap[g]? = some (.cells cs ty fz) := by
  unfold World.var? at h
  simp only [hg, Option.bind_some] at h
  split at h
  · rename_i c t f hh
    simp at h
    subst h
    exact ⟨_, _, hh⟩
  · cases h
def loc0 (n : Nat) : List Ax.Loc := (List.range (n + 1)).map fun i => ⟨i, 0, false⟩
theorem rng_at (n i : Nat) : (List.range n)[i]? = if i < n then some i else none := by
  by_cases h : i < n
  · rw [if_pos h, List.getElem?_range h]
  · rw [if_neg h, List.getElem?_eq_none (by simpa using h)]
theorem loc0_at {n i : Nat} {l : Ax.Loc} (h : (loc0 n)[i]? = some l) : l = ⟨i, 0, false⟩ := by
  simp only [loc0, List.getElem?_map, rng_at] at h
  by_cases hi : i < n + 1
  · rw [if_pos hi] at h; simp at h; exact h.symm
  · rw [if_neg hi] at h; simp at h
theorem loc0_some {n i : Nat} (h : i < n + 1) : (loc0 n)[i]? = some ⟨i, 0, false⟩ := by
  simp only [loc0, List.getElem?_map, rng_at, if_pos h]
  simp
def absV (n : Nat) : Value → AV
  | .bool b => .b b
  | .int k x => .i k x
  | .float k x => .f k x
  | .string s => .s s
  | .pointer none => .p0
  | .pointer (some ⟨b, o, none⟩) => if b < n then .p b o else .u
  | .slice none 0 0 => .s0
  | .slice (some a) l c => if l = 0 then .se else if a.spot = none ∧ a.block < n ∧ l ≤ c ∧ c ≤ maxLen then .sl a.block a.off l else .u
  | .map none => .m0
  | .nilIface => .n
  | .iface _ _ => .e
  | _ => .u
theorem absV_VR (ρ : Nat → Value) (n : Nat) (v : Value) : VR ρ (loc0 n) (absV n v) v := by
  unfold absV
  split
  · exact .b _
  · exact .i _ _
  · exact .f _ _
  · exact .s _
  · exact .p0
  · split
    · exact .p (l := ⟨_, 0, false⟩) (loc0_some (by omega))
    · exact .u _
  · exact .s0
  · split
    · rename_i h; subst h; exact .se _ _
    · split
      · rename_i a _ _ _ h
        obtain ⟨ab, ao, sp⟩ := a
        obtain ⟨h0, h1, h2, h3⟩ := h
        simp only at h0
        subst h0
        exact .sl (l := ⟨_, 0, false⟩) (loc0_some (show ab < n + 1 from Nat.lt_succ_of_lt h1)) h2 h3 (fun _ h => by cases h)
      · exact .u _
  · exact .m0
  · exact .n
  · exact .e _ _
  · exact .u _
def absB (n : Nat) : Obj → Blk
  | .cells cur ty _ => .cells ty .ro (cur.toList.map (absV n))
  | _ => .dead
def heapOf (W : World) : Heap := W.heap.toList.map (absB W.heap.size) ++ [.dead]
theorem heapOf_len (W : World) : (heapOf W).length = W.heap.size + 1 := by simp [heapOf]
theorem lt_heap {W : World} {i : Nat} {b : Obj} (h : W.heap[i]? = some b) : i < W.heap.size := (Array.getElem?_eq_some_iff.1 h).1
theorem heapOf_at {W : World} {i : Nat} {cur : Array Value} {ty : TypeId} {fz : Nat × Nat} (h : W.heap[i]? = some (.cells cur ty fz)) : (heapOf W)[i]? = some (.cells ty .ro (cur.toList.map (absV W.heap.size))) := by
  have hlt := lt_heap h
  unfold heapOf
  rw [List.getElem?_append_left (by simpa using hlt), List.getElem?_map]
  simp [h, absB]
theorem heapOf_of {W : World} {i : Nat} {ty : TypeId} {kn : Kn} {cs : List AV} (h : (heapOf W)[i]? = some (.cells ty kn cs)) : ∃ cur fz, W.heap[i]? = some (.cells cur ty fz) ∧ kn = .ro ∧ cs = cur.toList.map (absV W.heap.size) := by
  unfold heapOf at h
  rcases at_last h with ⟨hlt, h⟩ | ⟨_, e⟩
  · rw [List.getElem?_map] at h
    obtain ⟨o, ho, hb⟩ := Option.map_eq_some_iff.1 h
    unfold absB at hb
    split at hb
    · simp at hb
      obtain ⟨rfl, rfl, rfl⟩ := hb
      exact ⟨_, _, by simpa using ho, rfl, rfl⟩
    · cases hb
  · cases e
theorem heapOf_nomap {W : World} {i : Nat} {kd : IntKind} {es : List (Int × AV)} (h : (heapOf W)[i]? = some (.map kd es)) : False := by
  unfold heapOf at h
  rcases at_last h with ⟨hlt, h⟩ | ⟨_, e⟩
  · rw [List.getElem?_map] at h
    obtain ⟨o, ho, hb⟩ := Option.map_eq_some_iff.1 h
    unfold absB at hb
    split at hb <;> cases hb
  · cases e
theorem hrW (ρ : Nat → Value) (W : World) : HR P ρ W.heap.size (loc0 W.heap.size) (heapOf W) W where
  len := by simp [loc0, heapOf]
  base_le := Nat.le_refl _
  live := fun i ty kn cs l hi hl => by
    obtain rfl := loc0_at hl
    obtain ⟨cur, fz, hb, rfl, rfl⟩ := heapOf_of hi
    refine ⟨cur, fz, hb, (fun h => by cases h), (fun _ => ⟨lt_heap hb, by simp⟩), ⟨(fun h => by cases h), (fun h => by cases h)⟩, by simp, (fun h => by cases h), ⟨by simp, fun j x v hx hv => ?_⟩⟩
    rw [List.getElem?_map] at hx
    obtain ⟨y, hy, rfl⟩ := Option.map_eq_some_iff.1 hx
    have : y = v := by
      rw [List.getElem?_take] at hv
      split at hv
      · rw [hy] at hv; cases hv; rfl
      · cases hv
    subst this
    exact absV_VR ρ _ _
  same := fun i ty kn cs l hi _ hl => by rw [loc0_at hl]
  inj := fun i j ty kn cs ty' kn' cs' l l' hi ho => by
    obtain ⟨_, _, _, rfl, _⟩ := heapOf_of hi
    cases ho
  maps := fun i kd es l hi => (heapOf_nomap hi).elim
  injm := fun i j kd es kd' es' l l' hi => (heapOf_nomap hi).elim
theorem globsW {W : World} {tE : TypeId}
    {tB : TypeId} (hB : ∃ fz, W.heap[(1 : Nat)]? = some (.cells #[] tB fz))
    (hE : ∃ u v fz, W.heap[(0 : Nat)]? = some (.cells #[.iface u v] tE fz)) : Globs (heapOf W) W.heap.size where
  be := by
    obtain ⟨fz, hb⟩ := hB
    exact ⟨tB, heapOf_at hb⟩
  nbe := by
    obtain ⟨fz, hb⟩ := hB
    have := lt_heap hb
    omega
  err := by
    obtain ⟨u, v, fz, hb⟩ := hE
    exact ⟨tE, heapOf_at hb⟩
  nerr := by
    obtain ⟨u, v, fz, hb⟩ := hE
    have := lt_heap hb
    omega
  lt := by rw [heapOf_len]; omega
def Octets (W : World) (v : Value) (zs : List Int) : Prop :=
  (v = .slice none 0 0 ∧ zs = []) ∨ ∃ (a : Addr) (len cap : Nat), v = .slice (some a) len cap ∧ len ≤ cap ∧ cap ≤ maxLen ∧ zs.length = len ∧ (∀ i, i < zs.length → W.cell? (a.add i) = some (.int .u8 (zs.getD i 0))) ∧ (∀ n ∈ zs, (Lit.int .u8 n).wf = true)
theorem octetsW {W : World} {v : Value} {zs : List Int} (hv : Octets W v zs) : BytesAt (fun i => i < (heapOf W).length) (heapOf W) (absV W.heap.size v) (zs.map fun n => UInt8.ofNat n.toNat) := by
  rcases hv with ⟨rfl, rfl⟩ | ⟨⟨ab, ao, spot⟩, len, cap, rfl, hl, hm, hz, hcell, hwz⟩
  · exact .z
  · by_cases h0 : len = 0
    · subst h0
      obtain rfl : zs = [] := List.eq_nil_of_length_eq_zero hz
      simp only [absV, if_true, List.map_nil]
      exact .e
    · have c0 := hcell 0 (by omega)
      have hspot : spot = none := by simpa [Addr.add] using World.cell?_spot c0
      subst hspot
      have hcell' : ∀ i, i < len → W.cell? ⟨ab, ao + i, none⟩ = some (.int .u8 (zs.getD i 0)) := fun i hi => by
        have := hcell i (by omega)
        rw [Addr.add_lit] at this
        exact this
      obtain ⟨cur, ty, fz, hb⟩ : ∃ cur ty fz, W.heap[ab]? = some (.cells cur ty fz) := by
        have := hcell' 0 (by omega)
        unfold World.cell? at this
        split at this
        · rename_i hh; exact ⟨_, _, _, hh⟩
        · cases this
      have hcur : ∀ i, i < len → cur.toList[ao + i]? = some (.int .u8 (zs.getD i 0)) := fun i hi => by
        have := hcell' i hi
        simp only [World.cell?, hb] at this
        simpa using this
      have hrng : ∀ i, i < len → zs.getD i 0 = ((UInt8.ofNat (zs.getD i 0).toNat).toNat : Nat) := fun i hi => by
        have hb := range_u8 hwz i
        rw [List.getD_eq_getElem?_getD]
        simp only [UInt8.toNat_ofNat']
        omega
      have hlt := lt_heap hb
      simp only [absV, if_neg h0]
      rw [if_pos ⟨by first | trivial | rfl, hlt, hl, hm⟩]
      have key := @BytesAt.s (fun i => i < (heapOf W).length) (heapOf W) ab ao ty .ro (cur.toList.map (absV W.heap.size)) (zs.map fun n => UInt8.ofNat n.toNat) (by rw [heapOf_len]; omega) (heapOf_at hb) (by simp; omega) (by
        apply List.ext_getElem?
        intro i
        simp only [u8s, List.getElem?_map, List.getElem?_take, List.getElem?_drop, List.length_map]
        by_cases hi : i < zs.length
        · rw [if_pos hi]
          have h1 := hcur i (by omega)
          simp only [List.getElem?_map, h1, Option.map_some, absV]
          rw [hrng i (by omega)]
          have : zs[i]? = some (zs.getD i 0) := by simp [List.getD, hi]
          rw [this]
          rfl
        · rw [if_neg hi, List.getElem?_eq_none (by omega)]
          rfl)
      simpa [hz] using key
end Go.Proofs.YtiifcfngbbhgoaaGreatDoor.Rd

namespace Go.Proofs.YtiifcfngbbhgoaaGreatDoor.Rd
open Go Go.RowKit Go.ChangeShapes Go.WideShapes Go.Proofs.YtiifcfngbbhgoaaGreatDoor.Ax Go.Proofs.YtiifcfngbbhgoaaGreatDoor.Wire
set_option maxRecDepth 100000
theorem noc : noCount P = true := by kernel_rfl
theorem be_laid : ((begin P (fun _ _ => 0) default).world.heap[(1 : Nat)]?).bind Obj.row? = some (#[], 118) := by kernel_rfl
theorem be_at {W : World} (h : W.ShapedOpen P) : ∃ fz, W.heap[(1 : Nat)]? = some (.cells #[] 118 fz) := by
  obtain ⟨cs, hc, hs, _⟩ := h.1 1 #[] 118 (of_decide_eq_true (by kernel_rfl)) be_laid
  obtain rfl : cs = #[] := by simpa using hs
  exact ⟨_, hc⟩
theorem err_named : P.globalNamed "pub-kmsg/pub/kmsg/inner/kbin.ErrNotEnoughData" = some 0 := by kernel_rfl
theorem err_type : (P.globals[(0 : Nat)]?).map (·.type) = some 50 := by kernel_rfl
theorem err_at {W : World} {nm : String} {x : DataW Unit} {r : List (String × DataW Unit)} (h : laidMet P (("pub-kmsg/pub/kmsg/inner/kbin.ErrNotEnoughData", .iface nm x) :: r) W) :
    ∃ tE u v fz, W.heap[(0 : Nat)]? = some (.cells #[.iface u v] tE fz) := by
  obtain ⟨ps, ⟨g0, t0, cs0, f0, p0, q0, hg0, ht0, hv0, hd0, _, e0⟩, _, hrows⟩ := h
  obtain rfl := Option.some.inj (err_named.symm.trans hg0)
  obtain rfl := Option.some.inj (err_type.symm.trans ht0)
  obtain ⟨u, v, e⟩ := trod_iface Tryz.underlying50 hd0
  obtain ⟨l0⟩ := cs0
  simp only at e
  subst e
  obtain ⟨ty, fz, hb⟩ := blk_of_var err_named hv0
  exact ⟨ty, u, v, fz, hb⟩
theorem law_world {law : FuncId} {S : CallA} (hS : ∀ base, CallSound P (fun _ => .bool true) base S) {aA : List AV} {aV : List Value} {W : World} (hav : VRs (fun _ => .bool true) (loc0 W.heap.size) aA aV)
    (hCA : ∀ {rb0 : Nat}, Globs (heapOf W) rb0 → ∃ H', CA P S law aA (heapOf W) (.b true, H'))
    (hsh : W.ShapedOpen P) {nm : String} {x : DataW Unit} {r : List (String × DataW Unit)} (hL : laidMet P (("pub-kmsg/pub/kmsg/inner/kbin.ErrNotEnoughData", .iface nm x) :: r) W) (hlb : ((P.funcs[law]?).bind (·.body)).isSome = true := by kernel_rfl) :
    Calls P law aV.toArray W fun e w' => e = .returned (.bool true) ∧ Below W.heap.size W w' := by
  obtain ⟨tE, hE⟩ := err_at hL
  obtain ⟨H', n, hn⟩ := hCA (globsW
    (be_at hsh)
    hE)
  have hr := hn n (Nat.le_refl _)
  have hbd : Bodied P law := by
    cases hf : P.funcs[law]? with
    | none => rw [hf] at hlb; cases hlb
    | some fn => rw [hf] at hlb; exact ⟨fn, hf, hlb⟩
  have hc := run_sound (fun _ => rfl) (noCount_iff noc) (hS W.heap.size) (drawA_sound (fun _ => rfl) (noCount_iff noc)) n
  refine (hc.at_ hbd hr (hrW _ W) hav).mono fun e w' hm => ?_
  obtain ⟨v', μ', rfl, _, hv', _, hbel⟩ := hm
  cases hv'
  exact ⟨rfl, hbel⟩
end Go.Proofs.YtiifcfngbbhgoaaGreatDoor.Rd

namespace Go.Proofs.YtiifcfngbbhgoaaGreatDoor.Rd
open Go Go.RowKit Go.ChangeShapes Go.WideShapes Go.Proofs.YtiifcfngbbhgoaaGreatDoor.Ax Go.Proofs.YtiifcfngbbhgoaaGreatDoor.Wire
set_option maxRecDepth 100000
section
variable {H : Type} {enc : TypeId × Value → H} {W : World}
theorem sl_open {t e : TypeId} {sz fuel : Nat} {cs : List Value} {x : DataW H × List MemPlace} (ht : P.underlying t = some (.slice e)) (hsz : P.cellsOf e = sz) (h0 : 0 < sz) (h : DataW.trod enc P W 0 (fun _ => true) true fuel t cs = some x) :
    ∃ (v : Value) (es rs : List (DataW H × List MemPlace)) (m : Nat), cs = [v] ∧ m < fuel ∧ SlAt (heapOf W) sz (absV W.heap.size v) es.length ∧ ((es = [] ∧ Rows.uptoBulk x.1 = 1) ∨ Rows.uptoBulk x.1 = Rows.uptoBulkAll (es.map (·.1)) + Rows.uptoBulkAll (rs.map (·.1)) + 1) ∧
      ∀ (j : Nat) (y : DataW H × List MemPlace), es[j]? = some y → ∃ c : List Value, DataW.trod enc P W 0 (fun _ => true) true m e c = some y ∧ elAt (heapOf W) sz (absV W.heap.size v) j = some (c.map (absV W.heap.size)) ∧ c.length = sz := by
  have hn0 : 0 < fuel := by cases fuel with
    | zero => simp [DataW.trod] at h
    | succ n => omega
  rcases DataW.trod_slice ht h with ⟨rfl, rfl⟩ | ⟨a, len, cap, es, rs, n, rfl, rfl, rfl, _, hl, hm, hlen, hel, _, _⟩
  · exact ⟨_, [], [], 0, rfl, hn0, .inl ⟨.inl rfl, rfl⟩, .inl ⟨rfl, by simp [Rows.uptoBulk]⟩, fun j y hj => by simp at hj⟩
  · subst hsz
    have hw : Rows.uptoBulk (DataW.slice (es.map (·.1)) (rs.map (·.1)) : DataW H) = Rows.uptoBulkAll (es.map (·.1)) + Rows.uptoBulkAll (rs.map (·.1)) + 1 := by simp [Rows.uptoBulk]
    by_cases hz : len = 0
    · subst hz
      obtain rfl : es = [] := List.eq_nil_of_length_eq_zero hlen
      exact ⟨_, [], rs, n, rfl, Nat.lt_succ_self n, .inl ⟨.inr (by simp [absV]), rfl⟩, .inr hw, fun j y hj => by simp at hj⟩
    · have each : ∀ i, i < len → ∃ c : List Value, W.cells? 0 (a.add (i * P.cellsOf e)) (P.cellsOf e) = some c ∧ ∃ y, es[i]? = some y ∧ DataW.trod enc P W 0 (fun _ => true) true n e c = some y := fun i hi => by
        have h1 := hel i hi
        have h2 : es[i]? = some (es[i]'(by omega)) := by simp
        rw [h2] at h1
        obtain ⟨c, c1, c2⟩ := Option.bind_eq_some_iff.1 h1
        exact ⟨c, c1, _, h2, c2⟩
      obtain ⟨ab, ao, spot⟩ := a
      have hcell : ∀ i k, i < len → k < P.cellsOf e → ∃ c, W.cells? 0 ((⟨ab, ao, spot⟩ : Addr).add (i * P.cellsOf e)) (P.cellsOf e) = some c ∧ W.cell? (((⟨ab, ao, spot⟩ : Addr).add (i * P.cellsOf e)).add k) = c[k]? ∧ c.length = P.cellsOf e := fun i k hi hk => by
        obtain ⟨c, c1, _⟩ := each i hi
        obtain ⟨_, q2, q3⟩ := World.cells?_some c1
        exact ⟨c, c1, q3 k hk, q2⟩
      obtain ⟨c0, c01, c02, c03⟩ := hcell 0 0 (by omega) h0
      have hs : W.cell? (((⟨ab, ao, spot⟩ : Addr).add (0 * P.cellsOf e)).add 0) = some (c0[0]'(by omega)) := by rw [c02]; simp
      have hspot : spot = none := by simpa [Addr.add] using World.cell?_spot hs
      subst hspot
      obtain ⟨cur, ty, fz, hb⟩ : ∃ cur ty fz, W.heap[ab]? = some (.cells cur ty fz) := by
        have := hs
        rw [Addr.add_lit, Addr.add_lit] at this
        unfold World.cell? at this
        split at this
        · rename_i hh; exact ⟨_, _, _, hh⟩
        · cases this
      have hat : ∀ i, i < len → ∃ c : List Value, (cur.toList.drop (ao + i * P.cellsOf e)).take (P.cellsOf e) = c ∧ c.length = P.cellsOf e ∧ ∃ y, es[i]? = some y ∧ DataW.trod enc P W 0 (fun _ => true) true n e c = some y := fun i hi => by
        obtain ⟨c, c1, y, y1, y2⟩ := each i hi
        obtain ⟨_, q2, q3⟩ := World.cells?_some c1
        refine ⟨c, ?_, q2, y, y1, y2⟩
        apply List.ext_getElem?
        intro k
        rw [List.getElem?_take]
        by_cases hk : k < P.cellsOf e
        · rw [if_pos hk, List.getElem?_drop, ← q3 k hk, Addr.add_lit, Addr.add_lit, World.cell?]
          simp [hb]
        · rw [if_neg hk, List.getElem?_eq_none (by omega)]
      have hlt := lt_heap hb
      have hav : absV W.heap.size (.slice (some ⟨ab, ao, none⟩) len cap) = .sl ab ao len := by
        simp only [absV, if_neg hz]
        rw [if_pos ⟨by first | trivial | rfl, hlt, hl, hm⟩]
      have hfit : ao + len * P.cellsOf e ≤ cur.toList.length := by
        obtain ⟨c, q1, q2, _⟩ := hat (len - 1) (by omega)
        have := congrArg List.length q1
        rw [q2, List.length_take, List.length_drop] at this
        have e1 : len * P.cellsOf e = (len - 1) * P.cellsOf e + P.cellsOf e := by
          conv => lhs; rw [show len = (len - 1) + 1 by omega, Nat.add_mul, Nat.one_mul]
        omega
      refine ⟨_, es, rs, n, rfl, Nat.lt_succ_self n, .inr ⟨ab, ao, ty, .ro, cur.toList.map (absV W.heap.size), by rw [hav, hlen], by omega, heapOf_at hb, by rw [List.length_map, hlen]; exact hfit⟩, .inr hw, fun j y hj => ?_⟩
      have hjl : j < len := by have := (List.getElem?_eq_some_iff.1 hj).1; omega
      obtain ⟨c, q1, q2, y', y1, y2⟩ := hat j hjl
      rw [hj] at y1
      cases y1
      refine ⟨c, y2, ?_, q2⟩
      rw [hav]
      simp only [elAt, heapOf_at hb]
      rw [← q1, List.map_take, List.map_drop]
theorem bulk_lits {k : IntKind} (zs : List Int) : zs.length ≤ Rows.uptoBulkAll (lits (H := H) k zs) := by
  induction zs with
  | nil => simp [Rows.uptoBulkAll, lits]
  | cons z r ih =>
    simp only [lits, List.map_cons, Rows.uptoBulkAll, Rows.uptoBulk, List.length_cons] at ih ⊢
    omega
theorem oct_open {fuel : Nat} {cs : List Value} {x : DataW H × List MemPlace} (h : DataW.trod enc P W 0 (fun _ => true) true fuel 22 cs = some x) :
    ∃ (v : Value) (bs : B), cs = [v] ∧ BytesAt (Lt (heapOf W)) (heapOf W) (absV W.heap.size v) bs ∧ bs.length + 1 ≤ Rows.uptoBulk x.1 := by
  rcases open_ints Tryz.underlying22 Tryz.underlying5 (show P.cellsOf 5 = 1 by kernel_rfl) h with ⟨rfl, rfl⟩ | ⟨a, len, cap, zs, rfl, _, hl, hm, hz, rfl, hcell, hwz⟩
  · exact ⟨_, [], rfl, octetsW (.inl ⟨rfl, rfl⟩), by simp [Rows.uptoBulk]⟩
  · simp only [if_true] at hz
    refine ⟨_, _, rfl, octetsW (zs := zs.take len) (.inr ⟨a, len, cap, rfl, hl, hm, by simp; omega, fun i hi => ?_, fun n hn => hwz n (List.mem_of_mem_take hn)⟩), ?_⟩
    · have hi' : i < len := by simp at hi; omega
      have := hcell i (by omega)
      rw [this]
      simp [List.getD_eq_getElem?_getD, List.getElem?_take, hi']
    · have := bulk_lits (H := H) (k := .u8) (zs.take len)
      simp only [Rows.uptoBulk, List.length_map]
      omega
theorem tags_open {fuel : Nat} {cs : List Value} {x : DataW H × List MemPlace} (h : DataW.trod enc P W 0 (fun _ => true) true fuel 24 cs = some x) :
    ∃ (v : Value) (us : List (Nat × B)), cs = [v] ∧ TgAt (heapOf W) (absV W.heap.size v) us ∧ (∀ u ∈ us, u.1 < 2 ^ 32) ∧ bulkU us + 1 ≤ Rows.uptoBulk x.1 := by
  obtain ⟨v, es, rs, m, rfl, _, hsl, hbk, hel⟩ := sl_open Tryz.underlying24 (show P.cellsOf 55 = 2 by kernel_rfl) (by omega) h
  have each : ∀ (j : Nat) (y : DataW H × List MemPlace), es[j]? = some y → ∃ (k : Nat) (bs : B), k < 2 ^ 32 ∧ (∃ w, elAt (heapOf W) 2 (absV W.heap.size v) j = some [.i .u32 (k : Nat), w] ∧ BytesAt (Lt (heapOf W)) (heapOf W) w bs) ∧ 1 + bs.length ≤ Rows.uptoBulk y.1 := fun j y hj => by
    obtain ⟨c, h1, h2, h3⟩ := hel j y hj
    obtain ⟨xs, n, rfl, rfl, hcl, hxl, hx⟩ := DataW.trod_struct Tryz.underlying55 h1
    rcases c with _ | ⟨c0, _ | ⟨c1, _ | ⟨c2, c⟩⟩⟩ <;> simp at h3
    have x0 := hx 0 _ rfl
    have x1 := hx 1 _ rfl
    obtain ⟨y0, y1, rfl⟩ : ∃ y0 y1, xs = [y0, y1] := by
      have : xs.length = 2 := hxl
      rcases xs with _ | ⟨y0, _ | ⟨y1, _ | ⟨y2, r⟩⟩⟩ <;> simp at this
      exact ⟨y0, y1, rfl⟩
    have e0 : ([c0, c1].drop 0).take (P.cellsOf 53) = [c0] := by rw [show P.cellsOf 53 = 1 by kernel_rfl]; rfl
    have e1 : ([c0, c1].drop 1).take (P.cellsOf 22) = [c1] := by rw [show P.cellsOf 22 = 1 by kernel_rfl]; rfl
    obtain ⟨k, q1, q2, q3⟩ := DataW.trod_int Tryz.underlying53 (x0.trans rfl)
    obtain ⟨w, bs, r1, r2, r3⟩ := oct_open (x1.trans rfl)
    replace q1 := e0.symm.trans q1
    replace r1 := e1.symm.trans r1
    simp only [List.cons.injEq, and_true] at q1 r1
    subst q1; subst r1
    have hk := bounds_u32 q3
    refine ⟨k.toNat, bs, by omega, ⟨_, ?_, r2⟩, ?_⟩
    · rw [h2]
      simp only [List.map_cons, List.map_nil, absV]
      rw [Int.toNat_of_nonneg hk.1]
    · subst q2
      simp only [List.map_cons, List.map_nil, Rows.uptoBulk, Rows.uptoBulkAll]
      omega
  have hall : ∀ (l : List (DataW H × List MemPlace)) (o : Nat), (∀ j y, l[j]? = some y → es[o + j]? = some y) → ∃ us : List (Nat × B), us.length = l.length ∧ (∀ u ∈ us, u.1 < 2 ^ 32) ∧ bulkU us ≤ Rows.uptoBulkAll (l.map (·.1)) ∧ ∀ j k bs, us[j]? = some (k, bs) → ∃ w, elAt (heapOf W) 2 (absV W.heap.size v) (o + j) = some [.i .u32 (k : Nat), w] ∧ BytesAt (Lt (heapOf W)) (heapOf W) w bs := by
    intro l
    induction l with
    | nil => intro o _; exact ⟨[], rfl, by simp, by simp [bulkU], fun j k bs hj => by simp at hj⟩
    | cons y r ih =>
      intro o ho
      obtain ⟨us, u1, u2, u3, u4⟩ := ih (o + 1) (fun j z hz => by rw [show o + 1 + j = o + (j + 1) by omega]; exact ho (j + 1) z (by simpa using hz))
      obtain ⟨k, bs, b1, b2, b3⟩ := each o y (by simpa using ho 0 y rfl)
      refine ⟨(k, bs) :: us, by simp [u1], fun u hu => ?_, ?_, fun j k' bs' hj => ?_⟩
      · rcases List.mem_cons.1 hu with rfl | hu
        · exact b1
        · exact u2 u hu
      · simp only [bulkU, List.map_cons, Rows.uptoBulkAll]; omega
      · cases j with
        | zero => simp at hj; obtain ⟨rfl, rfl⟩ := hj; exact b2
        | succ j => rw [show o + (j + 1) = o + 1 + j by omega]; exact u4 j k' bs' (by simpa using hj)
  obtain ⟨us, u1, u2, u3, u4⟩ := hall es 0 (fun j y h => by simpa using h)
  refine ⟨v, us, rfl, ⟨by rw [u1]; exact hsl, fun j k bs hj => by simpa using u4 j k bs hj⟩, u2, ?_⟩
  rcases hbk with ⟨rfl, hb⟩ | hb
  · simp [Rows.uptoBulkAll] at u3; omega
  · omega
theorem tree_trod : ∀ (fuel : Nat) (cs : List Value) (x : DataW H × List MemPlace), DataW.trod enc P W 0 (fun _ => true) true fuel 26 cs = some x →
    ∃ t : Tr, TrAt (heapOf W) (cs.map (absV W.heap.size)) t ∧ t.Fine ∧ t.bulk ≤ Rows.uptoBulk x.1 := by
  intro fuel
  induction fuel using Nat.strongRecOn with
  | ind fuel ih =>
    intro cs x h
    obtain ⟨xs, n, rfl, rfl, hcl, hxl, hx⟩ := DataW.trod_struct Tryz.underlying26 h
    have h3 : cs.length = 5 := hcl.trans (by kernel_rfl)
    rcases cs with _ | ⟨c0, _ | ⟨c1, _ | ⟨c2, _ | ⟨c3, _ | ⟨c4, _ | ⟨c5, cs⟩⟩⟩⟩⟩⟩ <;> simp at h3
    obtain ⟨y0, y1, y2, y3, y4, rfl⟩ : ∃ y0 y1 y2 y3 y4, xs = [y0, y1, y2, y3, y4] := by
      have : xs.length = 5 := hxl
      rcases xs with _ | ⟨y0, _ | ⟨y1, _ | ⟨y2, _ | ⟨y3, _ | ⟨y4, _ | ⟨y5, r⟩⟩⟩⟩⟩⟩ <;> simp at this
      exact ⟨y0, y1, y2, y3, y4, rfl⟩
    have x0 := (hx 0 _ rfl).trans rfl
    have x1 := (hx 1 _ rfl).trans rfl
    have x2 := (hx 2 _ rfl).trans rfl
    have x3 := (hx 3 _ rfl).trans rfl
    have x4 := (hx 4 _ rfl).trans rfl
    have s0 : P.cellsOf 2 = 1 := by kernel_rfl
    have s1 : P.cellsOf 22 = 1 := by kernel_rfl
    have s2 : P.cellsOf 4 = 1 := by kernel_rfl
    have s3 : P.cellsOf 23 = 1 := by kernel_rfl
    have s4 : P.cellsOf 24 = 1 := by kernel_rfl
    obtain ⟨k, q1, q2, q3⟩ := DataW.trod_int Tryz.underlying2 x0
    obtain ⟨w1, bs, r1, r2, r3⟩ := oct_open x1
    obtain ⟨nl, z1, z2⟩ := DataW.trod_bool Tryz.underlying4 x2
    obtain ⟨w3, es, rs, m, l1, l2, l3, l4, l5⟩ := sl_open Tryz.underlying23 (show P.cellsOf 26 = 5 by kernel_rfl) (by omega) x3
    obtain ⟨w4, us, t1, t2, t3, t4⟩ := tags_open x4
    replace q1 : [c0] = _ := (show ([c0, c1, c2, c3, c4].drop 0).take (P.cellsOf 2) = [c0] by rw [s0]; rfl).symm.trans q1
    replace r1 : [c1] = _ := (show ([c0, c1, c2, c3, c4].drop 1).take (P.cellsOf 22) = [c1] by rw [s1]; rfl).symm.trans r1
    replace z1 : [c2] = _ := (show ([c0, c1, c2, c3, c4].drop 2).take (P.cellsOf 4) = [c2] by rw [s2]; rfl).symm.trans z1
    replace l1 : [c3] = _ := (show ([c0, c1, c2, c3, c4].drop 3).take (P.cellsOf 23) = [c3] by rw [s3]; rfl).symm.trans l1
    replace t1 : [c4] = _ := (show ([c0, c1, c2, c3, c4].drop 4).take (P.cellsOf 24) = [c4] by rw [s4]; rfl).symm.trans t1
    simp only [List.cons.injEq, and_true] at q1 r1 z1 l1 t1
    subst q1; subst r1; subst z1; subst l1; subst t1
    have hall : ∀ (l : List (DataW H × List MemPlace)) (o : Nat), (∀ j y, l[j]? = some y → es[o + j]? = some y) → ∃ ts : List Tr, ts.length = l.length ∧ (∀ t ∈ ts, t.Fine) ∧ bulkL ts ≤ Rows.uptoBulkAll (l.map (·.1)) ∧ ∀ j x, ts[j]? = some x → ∀ c, elAt (heapOf W) 5 (absV W.heap.size c3) (o + j) = some c → TrAt (heapOf W) c x := by
      intro l
      induction l with
      | nil => intro o _; exact ⟨[], rfl, by simp, by simp [bulkL], fun j x hj => by simp at hj⟩
      | cons y r ih2 =>
        intro o ho
        obtain ⟨us, u1, u2, u3, u4⟩ := ih2 (o + 1) (fun j z hz => by rw [show o + 1 + j = o + (j + 1) by omega]; exact ho (j + 1) z (by simpa using hz))
        obtain ⟨c, e1, e2, e3⟩ := l5 o y (by simpa using ho 0 y rfl)
        obtain ⟨t, b1, b2, b3⟩ := ih m (by omega) c y e1
        refine ⟨t :: us, by simp [u1], fun u hu => ?_, ?_, fun j x hj c' hc' => ?_⟩
        · rcases List.mem_cons.1 hu with rfl | hu
          · exact b2
          · exact u2 u hu
        · simp only [bulkL, List.map_cons, Rows.uptoBulkAll]; omega
        · cases j with
          | zero =>
            simp at hj; subst hj
            rw [show o + 0 = o by omega, e2] at hc'
            cases hc'
            exact b1
          | succ j => exact u4 j x (by simpa using hj) c' (by rw [show o + 1 + j = o + (j + 1) by omega]; exact hc')
    obtain ⟨ts, v1, v2, v3, v4⟩ := hall es 0 (fun j y h => by simpa using h)
    have hk := bounds_i64 q3
    refine ⟨.mk k bs nl ts us, ?_, .mk t3 v2, ?_⟩
    · exact .mk hk r2 t2 (by rw [v1]; exact l3) (fun j x hj c hc => v4 j x hj c (by simpa using hc))
    · subst q2
      simp only [Tr.bulk, List.map_cons, List.map_nil, Rows.uptoBulk, Rows.uptoBulkAll, z2]
      rcases l4 with ⟨rfl, hb⟩ | hb
      · simp [Rows.uptoBulkAll] at v3; omega
      · omega
theorem tree_open {v : Value} {d : DataW H} {p : List MemPlace} (h : DataW.Trod enc P W 0 (fun _ => true) true 26 v d p) :
    ∃ (cs : Array Value) (t : Tr), v = .agg cs ∧ TrAt (heapOf W) (cs.toList.map (absV W.heap.size)) t ∧ t.Fine ∧ t.bulk ≤ Rows.uptoBulk d := by
  obtain ⟨fuel, h⟩ := h
  obtain ⟨t, h1, h2, h3⟩ := tree_trod fuel _ _ h
  have hl : v.cells.size = 5 := by
    obtain ⟨xs, n, _, _, hcl, _, _⟩ := DataW.trod_struct Tryz.underlying26 h
    have : v.cells.toList.length = 5 := hcl.trans (by kernel_rfl)
    simpa using this
  cases v <;> first | exact ⟨_, t, rfl, h1, h2, h3⟩ | (simp [Value.cells] at hl)
theorem tree_stay {W' : World} {v1 : Value} {d1 : DataW H} {p1 : List MemPlace} (h1 : DataW.Trod enc P W 0 (fun _ => true) true 26 v1 d1 p1) (hb : Below W.heap.size W W') (hlt : ∀ p ∈ p1, p.block < W.heap.size) {sp : Nat → Bool} (hs : ∀ p ∈ p1, sp p.block = true) :
    DataW.Trod enc P W' 0 sp true 26 v1 d1 p1 :=
  WideElems.Trod_stays (P := P) (show laidOutB P = true by kernel_rfl) (by kernel_rfl) (of_decide_eq_true (by kernel_rfl)) h1 (fun p hp => hb.same (hlt p hp)) hs
theorem agg_VR (ρ : Nat → Value) (W : World) (cs : Array Value) : VR ρ (loc0 W.heap.size) (.g (cs.toList.map (absV W.heap.size))) (.agg cs) := by
  have := VR.g (ρ := ρ) (μ := loc0 W.heap.size) (cs := cs.toList.map (absV W.heap.size)) (vs := cs.toList) (by simp) (fun j x v hx hv => by
    rw [List.getElem?_map, hv] at hx
    simp at hx
    subst hx
    exact absV_VR _ _ _)
  exact this
theorem bulk_one {ds gs : List (DataW H)} (i : Nat) (hk : Rows.uptoSmall H (ds ++ gs) = true) {d : DataW H} (hd : ds[i]? = some d) : Rows.uptoBulk d ≤ 1048576 := by
  have h : Rows.uptoBulkAll (ds ++ gs) ≤ 1048576 := of_decide_eq_true hk
  have hm : d ∈ ds ++ gs := List.mem_append_left _ (List.mem_of_getElem? hd)
  have : ∀ (l : List (DataW H)), d ∈ l → Rows.uptoBulk d ≤ Rows.uptoBulkAll l := by
    intro l
    induction l with
    | nil => intro h; cases h
    | cons x r ih =>
      intro h
      simp only [Rows.uptoBulkAll]
      rcases List.mem_cons.1 h with rfl | h
      · omega
      · have := ih h; omega
  exact Nat.le_trans (this _ hm) h
end
end Go.Proofs.YtiifcfngbbhgoaaGreatDoor.Rd

namespace Go.Proofs.YtiifcfngbbhgoaaGreatDoor.Rd
open Go Go.Shelf
def sa6_ren : Go.Shelf.Ren := ⟨fun | 6 => 79 | 10 => 84 | 11 => 85 | 12 => 86 | 13 => 87 | 14 => 88 | 24 => 78 | 25 => 98 | 26 => 99 | 27 => 100 | 28 => 101 | 29 => 102 | 30 => 103 | 31 => 104 | 32 => 105 | 33 => 106 | 34 => 107 | 35 => 108 | 36 => 109 | 37 => 110 | 38 => 111 | 39 => 112 | n => n, fun | 20 => 20 | 26 => 114 | 35 => 124 | 0 => 0 | 37 => 126 | 3 => 3 | 41 => 91 | 44 => 131 | 49 => 53 | 51 => 69 | 4 => 4 | 54 => 138 | 53 => 137 | 58 => 142 | 5 => 5 | 9 => 9 | 60 => 144 | 64 => 148 | 66 => 150 | 67 => 151 | 17 => 17 | 32 => 121 | 33 => 122 | 82 => 166 | 12 => 12 | 75 => 159 | 76 => 160 | 77 => 161 | 78 => 162 | 79 => 163 | 80 => 164 | n => n, fun | n => n⟩
theorem sa6 : Go.Proofs.LaysGg.n6 Tryz.prog sa6_ren := {
  mixed := by kernel_rfl,
  f6 := Tryz.func79.trans (congrArg some (by kernel_rfl)),
  f10 := Tryz.func84.trans (congrArg some (by kernel_rfl)),
  f11 := Tryz.func85.trans (congrArg some (by kernel_rfl)),
  f12 := Tryz.func86.trans (congrArg some (by kernel_rfl)),
  f13 := Tryz.func87.trans (congrArg some (by kernel_rfl)),
  f14 := Tryz.func88.trans (congrArg some (by kernel_rfl)),
  f24 := Tryz.func78.trans (congrArg some (by kernel_rfl)),
  f25 := Tryz.func98.trans (congrArg some (by kernel_rfl)),
  f26 := Tryz.func99.trans (congrArg some (by kernel_rfl)),
  f27 := Tryz.func100.trans (congrArg some (by kernel_rfl)),
  f28 := Tryz.func101.trans (congrArg some (by kernel_rfl)),
  f29 := Tryz.func102.trans (congrArg some (by kernel_rfl)),
  f30 := Tryz.func103.trans (congrArg some (by kernel_rfl)),
  f31 := Tryz.func104.trans (congrArg some (by kernel_rfl)),
  f32 := Tryz.func105.trans (congrArg some (by kernel_rfl)),
  f33 := Tryz.func106.trans (congrArg some (by kernel_rfl)),
  f34 := Tryz.func107.trans (congrArg some (by kernel_rfl)),
  f35 := Tryz.func108.trans (congrArg some (by kernel_rfl)),
  f36 := Tryz.func109.trans (congrArg some (by kernel_rfl)),
  f37 := Tryz.func110.trans (congrArg some (by kernel_rfl)),
  f38 := Tryz.func111.trans (congrArg some (by kernel_rfl)),
  f39 := Tryz.func112.trans (congrArg some (by kernel_rfl)),
  t0 := Tryz.underlying0,
  a0 := Tryz.isAgg0,
  z0 := Tryz.sizeOf0,
  v0 := Tryz.zeroValue0,
  i0 := by kernel_rfl,
  t3 := Tryz.underlying3,
  a3 := Tryz.isAgg3,
  z3 := Tryz.sizeOf3,
  v3 := Tryz.zeroValue3,
  i3 := by kernel_rfl,
  t4 := Tryz.underlying4,
  a4 := Tryz.isAgg4,
  z4 := Tryz.sizeOf4,
  v4 := Tryz.zeroValue4,
  i4 := by kernel_rfl,
  t5 := Tryz.underlying5,
  a5 := Tryz.isAgg5,
  z5 := Tryz.sizeOf5,
  v5 := Tryz.zeroValue5,
  i5 := by kernel_rfl,
  t9 := Tryz.underlying9,
  a9 := Tryz.isAgg9,
  z9 := Tryz.sizeOf9,
  v9 := Tryz.zeroValue9,
  i9 := by kernel_rfl,
  t12 := Tryz.underlying12,
  a12 := Tryz.isAgg12,
  z12 := Tryz.sizeOf12,
  v12 := Tryz.zeroValue12,
  i12 := by kernel_rfl,
  t17 := Tryz.underlying17,
  a17 := Tryz.isAgg17,
  z17 := Tryz.sizeOf17,
  v17 := Tryz.zeroValue17,
  i17 := by kernel_rfl,
  t20 := Tryz.underlying20,
  a20 := Tryz.isAgg20,
  z20 := Tryz.sizeOf20,
  v20 := Tryz.zeroValue20,
  i20 := by kernel_rfl,
  t26 := Tryz.underlying114,
  a26 := Tryz.isAgg114,
  z26 := Tryz.sizeOf114,
  v26 := Tryz.zeroValue114,
  i26 := by kernel_rfl,
  t32 := Tryz.underlying121,
  a32 := Tryz.isAgg121,
  z32 := Tryz.sizeOf121,
  v32 := Tryz.zeroValue121,
  i32 := by kernel_rfl,
  t33 := Tryz.underlying122,
  a33 := Tryz.isAgg122,
  z33 := Tryz.sizeOf122,
  v33 := Tryz.zeroValue122,
  i33 := by kernel_rfl,
  t35 := Tryz.underlying124,
  a35 := Tryz.isAgg124,
  z35 := Tryz.sizeOf124,
  v35 := Tryz.zeroValue124,
  i35 := by kernel_rfl,
  t37 := Tryz.underlying126,
  a37 := Tryz.isAgg126,
  z37 := Tryz.sizeOf126,
  v37 := Tryz.zeroValue126,
  i37 := by kernel_rfl,
  t41 := Tryz.underlying91,
  a41 := Tryz.isAgg91,
  z41 := Tryz.sizeOf91,
  v41 := Tryz.zeroValue91,
  i41 := by kernel_rfl,
  t44 := Tryz.underlying131,
  a44 := Tryz.isAgg131,
  z44 := Tryz.sizeOf131,
  v44 := Tryz.zeroValue131,
  i44 := by kernel_rfl,
  t49 := Tryz.underlying53,
  a49 := Tryz.isAgg53,
  z49 := Tryz.sizeOf53,
  v49 := Tryz.zeroValue53,
  i49 := by kernel_rfl,
  t51 := Tryz.underlying69,
  a51 := Tryz.isAgg69,
  z51 := Tryz.sizeOf69,
  v51 := Tryz.zeroValue69,
  i51 := by kernel_rfl,
  t53 := Tryz.underlying137,
  a53 := Tryz.isAgg137,
  z53 := Tryz.sizeOf137,
  v53 := Tryz.zeroValue137,
  i53 := by kernel_rfl,
  t54 := Tryz.underlying138,
  a54 := Tryz.isAgg138,
  z54 := Tryz.sizeOf138,
  v54 := Tryz.zeroValue138,
  i54 := by kernel_rfl,
  t58 := Tryz.underlying142,
  a58 := Tryz.isAgg142,
  z58 := Tryz.sizeOf142,
  v58 := Tryz.zeroValue142,
  i58 := by kernel_rfl,
  t60 := Tryz.underlying144,
  a60 := Tryz.isAgg144,
  z60 := Tryz.sizeOf144,
  v60 := Tryz.zeroValue144,
  i60 := by kernel_rfl,
  t64 := Tryz.underlying148,
  a64 := Tryz.isAgg148,
  z64 := Tryz.sizeOf148,
  v64 := Tryz.zeroValue148,
  i64 := by kernel_rfl,
  t66 := Tryz.underlying150,
  a66 := Tryz.isAgg150,
  z66 := Tryz.sizeOf150,
  v66 := Tryz.zeroValue150,
  i66 := by kernel_rfl,
  t67 := Tryz.underlying151,
  a67 := Tryz.isAgg151,
  z67 := Tryz.sizeOf151,
  v67 := Tryz.zeroValue151,
  i67 := by kernel_rfl,
  t75 := Tryz.underlying159,
  a75 := Tryz.isAgg159,
  z75 := Tryz.sizeOf159,
  v75 := Tryz.zeroValue159,
  i75 := by kernel_rfl,
  t76 := Tryz.underlying160,
  a76 := Tryz.isAgg160,
  z76 := Tryz.sizeOf160,
  v76 := Tryz.zeroValue160,
  i76 := by kernel_rfl,
  t77 := Tryz.underlying161,
  a77 := Tryz.isAgg161,
  z77 := Tryz.sizeOf161,
  v77 := Tryz.zeroValue161,
  i77 := by kernel_rfl,
  t78 := Tryz.underlying162,
  a78 := Tryz.isAgg162,
  z78 := Tryz.sizeOf162,
  v78 := Tryz.zeroValue162,
  i78 := by kernel_rfl,
  t79 := Tryz.underlying163,
  a79 := Tryz.isAgg163,
  z79 := Tryz.sizeOf163,
  v79 := Tryz.zeroValue163,
  i79 := by kernel_rfl,
  t80 := Tryz.underlying164,
  a80 := Tryz.isAgg164,
  z80 := Tryz.sizeOf164,
  v80 := Tryz.zeroValue164,
  i80 := by kernel_rfl,
  t82 := Tryz.underlying166,
  a82 := Tryz.isAgg166,
  z82 := Tryz.sizeOf166,
  v82 := Tryz.zeroValue166,
  i82 := by kernel_rfl }
end Go.Proofs.YtiifcfngbbhgoaaGreatDoor.Rd

namespace Go.Proofs.YtiifcfngbbhgoaaGreatDoor.Rd
open Go Go.Shelf Go.RowKit Go.Lib Go.Sort
noncomputable def siT : TypeInfo := (Tryz.prog.info? 112).get (by kernel_rfl)
noncomputable def siE : TypeInfo := (Tryz.prog.info? 53).get (by kernel_rfl)
theorem siK (n : Nat) (h2 : 2 ≤ n) : Lib.swapperK n siE 10 = 6 := by
  have a : siE.hasPointers = false := by kernel_rfl
  have b : siE.bytes = 4 := by kernel_rfl
  have c : (n == 0) = false := by simp; omega
  have d : (n == 1) = false := by simp; omega
  simp [Lib.swapperK, a, b, c, d]
set_option maxHeartbeats 2000000 in
theorem less_keys (blk off c Bs size : Nat) (W : World) (G : Nat → Int) (hs : W.cell? ⟨Bs, 0, none⟩ = some (.slice (some ⟨blk, off, none⟩) size c))
    (hc : ∀ t, t < size → W.cell? ⟨blk, off + t, none⟩ = some (.int .u32 (G t))) (i j : Nat) (hi : i < size) (hj : j < size) :
    Calls Tryz.prog 80 #[.int .i64 i, .int .i64 j, .pointer (some ⟨Bs, 0, none⟩)] W fun e w' => e = .returned (.bool (decide (G i < G j))) ∧ ∃ q, w' = W.drewN q := by
  have ci := hc i hi
  have cj := hc j hj
  go_enter Tryz.func80, Tryz.ntmps80
  go_wp2
  go_quiet (fail)
  go_wp2
  go_ret
  exact ⟨rfl, nq, rfl⟩
theorem sorted_le {d d' : Array Int} (hp : PermIn 0 d.size d d') (hs : SortedIn ltInt 0 d.size d') : d'.size = d.size ∧ d'.toList.Perm d.toList ∧ d'.toList.Pairwise (· ≤ ·) := by
  have h := sorted_unique_holds (lt := ltInt) swo_ltInt (fun x y h1 h2 => by simp only [ltInt, decide_eq_false_iff_not] at h1 h2; omega) d d' hp hs
  have e : (fun x y : Int => !ltInt y x) = fun x y => decide (x ≤ y) := by
    funext x y
    simp only [ltInt]
    by_cases h : x ≤ y
    · first | (simp [h]; done) | (simp [h]; omega)
    · first | (simp [h]; done) | (simp [h]; omega)
  rw [e] at h
  have q := List.pairwise_mergeSort (le := fun x y : Int => decide (x ≤ y)) (fun a b c h1 h2 => by simp only [decide_eq_true_eq] at *; omega) (fun a b => by simp only [Bool.or_eq_true, decide_eq_true_eq]; omega) d.toList
  rw [← h] at q
  have pm : d'.toList.Perm d.toList := by rw [h]; exact List.mergeSort_perm d.toList _
  exact ⟨by simpa using pm.length_eq, pm, by simpa using q⟩
set_option maxHeartbeats 2000000 in
theorem sort_many (blk c Bs : Nat) (d : Array Int) (h2 : 2 ≤ d.size) (h12 : d.size < 4611686018427387904) (w : World) (hH : Holds (Value.int .u32) w blk 0 d) (hblk : blk < w.heap.size) (hne : Bs ≠ blk)
    (hs : w.cell? ⟨Bs, 0, none⟩ = some (.slice (some ⟨blk, 0, none⟩) d.size c)) :
    Calls Tryz.prog 79 #[.iface 112 (.slice (some ⟨blk, 0, none⟩) d.size c), .func (.func 80) #[] #[.pointer (some ⟨Bs, 0, none⟩)]] w fun e w' =>
      e = .returned (.tuple #[]) ∧ ∃ (d' : Array Int) (n : Nat) (os : Array Obj), d'.size = d.size ∧ d'.toList.Perm d.toList ∧ d'.toList.Pairwise (· ≤ ·) ∧ w' = grow (putRow (Value.int .u32) (Sort.ahead w n) blk 0 d') os := by
  have hBs : Bs < w.heap.size := by
    by_cases h : Bs < w.heap.size
    · exact h
    · exfalso
      unfold World.cell? at hs
      have : w.heap[Bs]? = none := by simp; omega
      simp [this] at hs
  have hless : LessReads Tryz.prog 80 #[.pointer (some ⟨Bs, 0, none⟩)] (Value.int .u32) ltInt blk 0 d.size w := by
    intro m os dk hsz i j hi hj
    have e : sortWorld (Value.int .u32) w blk 0 m dk os = putRow (Value.int .u32) (grow (Sort.ahead w m) os) blk 0 dk := by
      unfold sortWorld; rw [putRow_grow _ (Sort.ahead w m) _ blk 0 _ hblk]
    have hHg : Holds (Value.int .u32) (grow (Sort.ahead w m) os) blk 0 d := holds_grow _ _ _ blk 0 d hblk (holds_ahead _ _ _ _ _ _ hH)
    refine less_keys blk 0 c Bs d.size _ (fun t => dk[t]!) ?_ (fun t ht => ?_) i j hi hj
    · rw [e, cell?_putRow_other _ _ blk 0 dk _ (Or.inl (by show Bs ≠ blk; exact hne)), cell?_grow _ _ _ (by show Bs < w.heap.size; exact hBs)]
      exact hs
    · rw [e]; exact cell?_putRow _ _ blk 0 d dk hHg hsz t (by omega)
  have hS := Any.sort_Slice_sorted sa6 112 53 siT siE (by kernel_rfl) (by kernel_rfl) (by kernel_rfl) (by kernel_rfl) 10 (fun _ => by kernel_rfl) (by kernel_rfl) (fun _ => by kernel_rfl) (Value.int .u32) (fun _ => rfl) ltInt swo_ltInt 80 _
    (enters_of Tryz.func80 (by kernel_rfl) rfl) blk 0 c d h2 h12 94 (by rw [siK _ h2]; kernel_rfl) true
    (fun args W => run_callFunc_extern Tryz.func94 (by kernel_rfl) (by kernel_rfl) (by kernel_rfl) (e := Extern.ReflectliteSwapper.swap true) (by kernel_rfl) args W) _ hless hH hblk
  change Calls Tryz.prog 79 _ _ _ at hS
  refine hS.mono ?_
  rintro e w' ⟨rfl, d', n, os, hp, hso, rfl⟩
  obtain ⟨q1, q2, q3⟩ := sorted_le hp hso
  exact ⟨rfl, d', n, os, q1, q2, q3, rfl⟩
set_option maxHeartbeats 2000000 in
theorem sort_few (p : Option Addr) (n c : Nat) (h1 : n ≤ 1) (lf : Fn) (la lb : Array Value) (w : World) :
    Calls Tryz.prog 79 #[.iface 112 (.slice p n c), .func lf la lb] w fun e w' => e = .returned (.tuple #[]) ∧ ∃ os, w' = grow w os := by
  have hK : Lib.swapperK n siE 10 = n + 1 := by
    rcases Nat.eq_zero_or_pos n with h | h
    · subst h; simp [Lib.swapperK]
    · obtain rfl : n = 1 := by omega
      simp [Lib.swapperK]
  exact Any.sort_Slice_tiny sa6 112 53 siT siE (by kernel_rfl) (by kernel_rfl) (by kernel_rfl) (by kernel_rfl) 10 (fun _ => by kernel_rfl) p n c h1 (89 + n) (by
    rw [hK]
    rcases Nat.eq_zero_or_pos n with h | h
    · subst h; kernel_rfl
    · obtain rfl : n = 1 := by omega
      kernel_rfl) lf la lb w
end Go.Proofs.YtiifcfngbbhgoaaGreatDoor.Rd

