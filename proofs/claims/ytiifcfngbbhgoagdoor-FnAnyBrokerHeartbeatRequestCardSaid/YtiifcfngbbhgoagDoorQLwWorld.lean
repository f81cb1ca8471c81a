/-
  FROM THE ABSTRACT MACHINE TO THE WORLD: a law of a number and of octets whose run the machine answers with true.
-/
import Derived.Test.YtiifcfngbbhgoagDoorQApKit
import Derived.ProofKit
import Derived.OpenShut
import Derived.ChangeSlices
import Derived.Stop.LaidErr
import Derived.Deep.DeepHandedRow
import Derived.Test.YtiifcfngbbhgoagDoorProg
import Derived.LaidLaws
set_option linter.constructorNameAsVariable false
set_option linter.unusedVariables false
set_option linter.unusedSimpArgs false
namespace Go.Proofs.YtiifcfngbbhgoagDoor.Rd
open Go Go.RowKit Go.ChangeShapes Go.WideShapes Go.Proofs.YtiifcfngbbhgoagDoor.Ax Go.Proofs.YtiifcfngbbhgoagDoor.Wire
set_option maxRecDepth 100000
theorem trod_iface {H : Type} {enc : TypeId × Value → H} {P : Program} {w : World} {base fuel : Nat} {sp : Nat → Bool} {t : TypeId} {ms : Array (String × TypeId)} {cs : List Value} {n : String} {x : DataW H} {p : List MemPlace} (hi : P.underlying t = some (.interface ms))
    (h : DataW.trod enc P w base sp false fuel t cs = some (.iface n x, p)) : ∃ u v, cs = [.iface u v] := by
  cases fuel with
  | zero => simp [DataW.trod] at h
  | succ fuel =>
    rcases cs with _ | ⟨c, _ | ⟨c', cs⟩⟩
    · simp [DataW.trod, hi] at h
    · cases c <;> first | exact ⟨_, _, rfl⟩ | (simp [DataW.trod, hi] at h)
    · simp [DataW.trod, hi] at h
theorem blk_of_var {P : Program} {W : World} {n : String} {g : Nat} {cs : Array Value} (hg : P.globalNamed n = some g) (h : W.var? P n = some cs) : ∃ ty fz, W.heap[g]? = some (.cells cs ty fz) := by
  unfold World.var? at h
  simp only [hg, Option.bind_some] at h
  split at h
  · rename_i c t f hh
    simp at h
    subst h
    exact ⟨_, _, hh⟩
  · cases h
def loc0 (n : Nat) : List Ax.Loc := (List.range (n + 1)).map fun i => ⟨i, 0, false⟩
theorem rng_at (n i : Nat) : (List.range n)[i]? = if i < n then some i else none := by
  by_cases h : i < n
  · rw [if_pos h, List.getElem?_range h]
  · rw [if_neg h, List.getElem?_eq_none (by simpa using h)]
theorem loc0_at {n i : Nat} {l : Ax.Loc} (h : (loc0 n)[i]? = some l) : l = ⟨i, 0, false⟩ := by
  simp only [loc0, List.getElem?_map, rng_at] at h
  by_cases hi : i < n + 1
  · rw [if_pos hi] at h; simp at h; exact h.symm
  · rw [if_neg hi] at h; simp at h
theorem loc0_some {n i : Nat} (h : i < n + 1) : (loc0 n)[i]? = some ⟨i, 0, false⟩ := by
  simp only [loc0, List.getElem?_map, rng_at, if_pos h]
  simp
def absV (n : Nat) : Value → AV
  | .bool b => .b b
  | .int k x => .i k x
  | .float k x => .f k x
  | .string s => .s s
  | .pointer none => .p0
  | .pointer (some ⟨b, o, none⟩) => if b < n then .p b o else .u
  | .slice none 0 0 => .s0
  | .slice (some a) l c => if l = 0 then .se else if a.spot = none ∧ a.block < n ∧ l ≤ c ∧ c ≤ maxLen then .sl a.block a.off l else .u
  | .map none => .m0
  | .nilIface => .n
  | .iface _ _ => .e
  | _ => .u
theorem absV_VR (ρ : Nat → Value) (n : Nat) (v : Value) : VR ρ (loc0 n) (absV n v) v := by
  unfold absV
  split
  · exact .b _
  · exact .i _ _
  · exact .f _ _
  · exact .s _
  · exact .p0
  · split
    · exact .p (l := ⟨_, 0, false⟩) (loc0_some (by omega))
    · exact .u _
  · exact .s0
  · split
    · rename_i h; subst h; exact .se _ _
    · split
      · rename_i a _ _ _ h
        obtain ⟨ab, ao, sp⟩ := a
        obtain ⟨h0, h1, h2, h3⟩ := h
        simp only at h0
        subst h0
        exact .sl (l := ⟨_, 0, false⟩) (loc0_some (show ab < n + 1 from Nat.lt_succ_of_lt h1)) h2 h3 (fun _ h => by cases h)
      · exact .u _
  · exact .m0
  · exact .n
  · exact .e _ _
  · exact .u _
def absB (n : Nat) : Obj → Blk
  | .cells cur ty _ => .cells ty .ro (cur.toList.map (absV n))
  | _ => .dead
def heapOf (W : World) : Heap := W.heap.toList.map (absB W.heap.size) ++ [.dead]
theorem heapOf_len (W : World) : (heapOf W).length = W.heap.size + 1 := by simp [heapOf]
theorem lt_heap {W : World} {i : Nat} {b : Obj} (h : W.heap[i]? = some b) : i < W.heap.size := (Array.getElem?_eq_some_iff.1 h).1
theorem heapOf_at {W : World} {i : Nat} {cur : Array Value} {ty : TypeId} {fz : Nat × Nat} (h : W.heap[i]? = some (.cells cur ty fz)) : (heapOf W)[i]? = some (.cells ty .ro (cur.toList.map (absV W.heap.size))) := by
  have hlt := lt_heap h
  unfold heapOf
  rw [List.getElem?_append_left (by simpa using hlt), List.getElem?_map]
  simp [h, absB]
theorem heapOf_of {W : World} {i : Nat} {ty : TypeId} {kn : Kn} {cs : List AV} (h : (heapOf W)[i]? = some (.cells ty kn cs)) : ∃ cur fz, W.heap[i]? = some (.cells cur ty fz) ∧ kn = .ro ∧ cs = cur.toList.map (absV W.heap.size) := by
  unfold heapOf at h
  rcases at_last h with ⟨hlt, h⟩ | ⟨_, e⟩
  · rw [List.getElem?_map] at h
    obtain ⟨o, ho, hb⟩ := Option.map_eq_some_iff.1 h
    unfold absB at hb
    split at hb
    · simp at hb
      obtain ⟨rfl, rfl, rfl⟩ := hb
      exact ⟨_, _, by simpa using ho, rfl, rfl⟩
    · cases hb
  · cases e
theorem heapOf_nomap {W : World} {i : Nat} {kd : IntKind} {es : List (Int × AV)} (h : (heapOf W)[i]? = some (.map kd es)) : False := by
  unfold heapOf at h
  rcases at_last h with ⟨hlt, h⟩ | ⟨_, e⟩
  · rw [List.getElem?_map] at h
    obtain ⟨o, ho, hb⟩ := Option.map_eq_some_iff.1 h
    unfold absB at hb
    split at hb <;> cases hb
  · cases e
theorem hrW (ρ : Nat → Value) (W : World) : HR P ρ W.heap.size (loc0 W.heap.size) (heapOf W) W where
  len := by simp [loc0, heapOf]
  base_le := Nat.le_refl _
  live := fun i ty kn cs l hi hl => by
    obtain rfl := loc0_at hl
    obtain ⟨cur, fz, hb, rfl, rfl⟩ := heapOf_of hi
    refine ⟨cur, fz, hb, (fun h => by cases h), (fun _ => ⟨lt_heap hb, by simp⟩), ⟨(fun h => by cases h), (fun h => by cases h)⟩, by simp, (fun h => by cases h), ⟨by simp, fun j x v hx hv => ?_⟩⟩
    rw [List.getElem?_map] at hx
    obtain ⟨y, hy, rfl⟩ := Option.map_eq_some_iff.1 hx
    have : y = v := by
      rw [List.getElem?_take] at hv
      split at hv
      · rw [hy] at hv; cases hv; rfl
      · cases hv
    subst this
    exact absV_VR ρ _ _
  same := fun i ty kn cs l hi _ hl => by rw [loc0_at hl]
  inj := fun i j ty kn cs ty' kn' cs' l l' hi ho => by
    obtain ⟨_, _, _, rfl, _⟩ := heapOf_of hi
    cases ho
  maps := fun i kd es l hi => (heapOf_nomap hi).elim
  injm := fun i j kd es kd' es' l l' hi => (heapOf_nomap hi).elim
theorem globsW {W : World}
    {tE : TypeId}
    {tB : TypeId} (hB : ∃ fz, W.heap[(0 : Nat)]? = some (.cells #[] tB fz))
    (hE : ∃ u v fz, W.heap[(1 : Nat)]? = some (.cells #[.iface u v] tE fz)) : Globs (heapOf W) W.heap.size where
  be := by
    obtain ⟨fz, hb⟩ := hB
    exact ⟨tB, heapOf_at hb⟩
  nbe := by
    obtain ⟨fz, hb⟩ := hB
    have := lt_heap hb
    omega
  err := by
    obtain ⟨u, v, fz, hb⟩ := hE
    exact ⟨tE, heapOf_at hb⟩
  nerr := by
    obtain ⟨u, v, fz, hb⟩ := hE
    have := lt_heap hb
    omega
  lt := by rw [heapOf_len]; omega
def Octets (W : World) (v : Value) (zs : List Int) : Prop :=
  (v = .slice none 0 0 ∧ zs = []) ∨ ∃ (a : Addr) (len cap : Nat), v = .slice (some a) len cap ∧ len ≤ cap ∧ cap ≤ maxLen ∧ zs.length = len ∧ (∀ i, i < zs.length → W.cell? (a.add i) = some (.int .u8 (zs.getD i 0))) ∧ (∀ n ∈ zs, (Lit.int .u8 n).wf = true)
theorem octetsW {W : World} {v : Value} {zs : List Int} (hv : Octets W v zs) : BytesAt (fun i => i < (heapOf W).length) (heapOf W) (absV W.heap.size v) (zs.map fun n => UInt8.ofNat n.toNat) := by
  rcases hv with ⟨rfl, rfl⟩ | ⟨⟨ab, ao, spot⟩, len, cap, rfl, hl, hm, hz, hcell, hwz⟩
  · exact .z
  · by_cases h0 : len = 0
    · subst h0
      obtain rfl : zs = [] := List.eq_nil_of_length_eq_zero hz
      simp only [absV, if_true, List.map_nil]
      exact .e
    · have c0 := hcell 0 (by omega)
      have hspot : spot = none := by simpa [Addr.add] using World.cell?_spot c0
      subst hspot
      have hcell' : ∀ i, i < len → W.cell? ⟨ab, ao + i, none⟩ = some (.int .u8 (zs.getD i 0)) := fun i hi => by
        have := hcell i (by omega)
        rw [Addr.add_lit] at this
        exact this
      obtain ⟨cur, ty, fz, hb⟩ : ∃ cur ty fz, W.heap[ab]? = some (.cells cur ty fz) := by
        have := hcell' 0 (by omega)
        unfold World.cell? at this
        split at this
        · rename_i hh; exact ⟨_, _, _, hh⟩
        · cases this
      have hcur : ∀ i, i < len → cur.toList[ao + i]? = some (.int .u8 (zs.getD i 0)) := fun i hi => by
        have := hcell' i hi
        simp only [World.cell?, hb] at this
        simpa using this
      have hrng : ∀ i, i < len → zs.getD i 0 = ((UInt8.ofNat (zs.getD i 0).toNat).toNat : Nat) := fun i hi => by
        have hb := range_u8 hwz i
        rw [List.getD_eq_getElem?_getD]
        simp only [UInt8.toNat_ofNat']
        omega
      have hlt := lt_heap hb
      simp only [absV, if_neg h0]
      rw [if_pos ⟨by first | trivial | rfl, hlt, hl, hm⟩]
      have key := @BytesAt.s (fun i => i < (heapOf W).length) (heapOf W) ab ao ty .ro (cur.toList.map (absV W.heap.size)) (zs.map fun n => UInt8.ofNat n.toNat) (by rw [heapOf_len]; omega) (heapOf_at hb) (by simp; omega) (by
        apply List.ext_getElem?
        intro i
        simp only [u8s, List.getElem?_map, List.getElem?_take, List.getElem?_drop, List.length_map]
        by_cases hi : i < zs.length
        · rw [if_pos hi]
          have h1 := hcur i (by omega)
          simp only [List.getElem?_map, h1, Option.map_some, absV]
          rw [hrng i (by omega)]
          have : zs[i]? = some (zs.getD i 0) := by simp [List.getD, hi]
          rw [this]
          rfl
        · rw [if_neg hi, List.getElem?_eq_none (by omega)]
          rfl)
      simpa [hz] using key
end Go.Proofs.YtiifcfngbbhgoagDoor.Rd

namespace Go.Proofs.YtiifcfngbbhgoagDoor.Rd
open Go Go.RowKit Go.ChangeShapes Go.WideShapes Go.Proofs.YtiifcfngbbhgoagDoor.Ax Go.Proofs.YtiifcfngbbhgoagDoor.Wire
set_option maxRecDepth 100000
theorem noc : noCount P = true := by kernel_rfl
theorem be_laid : ((begin P (fun _ _ => 0) default).world.heap[(0 : Nat)]?).bind Obj.row? = some (#[], 73) := by kernel_rfl
theorem be_at {W : World} (h : W.ShapedOpen P) : ∃ fz, W.heap[(0 : Nat)]? = some (.cells #[] 73 fz) := by
  obtain ⟨cs, hc, hs, _⟩ := h.1 0 #[] 73 (of_decide_eq_true (by kernel_rfl)) be_laid
  obtain rfl : cs = #[] := by simpa using hs
  exact ⟨_, hc⟩
theorem err_named : P.globalNamed "pub-kmsg/pub/kmsg/inner/kbin.ErrNotEnoughData" = some 1 := by kernel_rfl
theorem err_type : (P.globals[(1 : Nat)]?).map (·.type) = some 35 := by kernel_rfl
theorem err_at {W : World} {nm : String} {x : DataW Unit} {r : List (String × DataW Unit)} (h : laidMet P (("pub-kmsg/pub/kmsg/inner/kbin.ErrNotEnoughData", .iface nm x) :: r) W) :
    ∃ tE u v fz, W.heap[(1 : Nat)]? = some (.cells #[.iface u v] tE fz) := by
  obtain ⟨ps, ⟨g0, t0, cs0, f0, p0, q0, hg0, ht0, hv0, hd0, _, e0⟩, _, hrows⟩ := h
  obtain rfl := Option.some.inj (err_named.symm.trans hg0)
  obtain rfl := Option.some.inj (err_type.symm.trans ht0)
  obtain ⟨u, v, e⟩ := trod_iface Tryd.underlying35 hd0
  obtain ⟨l0⟩ := cs0
  simp only at e
  subst e
  obtain ⟨ty, fz, hb⟩ := blk_of_var err_named hv0
  exact ⟨ty, u, v, fz, hb⟩
theorem law_world {law : FuncId} {S : CallA} (hS : ∀ base, CallSound P (fun _ => .bool true) base S) {aA : List AV} {aV : List Value} {W : World} (hav : VRs (fun _ => .bool true) (loc0 W.heap.size) aA aV)
    (hCA : ∀ {rb0 : Nat}, Globs (heapOf W) rb0 → ∃ H', CA P S law aA (heapOf W) (.b true, H'))
    (hsh : W.ShapedOpen P) {nm : String} {x : DataW Unit} {r : List (String × DataW Unit)} (hL : laidMet P (("pub-kmsg/pub/kmsg/inner/kbin.ErrNotEnoughData", .iface nm x) :: r) W) (hlb : ((P.funcs[law]?).bind (·.body)).isSome = true := by kernel_rfl) :
    Calls P law aV.toArray W fun e w' => e = .returned (.bool true) ∧ Below W.heap.size W w' := by
  obtain ⟨tE, hE⟩ := err_at hL
  obtain ⟨H', n, hn⟩ := hCA (globsW
    (be_at hsh)
    hE)
  have hr := hn n (Nat.le_refl _)
  have hbd : Bodied P law := by
    cases hf : P.funcs[law]? with
    | none => rw [hf] at hlb; cases hlb
    | some fn => rw [hf] at hlb; exact ⟨fn, hf, hlb⟩
  have hc := run_sound (fun _ => rfl) (noCount_iff noc) (hS W.heap.size) (drawA_sound (fun _ => rfl) (noCount_iff noc)) n
  refine (hc.at_ hbd hr (hrW _ W) hav).mono fun e w' hm => ?_
  obtain ⟨v', μ', rfl, _, hv', _, hbel⟩ := hm
  cases hv'
  exact ⟨rfl, hbel⟩
theorem octets_open {H : Type} {enc : TypeId × Value → H} {W : World} {base : Nat} {v1 : Value} {d1 : DataW H} {p1 : List MemPlace} (hval : Value.okWide P W .any base 22 v1) (h1 : DataW.Trod enc P W 0 (fun _ => true) true 22 v1 d1 p1) :
    ∃ zs, Octets W v1 zs := by
  obtain ⟨a1, len, cap, rfl⟩ := okWide_slice Tryd.underlying22 hval
  obtain ⟨fuel, hf⟩ := h1
  rcases open_ints Tryd.underlying22 Tryd.underlying5 (show P.cellsOf 5 = 1 by kernel_rfl) hf with ⟨hcs, hx⟩ | ⟨a, len', cap', zs, hcs, _, hl, hm, hz, hx, hcell, hwz⟩
  · simp [Value.cells] at hcs
    obtain ⟨rfl, rfl, rfl⟩ := hcs
    exact ⟨[], .inl ⟨rfl, rfl⟩⟩
  · simp [Value.cells] at hcs
    obtain ⟨rfl, rfl, rfl⟩ := hcs
    simp only [if_true] at hz
    refine ⟨zs.take len, .inr ⟨a, len, cap, rfl, hl, hm, by simp; omega, fun i hi => ?_, fun n hn => hwz n (List.mem_of_mem_take hn)⟩⟩
    have hi' : i < len := by simp at hi; omega
    have := hcell i (by omega)
    rw [this]
    simp [List.getD_eq_getElem?_getD, List.getElem?_take, hi']
theorem octets_stay {H : Type} {enc : TypeId × Value → H} {W W' : World} {v1 : Value} {d1 : DataW H} {p1 : List MemPlace} (h1 : DataW.Trod enc P W 0 (fun _ => true) true 22 v1 d1 p1) (hb : Below W.heap.size W W') (hlt : ∀ p ∈ p1, p.block < W.heap.size) {sp : Nat → Bool} (hs : ∀ p ∈ p1, sp p.block = true) :
    DataW.Trod enc P W' 0 sp true 22 v1 d1 p1 :=
  WideElems.Trod_stays (P := P) (show laidOutB P = true by kernel_rfl) (by kernel_rfl) (of_decide_eq_true (by kernel_rfl)) h1 (fun p hp => hb.same (hlt p hp)) hs
end Go.Proofs.YtiifcfngbbhgoagDoor.Rd

namespace Go.Proofs.YtiifcfngbbhgoagDoor.Rd
open Go
theorem seat_laid : laidOutB Tryd.prog = true := by kernel_rfl
theorem seat_maps : mapsRowed Tryd.prog = true := by kernel_rfl
theorem seat_enter : Tryd.prog.mayEnter = true := by kernel_rfl
theorem seat_heard : Tryd.prog.stopsHeard = true := by kernel_rfl
theorem seat_lifts : Tryd.prog.liftsFinal = false := by kernel_rfl
end Go.Proofs.YtiifcfngbbhgoagDoor.Rd

