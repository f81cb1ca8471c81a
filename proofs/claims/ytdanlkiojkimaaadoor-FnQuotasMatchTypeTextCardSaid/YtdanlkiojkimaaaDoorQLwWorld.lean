/-
  FROM THE ABSTRACT MACHINE TO THE WORLD: a law of a number and of octets whose run the machine answers with true.
-/
import Derived.Test.YtdanlkiojkimaaaDoorQRdStr
import Derived.ProofKit
import Derived.OpenShut
import Derived.ChangeSlices
import Derived.Stop.LaidErr
import Derived.Deep.DeepHandedRow
import Derived.Test.YtdanlkiojkimaaaDoorProg
import Derived.Shelf.GgSortFunc.Whole
import Derived.Shelf.GgSortFunc.Tiny
import Derived.Test.YtdanlkiojkimaaaDoorQAxDraw2
import Derived.Deep.QuietTactic
import Derived.Lib.RowBridge
import Derived.Lib.SortBridge
import Derived.Sort.LotA
import Derived.WalkKit
set_option linter.constructorNameAsVariable false
set_option linter.unusedVariables false
set_option linter.unusedSimpArgs false
namespace Go.Proofs.YtdanlkiojkimaaaDoor.Rd
open Go Go.RowKit Go.ChangeShapes Go.WideShapes Go.Proofs.YtdanlkiojkimaaaDoor.Ax Go.Proofs.YtdanlkiojkimaaaDoor.Wire
set_option maxRecDepth 100000
theorem trod_iface {H : Type} {enc : TypeId × Value → H} {P : Program} {w : World} {base fuel : Nat} {sp : Nat → Bool} {t : TypeId} {ms : Array (String × TypeId)} {cs : List Value} {n : String} {x : DataW H} {p : List MemPlace} (hi : P.underlying t = some (.interface ms))
    (h : DataW.trod enc P w base sp false fuel t cs = some (.iface n x, p)) : ∃ u v, cs = [.iface u v] := by
  cases fuel with
  | zero => simp [DataW.trod] at h
  | succ fuel =>
    rcases cs with _ | ⟨c, _ | ⟨c', cs⟩⟩
    · simp [DataW.trod, hi] at h
    · cases c <;> first | exact ⟨_, _, rfl⟩ | (simp [DataW.trod, hi] at h)
    · simp [DataW.trod, hi] at h
theorem blk_of_var {P : Program} {W : World} {n : String} {g : Nat} {cs : Array Value} (hg : P.globalNamed n = some g) (h : W.var? P n = some cs) : ∃ ty fz, W.heap[g]? = some (.cells cs ty fz) := by
  unfold World.var? at h
  simp only [hg, Option.bind_some] at h
  split at h
  · rename_i c t f hh
    simp at h
    subst h
    exact ⟨_, _, hh⟩
  · cases h
def loc0 (n : Nat) : List Ax.Loc := (List.range (n + 1)).map fun i => ⟨i, 0, false⟩
theorem rng_at (n i : Nat) : (List.range n)[i]? = if i < n then some i else none := by
  by_cases h : i < n
  · rw [if_pos h, List.getElem?_range h]
  · rw [if_neg h, List.getElem?_eq_none (by simpa using h)]
theorem loc0_at {n i : Nat} {l : Ax.Loc} (h : (loc0 n)[i]? = some l) : l = ⟨i, 0, false⟩ := by
  simp only [loc0, List.getElem?_map, rng_at] at h
  by_cases hi : i < n + 1
  · rw [if_pos hi] at h; simp at h; exact h.symm
  · rw [if_neg hi] at h; simp at h
theorem loc0_some {n i : Nat} (h : i < n + 1) : (loc0 n)[i]? = some ⟨i, 0, false⟩ := by
  simp only [loc0, List.getElem?_map, rng_at, if_pos h]
  simp
def absV (n : Nat) : Value → AV
  | .bool b => .b b
  | .int k x => .i k x
  | .float k x => .f k x
  | .string s => .s s
  | .pointer none => .p0
  | .pointer (some ⟨b, o, none⟩) => if b < n then .p b o else .u
  | .slice none 0 0 => .s0
  | .slice (some a) l c => if l = 0 then .se else if a.spot = none ∧ a.block < n ∧ l ≤ c ∧ c ≤ maxLen then .sl a.block a.off l else .u
  | .map none => .m0
  | .nilIface => .n
  | .iface _ _ => .e
  | _ => .u
theorem absV_VR (ρ : Nat → Value) (n : Nat) (v : Value) : VR ρ (loc0 n) (absV n v) v := by
  unfold absV
  split
  · exact .b _
  · exact .i _ _
  · exact .f _ _
  · exact .s _
  · exact .p0
  · split
    · exact .p (l := ⟨_, 0, false⟩) (loc0_some (by omega))
    · exact .u _
  · exact .s0
  · split
    · rename_i h; subst h; exact .se _ _
    · split
      · rename_i a _ _ _ h
        obtain ⟨ab, ao, sp⟩ := a
        obtain ⟨h0, h1, h2, h3⟩ := h
        simp only at h0
        subst h0
        exact .sl (l := ⟨_, 0, false⟩) (loc0_some (show ab < n + 1 from Nat.lt_succ_of_lt h1)) h2 h3 (fun _ h => by cases h)
      · exact .u _
  · exact .m0
  · exact .n
  · exact .e _ _
  · exact .u _
def absB (n : Nat) : Obj → Blk
  | .cells cur ty _ => .cells ty .ro (cur.toList.map (absV n))
  | _ => .dead
def heapOf (W : World) : Heap := W.heap.toList.map (absB W.heap.size) ++ [.dead]
theorem heapOf_len (W : World) : (heapOf W).length = W.heap.size + 1 := by simp [heapOf]
theorem lt_heap {W : World} {i : Nat} {b : Obj} (h : W.heap[i]? = some b) : i < W.heap.size := (Array.getElem?_eq_some_iff.1 h).1
theorem heapOf_at {W : World} {i : Nat} {cur : Array Value} {ty : TypeId} {fz : Nat × Nat} (h : W.heap[i]? = some (.cells cur ty fz)) : (heapOf W)[i]? = some (.cells ty .ro (cur.toList.map (absV W.heap.size))) := by
  have hlt := lt_heap h
  unfold heapOf
  rw [List.getElem?_append_left (by simpa using hlt), List.getElem?_map]
  simp [h, absB]
theorem heapOf_of {W : World} {i : Nat} {ty : TypeId} {kn : Kn} {cs : List AV} (h : (heapOf W)[i]? = some (.cells ty kn cs)) : ∃ cur fz, W.heap[i]? = some (.cells cur ty fz) ∧ kn = .ro ∧ cs = cur.toList.map (absV W.heap.size) := by
  unfold heapOf at h
  rcases at_last h with ⟨hlt, h⟩ | ⟨_, e⟩
  · rw [List.getElem?_map] at h
    obtain ⟨o, ho, hb⟩ := Option.map_eq_some_iff.1 h
    unfold absB at hb
    split at hb
    · simp at hb
      obtain ⟨rfl, rfl, rfl⟩ := hb
      exact ⟨_, _, by simpa using ho, rfl, rfl⟩
    · cases hb
  · cases e
theorem heapOf_nomap {W : World} {i : Nat} {kd : IntKind} {es : List (Int × AV)} (h : (heapOf W)[i]? = some (.map kd es)) : False := by
  unfold heapOf at h
  rcases at_last h with ⟨hlt, h⟩ | ⟨_, e⟩
  · rw [List.getElem?_map] at h
    obtain ⟨o, ho, hb⟩ := Option.map_eq_some_iff.1 h
    unfold absB at hb
    split at hb <;> cases hb
  · cases e
theorem hrW (ρ : Nat → Value) (W : World) : HR P ρ W.heap.size (loc0 W.heap.size) (heapOf W) W where
  len := by simp [loc0, heapOf]
  base_le := Nat.le_refl _
  live := fun i ty kn cs l hi hl => by
    obtain rfl := loc0_at hl
    obtain ⟨cur, fz, hb, rfl, rfl⟩ := heapOf_of hi
    refine ⟨cur, fz, hb, (fun h => by cases h), (fun _ => ⟨lt_heap hb, by simp⟩), ⟨(fun h => by cases h), (fun h => by cases h)⟩, by simp, (fun h => by cases h), ⟨by simp, fun j x v hx hv => ?_⟩⟩
    rw [List.getElem?_map] at hx
    obtain ⟨y, hy, rfl⟩ := Option.map_eq_some_iff.1 hx
    have : y = v := by
      rw [List.getElem?_take] at hv
      split at hv
      · rw [hy] at hv; cases hv; rfl
      · cases hv
    subst this
    exact absV_VR ρ _ _
  same := fun i ty kn cs l hi _ hl => by rw [loc0_at hl]
  inj := fun i j ty kn cs ty' kn' cs' l l' hi ho => by
    obtain ⟨_, _, _, rfl, _⟩ := heapOf_of hi
    cases ho
  maps := fun i kd es l hi => (heapOf_nomap hi).elim
  injm := fun i j kd es kd' es' l l' hi => (heapOf_nomap hi).elim
theorem globsW {W : World} {tE : TypeId}
    {tB : TypeId} (hB : ∃ fz, W.heap[(0 : Nat)]? = some (.cells #[] tB fz))
    (hE : ∃ u v fz, W.heap[(1 : Nat)]? = some (.cells #[.iface u v] tE fz)) : Globs (heapOf W) W.heap.size where
  be := by
    obtain ⟨fz, hb⟩ := hB
    exact ⟨tB, heapOf_at hb⟩
  nbe := by
    obtain ⟨fz, hb⟩ := hB
    have := lt_heap hb
    omega
  err := by
    obtain ⟨u, v, fz, hb⟩ := hE
    exact ⟨tE, heapOf_at hb⟩
  nerr := by
    obtain ⟨u, v, fz, hb⟩ := hE
    have := lt_heap hb
    omega
  lt := by rw [heapOf_len]; omega
def Octets (W : World) (v : Value) (zs : List Int) : Prop :=
  (v = .slice none 0 0 ∧ zs = []) ∨ ∃ (a : Addr) (len cap : Nat), v = .slice (some a) len cap ∧ len ≤ cap ∧ cap ≤ maxLen ∧ zs.length = len ∧ (∀ i, i < zs.length → W.cell? (a.add i) = some (.int .u8 (zs.getD i 0))) ∧ (∀ n ∈ zs, (Lit.int .u8 n).wf = true)
theorem octetsW {W : World} {v : Value} {zs : List Int} (hv : Octets W v zs) : BytesAt (fun i => i < (heapOf W).length) (heapOf W) (absV W.heap.size v) (zs.map fun n => UInt8.ofNat n.toNat) := by
  rcases hv with ⟨rfl, rfl⟩ | ⟨⟨ab, ao, spot⟩, len, cap, rfl, hl, hm, hz, hcell, hwz⟩
  · exact .z
  · by_cases h0 : len = 0
    · subst h0
      obtain rfl : zs = [] := List.eq_nil_of_length_eq_zero hz
      simp only [absV, if_true, List.map_nil]
      exact .e
    · have c0 := hcell 0 (by omega)
      have hspot : spot = none := by simpa [Addr.add] using World.cell?_spot c0
      subst hspot
      have hcell' : ∀ i, i < len → W.cell? ⟨ab, ao + i, none⟩ = some (.int .u8 (zs.getD i 0)) := fun i hi => by
        have := hcell i (by omega)
        rw [Addr.add_lit] at this
        exact this
      obtain ⟨cur, ty, fz, hb⟩ : ∃ cur ty fz, W.heap[ab]? = some (.cells cur ty fz) := by
        have := hcell' 0 (by omega)
        unfold World.cell? at this
        split at this
        · rename_i hh; exact ⟨_, _, _, hh⟩
        · cases this
      have hcur : ∀ i, i < len → cur.toList[ao + i]? = some (.int .u8 (zs.getD i 0)) := fun i hi => by
        have := hcell' i hi
        simp only [World.cell?, hb] at this
        simpa using this
      have hrng : ∀ i, i < len → zs.getD i 0 = ((UInt8.ofNat (zs.getD i 0).toNat).toNat : Nat) := fun i hi => by
        have hb := range_u8 hwz i
        rw [List.getD_eq_getElem?_getD]
        simp only [UInt8.toNat_ofNat']
        omega
      have hlt := lt_heap hb
      simp only [absV, if_neg h0]
      rw [if_pos ⟨by first | trivial | rfl, hlt, hl, hm⟩]
      have key := @BytesAt.s (fun i => i < (heapOf W).length) (heapOf W) ab ao ty .ro (cur.toList.map (absV W.heap.size)) (zs.map fun n => UInt8.ofNat n.toNat) (by rw [heapOf_len]; omega) (heapOf_at hb) (by simp; omega) (by
        apply List.ext_getElem?
        intro i
        simp only [u8s, List.getElem?_map, List.getElem?_take, List.getElem?_drop, List.length_map]
        by_cases hi : i < zs.length
        · rw [if_pos hi]
          have h1 := hcur i (by omega)
          simp only [List.getElem?_map, h1, Option.map_some, absV]
          rw [hrng i (by omega)]
          have : zs[i]? = some (zs.getD i 0) := by simp [List.getD, hi]
          rw [this]
          rfl
        · rw [if_neg hi, List.getElem?_eq_none (by omega)]
          rfl)
      simpa [hz] using key
end Go.Proofs.YtdanlkiojkimaaaDoor.Rd

namespace Go.Proofs.YtdanlkiojkimaaaDoor.Rd
open Go Go.RowKit Go.ChangeShapes Go.WideShapes Go.Proofs.YtdanlkiojkimaaaDoor.Ax Go.Proofs.YtdanlkiojkimaaaDoor.Wire
set_option maxRecDepth 100000
theorem noc : noCount P = true := by kernel_rfl
theorem be_laid : ((begin P (fun _ _ => 0) default).world.heap[(0 : Nat)]?).bind Obj.row? = some (#[], 225) := by kernel_rfl
theorem be_at {W : World} (h : W.ShapedOpen P) : ∃ fz, W.heap[(0 : Nat)]? = some (.cells #[] 225 fz) := by
  obtain ⟨cs, hc, hs, _⟩ := h.1 0 #[] 225 (of_decide_eq_true (by kernel_rfl)) be_laid
  obtain rfl : cs = #[] := by simpa using hs
  exact ⟨_, hc⟩
theorem err_named : P.globalNamed "pub-kmsg/pub/kmsg/inner/kbin.ErrNotEnoughData" = some 1 := by kernel_rfl
theorem err_type : (P.globals[(1 : Nat)]?).map (·.type) = some 73 := by kernel_rfl
theorem err_at {W : World} {nm : String} {x : DataW Unit} {r : List (String × DataW Unit)} (h : laidMet P (("pub-kmsg/pub/kmsg/inner/kbin.ErrNotEnoughData", .iface nm x) :: r) W) :
    ∃ tE u v fz, W.heap[(1 : Nat)]? = some (.cells #[.iface u v] tE fz) := by
  obtain ⟨ps, ⟨g0, t0, cs0, f0, p0, q0, hg0, ht0, hv0, hd0, _, e0⟩, _, hrows⟩ := h
  obtain rfl := Option.some.inj (err_named.symm.trans hg0)
  obtain rfl := Option.some.inj (err_type.symm.trans ht0)
  obtain ⟨u, v, e⟩ := trod_iface Tryd.underlying73 hd0
  obtain ⟨l0⟩ := cs0
  simp only at e
  subst e
  obtain ⟨ty, fz, hb⟩ := blk_of_var err_named hv0
  exact ⟨ty, u, v, fz, hb⟩
theorem law_world {law : FuncId} {S : CallA} (hS : ∀ base, CallSound P (fun _ => .bool true) base S) {aA : List AV} {aV : List Value} {W : World} (hav : VRs (fun _ => .bool true) (loc0 W.heap.size) aA aV)
    (hCA : ∀ {rb0 : Nat}, Globs (heapOf W) rb0 → ∃ H', CA P S law aA (heapOf W) (.b true, H'))
    (hsh : W.ShapedOpen P) {nm : String} {x : DataW Unit} {r : List (String × DataW Unit)} (hL : laidMet P (("pub-kmsg/pub/kmsg/inner/kbin.ErrNotEnoughData", .iface nm x) :: r) W) (hlb : ((P.funcs[law]?).bind (·.body)).isSome = true := by kernel_rfl) :
    Calls P law aV.toArray W fun e w' => e = .returned (.bool true) ∧ Below W.heap.size W w' := by
  obtain ⟨tE, hE⟩ := err_at hL
  obtain ⟨H', n, hn⟩ := hCA (globsW
    (be_at hsh)
    hE)
  have hr := hn n (Nat.le_refl _)
  have hbd : Bodied P law := by
    cases hf : P.funcs[law]? with
    | none => rw [hf] at hlb; cases hlb
    | some fn => rw [hf] at hlb; exact ⟨fn, hf, hlb⟩
  have hc := run_sound (fun _ => rfl) (noCount_iff noc) (hS W.heap.size) (drawA_sound (fun _ => rfl) (noCount_iff noc)) n
  refine (hc.at_ hbd hr (hrW _ W) hav).mono fun e w' hm => ?_
  obtain ⟨v', μ', rfl, _, hv', _, hbel⟩ := hm
  cases hv'
  exact ⟨rfl, hbel⟩
theorem octets_open {H : Type} {enc : TypeId × Value → H} {W : World} {base : Nat} {v1 : Value} {d1 : DataW H} {p1 : List MemPlace} (hval : Value.okWide P W .any base 22 v1) (h1 : DataW.Trod enc P W 0 (fun _ => true) true 22 v1 d1 p1) :
    ∃ zs, Octets W v1 zs := by
  obtain ⟨a1, len, cap, rfl⟩ := okWide_slice Tryd.underlying22 hval
  obtain ⟨fuel, hf⟩ := h1
  rcases open_ints Tryd.underlying22 Tryd.underlying5 (show P.cellsOf 5 = 1 by kernel_rfl) hf with ⟨hcs, hx⟩ | ⟨a, len', cap', zs, hcs, _, hl, hm, hz, hx, hcell, hwz⟩
  · simp [Value.cells] at hcs
    obtain ⟨rfl, rfl, rfl⟩ := hcs
    exact ⟨[], .inl ⟨rfl, rfl⟩⟩
  · simp [Value.cells] at hcs
    obtain ⟨rfl, rfl, rfl⟩ := hcs
    simp only [if_true] at hz
    refine ⟨zs.take len, .inr ⟨a, len, cap, rfl, hl, hm, by simp; omega, fun i hi => ?_, fun n hn => hwz n (List.mem_of_mem_take hn)⟩⟩
    have hi' : i < len := by simp at hi; omega
    have := hcell i (by omega)
    rw [this]
    simp [List.getD_eq_getElem?_getD, List.getElem?_take, hi']
theorem octets_stay {H : Type} {enc : TypeId × Value → H} {W W' : World} {v1 : Value} {d1 : DataW H} {p1 : List MemPlace} (h1 : DataW.Trod enc P W 0 (fun _ => true) true 22 v1 d1 p1) (hb : Below W.heap.size W W') (hlt : ∀ p ∈ p1, p.block < W.heap.size) {sp : Nat → Bool} (hs : ∀ p ∈ p1, sp p.block = true) :
    DataW.Trod enc P W' 0 sp true 22 v1 d1 p1 :=
  WideElems.Trod_stays (P := P) (show laidOutB P = true by kernel_rfl) (by kernel_rfl) (of_decide_eq_true (by kernel_rfl)) h1 (fun p hp => hb.same (hlt p hp)) hs
end Go.Proofs.YtdanlkiojkimaaaDoor.Rd

namespace Go.Proofs.YtdanlkiojkimaaaDoor.Rd
open Go Go.Shelf
def sa6_ren : Go.Shelf.Ren := ⟨fun | 6 => 174 | 10 => 198 | 11 => 199 | 12 => 200 | 13 => 201 | 14 => 202 | 24 => 173 | 25 => 223 | 26 => 224 | 27 => 225 | 28 => 226 | 29 => 227 | 30 => 228 | 31 => 229 | 32 => 230 | 33 => 231 | 34 => 237 | 35 => 238 | 36 => 239 | 37 => 240 | 38 => 241 | 39 => 242 | n => n, fun | 20 => 20 | 26 => 251 | 35 => 268 | 0 => 0 | 37 => 270 | 3 => 3 | 41 => 128 | 44 => 275 | 49 => 110 | 51 => 179 | 4 => 4 | 54 => 299 | 53 => 298 | 58 => 50 | 5 => 5 | 9 => 9 | 60 => 314 | 64 => 317 | 66 => 323 | 67 => 324 | 17 => 17 | 32 => 265 | 33 => 266 | 82 => 337 | 12 => 12 | 75 => 331 | 76 => 332 | 77 => 333 | 78 => 259 | 79 => 334 | 80 => 335 | n => n, fun | n => n⟩
theorem sa6 : Go.Proofs.LaysGg.n6 Tryd.prog sa6_ren := {
  mixed := by kernel_rfl,
  f6 := Tryd.func174.trans (congrArg some (by kernel_rfl)),
  f10 := Tryd.func198.trans (congrArg some (by kernel_rfl)),
  f11 := Tryd.func199.trans (congrArg some (by kernel_rfl)),
  f12 := Tryd.func200.trans (congrArg some (by kernel_rfl)),
  f13 := Tryd.func201.trans (congrArg some (by kernel_rfl)),
  f14 := Tryd.func202.trans (congrArg some (by kernel_rfl)),
  f24 := Tryd.func173.trans (congrArg some (by kernel_rfl)),
  f25 := Tryd.func223.trans (congrArg some (by kernel_rfl)),
  f26 := Tryd.func224.trans (congrArg some (by kernel_rfl)),
  f27 := Tryd.func225.trans (congrArg some (by kernel_rfl)),
  f28 := Tryd.func226.trans (congrArg some (by kernel_rfl)),
  f29 := Tryd.func227.trans (congrArg some (by kernel_rfl)),
  f30 := Tryd.func228.trans (congrArg some (by kernel_rfl)),
  f31 := Tryd.func229.trans (congrArg some (by kernel_rfl)),
  f32 := Tryd.func230.trans (congrArg some (by kernel_rfl)),
  f33 := Tryd.func231.trans (congrArg some (by kernel_rfl)),
  f34 := Tryd.func237.trans (congrArg some (by kernel_rfl)),
  f35 := Tryd.func238.trans (congrArg some (by kernel_rfl)),
  f36 := Tryd.func239.trans (congrArg some (by kernel_rfl)),
  f37 := Tryd.func240.trans (congrArg some (by kernel_rfl)),
  f38 := Tryd.func241.trans (congrArg some (by kernel_rfl)),
  f39 := Tryd.func242.trans (congrArg some (by kernel_rfl)),
  t0 := Tryd.underlying0,
  a0 := Tryd.isAgg0,
  z0 := Tryd.sizeOf0,
  v0 := Tryd.zeroValue0,
  i0 := by kernel_rfl,
  t3 := Tryd.underlying3,
  a3 := Tryd.isAgg3,
  z3 := Tryd.sizeOf3,
  v3 := Tryd.zeroValue3,
  i3 := by kernel_rfl,
  t4 := Tryd.underlying4,
  a4 := Tryd.isAgg4,
  z4 := Tryd.sizeOf4,
  v4 := Tryd.zeroValue4,
  i4 := by kernel_rfl,
  t5 := Tryd.underlying5,
  a5 := Tryd.isAgg5,
  z5 := Tryd.sizeOf5,
  v5 := Tryd.zeroValue5,
  i5 := by kernel_rfl,
  t9 := Tryd.underlying9,
  a9 := Tryd.isAgg9,
  z9 := Tryd.sizeOf9,
  v9 := Tryd.zeroValue9,
  i9 := by kernel_rfl,
  t12 := Tryd.underlying12,
  a12 := Tryd.isAgg12,
  z12 := Tryd.sizeOf12,
  v12 := Tryd.zeroValue12,
  i12 := by kernel_rfl,
  t17 := Tryd.underlying17,
  a17 := Tryd.isAgg17,
  z17 := Tryd.sizeOf17,
  v17 := Tryd.zeroValue17,
  i17 := by kernel_rfl,
  t20 := Tryd.underlying20,
  a20 := Tryd.isAgg20,
  z20 := Tryd.sizeOf20,
  v20 := Tryd.zeroValue20,
  i20 := by kernel_rfl,
  t26 := Tryd.underlying251,
  a26 := Tryd.isAgg251,
  z26 := Tryd.sizeOf251,
  v26 := Tryd.zeroValue251,
  i26 := by kernel_rfl,
  t32 := Tryd.underlying265,
  a32 := Tryd.isAgg265,
  z32 := Tryd.sizeOf265,
  v32 := Tryd.zeroValue265,
  i32 := by kernel_rfl,
  t33 := Tryd.underlying266,
  a33 := Tryd.isAgg266,
  z33 := Tryd.sizeOf266,
  v33 := Tryd.zeroValue266,
  i33 := by kernel_rfl,
  t35 := Tryd.underlying268,
  a35 := Tryd.isAgg268,
  z35 := Tryd.sizeOf268,
  v35 := Tryd.zeroValue268,
  i35 := by kernel_rfl,
  t37 := Tryd.underlying270,
  a37 := Tryd.isAgg270,
  z37 := Tryd.sizeOf270,
  v37 := Tryd.zeroValue270,
  i37 := by kernel_rfl,
  t41 := Tryd.underlying128,
  a41 := Tryd.isAgg128,
  z41 := Tryd.sizeOf128,
  v41 := Tryd.zeroValue128,
  i41 := by kernel_rfl,
  t44 := Tryd.underlying275,
  a44 := Tryd.isAgg275,
  z44 := Tryd.sizeOf275,
  v44 := Tryd.zeroValue275,
  i44 := by kernel_rfl,
  t49 := Tryd.underlying110,
  a49 := Tryd.isAgg110,
  z49 := Tryd.sizeOf110,
  v49 := Tryd.zeroValue110,
  i49 := by kernel_rfl,
  t51 := Tryd.underlying179,
  a51 := Tryd.isAgg179,
  z51 := Tryd.sizeOf179,
  v51 := Tryd.zeroValue179,
  i51 := by kernel_rfl,
  t53 := Tryd.underlying298,
  a53 := Tryd.isAgg298,
  z53 := Tryd.sizeOf298,
  v53 := Tryd.zeroValue298,
  i53 := by kernel_rfl,
  t54 := Tryd.underlying299,
  a54 := Tryd.isAgg299,
  z54 := Tryd.sizeOf299,
  v54 := Tryd.zeroValue299,
  i54 := by kernel_rfl,
  t58 := Tryd.underlying50,
  a58 := Tryd.isAgg50,
  z58 := Tryd.sizeOf50,
  v58 := Tryd.zeroValue50,
  i58 := by kernel_rfl,
  t60 := Tryd.underlying314,
  a60 := Tryd.isAgg314,
  z60 := Tryd.sizeOf314,
  v60 := Tryd.zeroValue314,
  i60 := by kernel_rfl,
  t64 := Tryd.underlying317,
  a64 := Tryd.isAgg317,
  z64 := Tryd.sizeOf317,
  v64 := Tryd.zeroValue317,
  i64 := by kernel_rfl,
  t66 := Tryd.underlying323,
  a66 := Tryd.isAgg323,
  z66 := Tryd.sizeOf323,
  v66 := Tryd.zeroValue323,
  i66 := by kernel_rfl,
  t67 := Tryd.underlying324,
  a67 := Tryd.isAgg324,
  z67 := Tryd.sizeOf324,
  v67 := Tryd.zeroValue324,
  i67 := by kernel_rfl,
  t75 := Tryd.underlying331,
  a75 := Tryd.isAgg331,
  z75 := Tryd.sizeOf331,
  v75 := Tryd.zeroValue331,
  i75 := by kernel_rfl,
  t76 := Tryd.underlying332,
  a76 := Tryd.isAgg332,
  z76 := Tryd.sizeOf332,
  v76 := Tryd.zeroValue332,
  i76 := by kernel_rfl,
  t77 := Tryd.underlying333,
  a77 := Tryd.isAgg333,
  z77 := Tryd.sizeOf333,
  v77 := Tryd.zeroValue333,
  i77 := by kernel_rfl,
  t78 := Tryd.underlying259,
  a78 := Tryd.isAgg259,
  z78 := Tryd.sizeOf259,
  v78 := Tryd.zeroValue259,
  i78 := by kernel_rfl,
  t79 := Tryd.underlying334,
  a79 := Tryd.isAgg334,
  z79 := Tryd.sizeOf334,
  v79 := Tryd.zeroValue334,
  i79 := by kernel_rfl,
  t80 := Tryd.underlying335,
  a80 := Tryd.isAgg335,
  z80 := Tryd.sizeOf335,
  v80 := Tryd.zeroValue335,
  i80 := by kernel_rfl,
  t82 := Tryd.underlying337,
  a82 := Tryd.isAgg337,
  z82 := Tryd.sizeOf337,
  v82 := Tryd.zeroValue337,
  i82 := by kernel_rfl }
end Go.Proofs.YtdanlkiojkimaaaDoor.Rd

namespace Go.Proofs.YtdanlkiojkimaaaDoor.Rd
open Go Go.Shelf Go.RowKit Go.Lib Go.Sort
noncomputable def siT : TypeInfo := (Tryd.prog.info? 249).get (by kernel_rfl)
noncomputable def siE : TypeInfo := (Tryd.prog.info? 110).get (by kernel_rfl)
theorem siK (n : Nat) (h2 : 2 ≤ n) : Lib.swapperK n siE 10 = 6 := by
  have a : siE.hasPointers = false := by kernel_rfl
  have b : siE.bytes = 4 := by kernel_rfl
  have c : (n == 0) = false := by simp; omega
  have d : (n == 1) = false := by simp; omega
  simp [Lib.swapperK, a, b, c, d]
set_option maxHeartbeats 2000000 in
theorem less_keys (blk off c Bs size : Nat) (W : World) (G : Nat → Int) (hs : W.cell? ⟨Bs, 0, none⟩ = some (.slice (some ⟨blk, off, none⟩) size c))
    (hc : ∀ t, t < size → W.cell? ⟨blk, off + t, none⟩ = some (.int .u32 (G t))) (i j : Nat) (hi : i < size) (hj : j < size) :
    Calls Tryd.prog 175 #[.int .i64 i, .int .i64 j, .pointer (some ⟨Bs, 0, none⟩)] W fun e w' => e = .returned (.bool (decide (G i < G j))) ∧ ∃ q, w' = W.drewN q := by
  have ci := hc i hi
  have cj := hc j hj
  go_enter Tryd.func175, Tryd.ntmps175
  go_wp2
  go_quiet (fail)
  go_wp2
  go_ret
  exact ⟨rfl, nq, rfl⟩
theorem sorted_le {d d' : Array Int} (hp : PermIn 0 d.size d d') (hs : SortedIn ltInt 0 d.size d') : d'.size = d.size ∧ d'.toList.Perm d.toList ∧ d'.toList.Pairwise (· ≤ ·) := by
  have h := sorted_unique_holds (lt := ltInt) swo_ltInt (fun x y h1 h2 => by simp only [ltInt, decide_eq_false_iff_not] at h1 h2; omega) d d' hp hs
  have e : (fun x y : Int => !ltInt y x) = fun x y => decide (x ≤ y) := by
    funext x y
    simp only [ltInt]
    by_cases h : x ≤ y
    · first | (simp [h]; done) | (simp [h]; omega)
    · first | (simp [h]; done) | (simp [h]; omega)
  rw [e] at h
  have q := List.pairwise_mergeSort (le := fun x y : Int => decide (x ≤ y)) (fun a b c h1 h2 => by simp only [decide_eq_true_eq] at *; omega) (fun a b => by simp only [Bool.or_eq_true, decide_eq_true_eq]; omega) d.toList
  rw [← h] at q
  have pm : d'.toList.Perm d.toList := by rw [h]; exact List.mergeSort_perm d.toList _
  exact ⟨by simpa using pm.length_eq, pm, by simpa using q⟩
set_option maxHeartbeats 2000000 in
theorem sort_many (blk c Bs : Nat) (d : Array Int) (h2 : 2 ≤ d.size) (h12 : d.size < 4611686018427387904) (w : World) (hH : Holds (Value.int .u32) w blk 0 d) (hblk : blk < w.heap.size) (hne : Bs ≠ blk)
    (hs : w.cell? ⟨Bs, 0, none⟩ = some (.slice (some ⟨blk, 0, none⟩) d.size c)) :
    Calls Tryd.prog 174 #[.iface 249 (.slice (some ⟨blk, 0, none⟩) d.size c), .func (.func 175) #[] #[.pointer (some ⟨Bs, 0, none⟩)]] w fun e w' =>
      e = .returned (.tuple #[]) ∧ ∃ (d' : Array Int) (n : Nat) (os : Array Obj), d'.size = d.size ∧ d'.toList.Perm d.toList ∧ d'.toList.Pairwise (· ≤ ·) ∧ w' = grow (putRow (Value.int .u32) (Sort.ahead w n) blk 0 d') os := by
  have hBs : Bs < w.heap.size := by
    by_cases h : Bs < w.heap.size
    · exact h
    · exfalso
      unfold World.cell? at hs
      have : w.heap[Bs]? = none := by simp; omega
      simp [this] at hs
  have hless : LessReads Tryd.prog 175 #[.pointer (some ⟨Bs, 0, none⟩)] (Value.int .u32) ltInt blk 0 d.size w := by
    intro m os dk hsz i j hi hj
    have e : sortWorld (Value.int .u32) w blk 0 m dk os = putRow (Value.int .u32) (grow (Sort.ahead w m) os) blk 0 dk := by
      unfold sortWorld; rw [putRow_grow _ (Sort.ahead w m) _ blk 0 _ hblk]
    have hHg : Holds (Value.int .u32) (grow (Sort.ahead w m) os) blk 0 d := holds_grow _ _ _ blk 0 d hblk (holds_ahead _ _ _ _ _ _ hH)
    refine less_keys blk 0 c Bs d.size _ (fun t => dk[t]!) ?_ (fun t ht => ?_) i j hi hj
    · rw [e, cell?_putRow_other _ _ blk 0 dk _ (Or.inl (by show Bs ≠ blk; exact hne)), cell?_grow _ _ _ (by show Bs < w.heap.size; exact hBs)]
      exact hs
    · rw [e]; exact cell?_putRow _ _ blk 0 d dk hHg hsz t (by omega)
  have hS := Any.sort_Slice_sorted sa6 249 110 siT siE (by kernel_rfl) (by kernel_rfl) (by kernel_rfl) (by kernel_rfl) 10 (fun _ => by kernel_rfl) (by kernel_rfl) (fun _ => by kernel_rfl) (Value.int .u32) (fun _ => rfl) ltInt swo_ltInt 175 _
    (enters_of Tryd.func175 (by kernel_rfl) rfl) blk 0 c d h2 h12 219 (by rw [siK _ h2]; kernel_rfl) true
    (fun args W => run_callFunc_extern Tryd.func219 (by kernel_rfl) (by kernel_rfl) (by kernel_rfl) (e := Extern.ReflectliteSwapper.swap true) (by kernel_rfl) args W) _ hless hH hblk
  change Calls Tryd.prog 174 _ _ _ at hS
  refine hS.mono ?_
  rintro e w' ⟨rfl, d', n, os, hp, hso, rfl⟩
  obtain ⟨q1, q2, q3⟩ := sorted_le hp hso
  exact ⟨rfl, d', n, os, q1, q2, q3, rfl⟩
set_option maxHeartbeats 2000000 in
theorem sort_few (p : Option Addr) (n c : Nat) (h1 : n ≤ 1) (lf : Fn) (la lb : Array Value) (w : World) :
    Calls Tryd.prog 174 #[.iface 249 (.slice p n c), .func lf la lb] w fun e w' => e = .returned (.tuple #[]) ∧ ∃ os, w' = grow w os := by
  have hK : Lib.swapperK n siE 10 = n + 1 := by
    rcases Nat.eq_zero_or_pos n with h | h
    · subst h; simp [Lib.swapperK]
    · obtain rfl : n = 1 := by omega
      simp [Lib.swapperK]
  exact Any.sort_Slice_tiny sa6 249 110 siT siE (by kernel_rfl) (by kernel_rfl) (by kernel_rfl) (by kernel_rfl) 10 (fun _ => by kernel_rfl) p n c h1 (214 + n) (by
    rw [hK]
    rcases Nat.eq_zero_or_pos n with h | h
    · subst h; kernel_rfl
    · obtain rfl : n = 1 := by omega
      kernel_rfl) lf la lb w
end Go.Proofs.YtdanlkiojkimaaaDoor.Rd

