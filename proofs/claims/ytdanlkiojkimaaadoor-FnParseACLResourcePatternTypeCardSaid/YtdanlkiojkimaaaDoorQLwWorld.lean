/-
  FROM THE ABSTRACT MACHINE TO THE WORLD: a law of a number and of octets whose run the machine answers with true.
-/
import Derived.Test.YtdanlkiojkimaaaDoorQRdStr
import Derived.ProofKit
import Derived.OpenShut
import Derived.ChangeSlices
import Derived.Stop.LaidErr
import Derived.Deep.DeepHandedRow
import Derived.Test.YtdanlkiojkimaaaDoorProg
import Derived.Shelf.GgSortFunc.Whole
import Derived.Shelf.GgSortFunc.Tiny
import Derived.Test.YtdanlkiojkimaaaDoorQAxDraw2
import Derived.Deep.QuietTactic
import Derived.Lib.RowBridge
import Derived.Lib.SortBridge
import Derived.Sort.LotA
import Derived.WalkKit
set_option linter.constructorNameAsVariable false
set_option linter.unusedVariables false
set_option linter.unusedSimpArgs false
namespace Go.Proofs.YtdanlkiojkimaaaDoor.Rd
open Go Go.RowKit Go.ChangeShapes Go.WideShapes Go.Proofs.YtdanlkiojkimaaaDoor.Ax Go.Proofs.YtdanlkiojkimaaaDoor.Wire
set_option maxRecDepth 100000
theorem blk_of_var {P : Program} {W : World} {n : String} {g : Nat} {cs : Array Value} (hg : P.globalNamed n = some g) (h : W.var? P n = some cs) : ∃ ty fz, W.heap[g]? = some (.cells cs ty fz) := by
  unfold World.var? at h
  simp only [hg, Option.bind_some] at h
  split at h
  · rename_i c t f hh
    simp at h
    subst h
    exact ⟨_, _, hh⟩
  · cases h
def loc0 (n : Nat) : List Ax.Loc := (List.range (n + 1)).map fun i => ⟨i, 0, false⟩
theorem rng_at (n i : Nat) : (List.range n)[i]? = if i < n then some i else none := by
  by_cases h : i < n
  · rw [if_pos h, List.getElem?_range h]
  · rw [if_neg h, List.getElem?_eq_none (by simpa using h)]
theorem loc0_at {n i : Nat} {l : Ax.Loc} (h : (loc0 n)[i]? = some l) : l = ⟨i, 0, false⟩ := by
  simp only [loc0, List.getElem?_map, rng_at] at h
  by_cases hi : i < n + 1
  · rw [if_pos hi] at h; simp at h; exact h.symm
  · rw [if_neg hi] at h; simp at h
def absV (n : Nat) : Value → AV
  | .bool b => .b b
  | .int k x => .i k x
  | .float k x => .f k x
  | .string s => .s s
  | .pointer none => .p0
  | .pointer (some ⟨b, o, none⟩) => if b < n then .p b o else .u
  | .slice none 0 0 => .s0
  | .slice (some a) l c => if l = 0 then .se else if a.spot = none ∧ a.block < n ∧ l ≤ c ∧ c ≤ maxLen then .sl a.block a.off l else .u
  | .map none => .m0
  | .nilIface => .n
  | .iface _ _ => .e
  | _ => .u
def absB (n : Nat) : Obj → Blk
  | .cells cur ty _ => .cells ty .ro (cur.toList.map (absV n))
  | _ => .dead
def heapOf (W : World) : Heap := W.heap.toList.map (absB W.heap.size) ++ [.dead]
theorem heapOf_len (W : World) : (heapOf W).length = W.heap.size + 1 := by simp [heapOf]
theorem lt_heap {W : World} {i : Nat} {b : Obj} (h : W.heap[i]? = some b) : i < W.heap.size := (Array.getElem?_eq_some_iff.1 h).1
def Octets (W : World) (v : Value) (zs : List Int) : Prop :=
  (v = .slice none 0 0 ∧ zs = []) ∨ ∃ (a : Addr) (len cap : Nat), v = .slice (some a) len cap ∧ len ≤ cap ∧ cap ≤ maxLen ∧ zs.length = len ∧ (∀ i, i < zs.length → W.cell? (a.add i) = some (.int .u8 (zs.getD i 0))) ∧ (∀ n ∈ zs, (Lit.int .u8 n).wf = true)
end Go.Proofs.YtdanlkiojkimaaaDoor.Rd

namespace Go.Proofs.YtdanlkiojkimaaaDoor.Rd
open Go Go.RowKit Go.ChangeShapes Go.WideShapes Go.Proofs.YtdanlkiojkimaaaDoor.Ax Go.Proofs.YtdanlkiojkimaaaDoor.Wire
set_option maxRecDepth 100000
theorem noc : noCount P = true := by kernel_rfl
end Go.Proofs.YtdanlkiojkimaaaDoor.Rd

namespace Go.Proofs.YtdanlkiojkimaaaDoor.Rd
open Go Go.Shelf
def sa6_ren : Go.Shelf.Ren := ⟨fun | 6 => 174 | 10 => 198 | 11 => 199 | 12 => 200 | 13 => 201 | 14 => 202 | 24 => 173 | 25 => 223 | 26 => 224 | 27 => 225 | 28 => 226 | 29 => 227 | 30 => 228 | 31 => 229 | 32 => 230 | 33 => 231 | 34 => 237 | 35 => 238 | 36 => 239 | 37 => 240 | 38 => 241 | 39 => 242 | n => n, fun | 20 => 20 | 26 => 251 | 35 => 268 | 0 => 0 | 37 => 270 | 3 => 3 | 41 => 128 | 44 => 275 | 49 => 110 | 51 => 179 | 4 => 4 | 54 => 299 | 53 => 298 | 58 => 50 | 5 => 5 | 9 => 9 | 60 => 314 | 64 => 317 | 66 => 323 | 67 => 324 | 17 => 17 | 32 => 265 | 33 => 266 | 82 => 337 | 12 => 12 | 75 => 331 | 76 => 332 | 77 => 333 | 78 => 259 | 79 => 334 | 80 => 335 | n => n, fun | n => n⟩
theorem sa6 : Go.Proofs.LaysGg.n6 Tryd.prog sa6_ren := {
  mixed := by kernel_rfl,
  f6 := Tryd.func174.trans (congrArg some (by kernel_rfl)),
  f10 := Tryd.func198.trans (congrArg some (by kernel_rfl)),
  f11 := Tryd.func199.trans (congrArg some (by kernel_rfl)),
  f12 := Tryd.func200.trans (congrArg some (by kernel_rfl)),
  f13 := Tryd.func201.trans (congrArg some (by kernel_rfl)),
  f14 := Tryd.func202.trans (congrArg some (by kernel_rfl)),
  f24 := Tryd.func173.trans (congrArg some (by kernel_rfl)),
  f25 := Tryd.func223.trans (congrArg some (by kernel_rfl)),
  f26 := Tryd.func224.trans (congrArg some (by kernel_rfl)),
  f27 := Tryd.func225.trans (congrArg some (by kernel_rfl)),
  f28 := Tryd.func226.trans (congrArg some (by kernel_rfl)),
  f29 := Tryd.func227.trans (congrArg some (by kernel_rfl)),
  f30 := Tryd.func228.trans (congrArg some (by kernel_rfl)),
  f31 := Tryd.func229.trans (congrArg some (by kernel_rfl)),
  f32 := Tryd.func230.trans (congrArg some (by kernel_rfl)),
  f33 := Tryd.func231.trans (congrArg some (by kernel_rfl)),
  f34 := Tryd.func237.trans (congrArg some (by kernel_rfl)),
  f35 := Tryd.func238.trans (congrArg some (by kernel_rfl)),
  f36 := Tryd.func239.trans (congrArg some (by kernel_rfl)),
  f37 := Tryd.func240.trans (congrArg some (by kernel_rfl)),
  f38 := Tryd.func241.trans (congrArg some (by kernel_rfl)),
  f39 := Tryd.func242.trans (congrArg some (by kernel_rfl)),
  t0 := Tryd.underlying0,
  a0 := Tryd.isAgg0,
  z0 := Tryd.sizeOf0,
  v0 := Tryd.zeroValue0,
  i0 := by kernel_rfl,
  t3 := Tryd.underlying3,
  a3 := Tryd.isAgg3,
  z3 := Tryd.sizeOf3,
  v3 := Tryd.zeroValue3,
  i3 := by kernel_rfl,
  t4 := Tryd.underlying4,
  a4 := Tryd.isAgg4,
  z4 := Tryd.sizeOf4,
  v4 := Tryd.zeroValue4,
  i4 := by kernel_rfl,
  t5 := Tryd.underlying5,
  a5 := Tryd.isAgg5,
  z5 := Tryd.sizeOf5,
  v5 := Tryd.zeroValue5,
  i5 := by kernel_rfl,
  t9 := Tryd.underlying9,
  a9 := Tryd.isAgg9,
  z9 := Tryd.sizeOf9,
  v9 := Tryd.zeroValue9,
  i9 := by kernel_rfl,
  t12 := Tryd.underlying12,
  a12 := Tryd.isAgg12,
  z12 := Tryd.sizeOf12,
  v12 := Tryd.zeroValue12,
  i12 := by kernel_rfl,
  t17 := Tryd.underlying17,
  a17 := Tryd.isAgg17,
  z17 := Tryd.sizeOf17,
  v17 := Tryd.zeroValue17,
  i17 := by kernel_rfl,
  t20 := Tryd.underlying20,
  a20 := Tryd.isAgg20,
  z20 := Tryd.sizeOf20,
  v20 := Tryd.zeroValue20,
  i20 := by kernel_rfl,
  t26 := Tryd.underlying251,
  a26 := Tryd.isAgg251,
  z26 := Tryd.sizeOf251,
  v26 := Tryd.zeroValue251,
  i26 := by kernel_rfl,
  t32 := Tryd.underlying265,
  a32 := Tryd.isAgg265,
  z32 := Tryd.sizeOf265,
  v32 := Tryd.zeroValue265,
  i32 := by kernel_rfl,
  t33 := Tryd.underlying266,
  a33 := Tryd.isAgg266,
  z33 := Tryd.sizeOf266,
  v33 := Tryd.zeroValue266,
  i33 := by kernel_rfl,
  t35 := Tryd.underlying268,
  a35 := Tryd.isAgg268,
  z35 := Tryd.sizeOf268,
  v35 := Tryd.zeroValue268,
  i35 := by kernel_rfl,
  t37 := Tryd.underlying270,
  a37 := Tryd.isAgg270,
  z37 := Tryd.sizeOf270,
  v37 := Tryd.zeroValue270,
  i37 := by kernel_rfl,
  t41 := Tryd.underlying128,
  a41 := Tryd.isAgg128,
  z41 := Tryd.sizeOf128,
  v41 := Tryd.zeroValue128,
  i41 := by kernel_rfl,
  t44 := Tryd.underlying275,
  a44 := Tryd.isAgg275,
  z44 := Tryd.sizeOf275,
  v44 := Tryd.zeroValue275,
  i44 := by kernel_rfl,
  t49 := Tryd.underlying110,
  a49 := Tryd.isAgg110,
  z49 := Tryd.sizeOf110,
  v49 := Tryd.zeroValue110,
  i49 := by kernel_rfl,
  t51 := Tryd.underlying179,
  a51 := Tryd.isAgg179,
  z51 := Tryd.sizeOf179,
  v51 := Tryd.zeroValue179,
  i51 := by kernel_rfl,
  t53 := Tryd.underlying298,
  a53 := Tryd.isAgg298,
  z53 := Tryd.sizeOf298,
  v53 := Tryd.zeroValue298,
  i53 := by kernel_rfl,
  t54 := Tryd.underlying299,
  a54 := Tryd.isAgg299,
  z54 := Tryd.sizeOf299,
  v54 := Tryd.zeroValue299,
  i54 := by kernel_rfl,
  t58 := Tryd.underlying50,
  a58 := Tryd.isAgg50,
  z58 := Tryd.sizeOf50,
  v58 := Tryd.zeroValue50,
  i58 := by kernel_rfl,
  t60 := Tryd.underlying314,
  a60 := Tryd.isAgg314,
  z60 := Tryd.sizeOf314,
  v60 := Tryd.zeroValue314,
  i60 := by kernel_rfl,
  t64 := Tryd.underlying317,
  a64 := Tryd.isAgg317,
  z64 := Tryd.sizeOf317,
  v64 := Tryd.zeroValue317,
  i64 := by kernel_rfl,
  t66 := Tryd.underlying323,
  a66 := Tryd.isAgg323,
  z66 := Tryd.sizeOf323,
  v66 := Tryd.zeroValue323,
  i66 := by kernel_rfl,
  t67 := Tryd.underlying324,
  a67 := Tryd.isAgg324,
  z67 := Tryd.sizeOf324,
  v67 := Tryd.zeroValue324,
  i67 := by kernel_rfl,
  t75 := Tryd.underlying331,
  a75 := Tryd.isAgg331,
  z75 := Tryd.sizeOf331,
  v75 := Tryd.zeroValue331,
  i75 := by kernel_rfl,
  t76 := Tryd.underlying332,
  a76 := Tryd.isAgg332,
  z76 := Tryd.sizeOf332,
  v76 := Tryd.zeroValue332,
  i76 := by kernel_rfl,
  t77 := Tryd.underlying333,
  a77 := Tryd.isAgg333,
  z77 := Tryd.sizeOf333,
  v77 := Tryd.zeroValue333,
  i77 := by kernel_rfl,
  t78 := Tryd.underlying259,
  a78 := Tryd.isAgg259,
  z78 := Tryd.sizeOf259,
  v78 := Tryd.zeroValue259,
  i78 := by kernel_rfl,
  t79 := Tryd.underlying334,
  a79 := Tryd.isAgg334,
  z79 := Tryd.sizeOf334,
  v79 := Tryd.zeroValue334,
  i79 := by kernel_rfl,
  t80 := Tryd.underlying335,
  a80 := Tryd.isAgg335,
  z80 := Tryd.sizeOf335,
  v80 := Tryd.zeroValue335,
  i80 := by kernel_rfl,
  t82 := Tryd.underlying337,
  a82 := Tryd.isAgg337,
  z82 := Tryd.sizeOf337,
  v82 := Tryd.zeroValue337,
  i82 := by kernel_rfl }
end Go.Proofs.YtdanlkiojkimaaaDoor.Rd

namespace Go.Proofs.YtdanlkiojkimaaaDoor.Rd
open Go Go.Shelf Go.RowKit Go.Lib Go.Sort
noncomputable def siT : TypeInfo := (Tryd.prog.info? 249).get (by kernel_rfl)
noncomputable def siE : TypeInfo := (Tryd.prog.info? 110).get (by kernel_rfl)
theorem siK (n : Nat) (h2 : 2 ≤ n) : Lib.swapperK n siE 10 = 6 := by
  have a : siE.hasPointers = false := by kernel_rfl
  have b : siE.bytes = 4 := by kernel_rfl
  have c : (n == 0) = false := by simp; omega
  have d : (n == 1) = false := by simp; omega
  simp [Lib.swapperK, a, b, c, d]
set_option maxHeartbeats 2000000 in
theorem less_keys (blk off c Bs size : Nat) (W : World) (G : Nat → Int) (hs : W.cell? ⟨Bs, 0, none⟩ = some (.slice (some ⟨blk, off, none⟩) size c))
    (hc : ∀ t, t < size → W.cell? ⟨blk, off + t, none⟩ = some (.int .u32 (G t))) (i j : Nat) (hi : i < size) (hj : j < size) :
    Calls Tryd.prog 175 #[.int .i64 i, .int .i64 j, .pointer (some ⟨Bs, 0, none⟩)] W fun e w' => e = .returned (.bool (decide (G i < G j))) ∧ ∃ q, w' = W.drewN q := by
  have ci := hc i hi
  have cj := hc j hj
  go_enter Tryd.func175, Tryd.ntmps175
  go_wp2
  go_quiet (fail)
  go_wp2
  go_ret
  exact ⟨rfl, nq, rfl⟩
theorem sorted_le {d d' : Array Int} (hp : PermIn 0 d.size d d') (hs : SortedIn ltInt 0 d.size d') : d'.size = d.size ∧ d'.toList.Perm d.toList ∧ d'.toList.Pairwise (· ≤ ·) := by
  have h := sorted_unique_holds (lt := ltInt) swo_ltInt (fun x y h1 h2 => by simp only [ltInt, decide_eq_false_iff_not] at h1 h2; omega) d d' hp hs
  have e : (fun x y : Int => !ltInt y x) = fun x y => decide (x ≤ y) := by
    funext x y
    simp only [ltInt]
    by_cases h : x ≤ y
    · first | (simp [h]; done) | (simp [h]; omega)
    · first | (simp [h]; done) | (simp [h]; omega)
  rw [e] at h
  have q := List.pairwise_mergeSort (le := fun x y : Int => decide (x ≤ y)) (fun a b c h1 h2 => by simp only [decide_eq_true_eq] at *; omega) (fun a b => by simp only [Bool.or_eq_true, decide_eq_true_eq]; omega) d.toList
  rw [← h] at q
  have pm : d'.toList.Perm d.toList := by rw [h]; exact List.mergeSort_perm d.toList _
  exact ⟨by simpa using pm.length_eq, pm, by simpa using q⟩
set_option maxHeartbeats 2000000 in
theorem sort_many (blk c Bs : Nat) (d : Array Int) (h2 : 2 ≤ d.size) (h12 : d.size < 4611686018427387904) (w : World) (hH : Holds (Value.int .u32) w blk 0 d) (hblk : blk < w.heap.size) (hne : Bs ≠ blk)
    (hs : w.cell? ⟨Bs, 0, none⟩ = some (.slice (some ⟨blk, 0, none⟩) d.size c)) :
    Calls Tryd.prog 174 #[.iface 249 (.slice (some ⟨blk, 0, none⟩) d.size c), .func (.func 175) #[] #[.pointer (some ⟨Bs, 0, none⟩)]] w fun e w' =>
      e = .returned (.tuple #[]) ∧ ∃ (d' : Array Int) (n : Nat) (os : Array Obj), d'.size = d.size ∧ d'.toList.Perm d.toList ∧ d'.toList.Pairwise (· ≤ ·) ∧ w' = grow (putRow (Value.int .u32) (Sort.ahead w n) blk 0 d') os := by
  have hBs : Bs < w.heap.size := by
    by_cases h : Bs < w.heap.size
    · exact h
    · exfalso
      unfold World.cell? at hs
      have : w.heap[Bs]? = none := by simp; omega
      simp [this] at hs
  have hless : LessReads Tryd.prog 175 #[.pointer (some ⟨Bs, 0, none⟩)] (Value.int .u32) ltInt blk 0 d.size w := by
    intro m os dk hsz i j hi hj
    have e : sortWorld (Value.int .u32) w blk 0 m dk os = putRow (Value.int .u32) (grow (Sort.ahead w m) os) blk 0 dk := by
      unfold sortWorld; rw [putRow_grow _ (Sort.ahead w m) _ blk 0 _ hblk]
    have hHg : Holds (Value.int .u32) (grow (Sort.ahead w m) os) blk 0 d := holds_grow _ _ _ blk 0 d hblk (holds_ahead _ _ _ _ _ _ hH)
    refine less_keys blk 0 c Bs d.size _ (fun t => dk[t]!) ?_ (fun t ht => ?_) i j hi hj
    · rw [e, cell?_putRow_other _ _ blk 0 dk _ (Or.inl (by show Bs ≠ blk; exact hne)), cell?_grow _ _ _ (by show Bs < w.heap.size; exact hBs)]
      exact hs
    · rw [e]; exact cell?_putRow _ _ blk 0 d dk hHg hsz t (by omega)
  have hS := Any.sort_Slice_sorted sa6 249 110 siT siE (by kernel_rfl) (by kernel_rfl) (by kernel_rfl) (by kernel_rfl) 10 (fun _ => by kernel_rfl) (by kernel_rfl) (fun _ => by kernel_rfl) (Value.int .u32) (fun _ => rfl) ltInt swo_ltInt 175 _
    (enters_of Tryd.func175 (by kernel_rfl) rfl) blk 0 c d h2 h12 219 (by rw [siK _ h2]; kernel_rfl) true
    (fun args W => run_callFunc_extern Tryd.func219 (by kernel_rfl) (by kernel_rfl) (by kernel_rfl) (e := Extern.ReflectliteSwapper.swap true) (by kernel_rfl) args W) _ hless hH hblk
  change Calls Tryd.prog 174 _ _ _ at hS
  refine hS.mono ?_
  rintro e w' ⟨rfl, d', n, os, hp, hso, rfl⟩
  obtain ⟨q1, q2, q3⟩ := sorted_le hp hso
  exact ⟨rfl, d', n, os, q1, q2, q3, rfl⟩
set_option maxHeartbeats 2000000 in
theorem sort_few (p : Option Addr) (n c : Nat) (h1 : n ≤ 1) (lf : Fn) (la lb : Array Value) (w : World) :
    Calls Tryd.prog 174 #[.iface 249 (.slice p n c), .func lf la lb] w fun e w' => e = .returned (.tuple #[]) ∧ ∃ os, w' = grow w os := by
  have hK : Lib.swapperK n siE 10 = n + 1 := by
    rcases Nat.eq_zero_or_pos n with h | h
    · subst h; simp [Lib.swapperK]
    · obtain rfl : n = 1 := by omega
      simp [Lib.swapperK]
  exact Any.sort_Slice_tiny sa6 249 110 siT siE (by kernel_rfl) (by kernel_rfl) (by kernel_rfl) (by kernel_rfl) 10 (fun _ => by kernel_rfl) p n c h1 (214 + n) (by
    rw [hK]
    rcases Nat.eq_zero_or_pos n with h | h
    · subst h; kernel_rfl
    · obtain rfl : n = 1 := by omega
      kernel_rfl) lf la lb w
end Go.Proofs.YtdanlkiojkimaaaDoor.Rd

