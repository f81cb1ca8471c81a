/-
  EACH: a map's keys are gathered: what an append, a store come to.
-/
import Derived.Test.YtiifcfngbbhgoagDoorQRdSort
import Derived.Test.YtiifcfngbbhgoagDoorQa
import Derived.Maps.RangeRun
import Derived.Test.YtiifcfngbbhgoagDoorQRdNs
set_option linter.constructorNameAsVariable false
set_option linter.unusedVariables false
set_option linter.unusedSimpArgs false
namespace Go.Proofs.YtiifcfngbbhgoagDoor.Rd
open Go Go.Shelf Go.RowKit Go.Lib Go.Sort Go.ChangeMaps Go.Proofs.YtiifcfngbbhgoagDoor.Ax
theorem src_one {W : World} {tmp : Nat} {v : Value} (ht : W.cell? ⟨tmp, 0, none⟩ = some v) : Ax.Source P 1 W (.slice (some ⟨tmp, 0, none⟩) 1 1) 1 [v] := by
  have hc : ∀ (j : Nat) (u : Value), [v][j]? = some u → W.cell? ((⟨tmp, 0, none⟩ : Addr).add j) = some u := fun j u hu => by
    cases j with
    | zero => simp at hu; subst hu; rw [add_at]; exact ht
    | succ j => simp at hu
  refine ⟨fun w' => rfl, run_firstCells_some W 1 1 _ 1 1 [v] rfl hc, run_firstCells_some W.drew 1 1 _ 1 1 [v] rfl hc, rfl, fun k hk => ?_⟩
  exact run_firstCells_some W 1 k _ 1 1 ([v].take (k * 1)) (by simp; omega) (fun j u hu => hc j u (by rw [List.getElem?_take] at hu; split at hu <;> first | exact hu | cases hu))
theorem app_key {W : World} {blk tmp j n : Nat} {cur : Array Value} {k : Int} {ty : TypeId} (hb : W.heap[blk]? = some (.cells cur 49 (0, 0))) (hsz : cur.size = n) (hj : j < n) (hn : n ≤ 1099511627776) (ht : W.cell? ⟨tmp, 0, none⟩ = some (.int .u32 k)) :
    (Builtin.append_ #[48, 48] ty #[.slice (some ⟨blk, 0, none⟩) j n, .slice (some ⟨tmp, 0, none⟩) 1 1]).run P W = .ok (.slice (some ⟨blk, 0, none⟩) (j + 1) n) (W.setRow blk (cur.toList.take j ++ [Value.int .u32 k] ++ cur.toList.drop (j + 1)).toArray) := by
  have hi : P.info? 49 = some siE := by kernel_rfl
  have hz : siE.zero = some (.int .u32 0) := by kernel_rfl
  have hs : siE.size = 1 := by kernel_rfl
  have hst : (storeCells ⟨blk, j, none⟩ [Value.int .u32 k]).run P W = .ok () (W.setRow blk (cur.toList.take j ++ [Value.int .u32 k] ++ cur.toList.drop (j + 1)).toArray) := by
    have := run_storeCells_at P blk j 49 [Value.int .u32 k] 0 cur W hb (by simp; omega) (by simp [Value.oneCell'])
    simpa using this
  have hold : (Builtin.firstCells 1 j (.slice (some ⟨blk, 0, none⟩) j n)).run P W.drew = .ok (cur.toList.take j).toArray W.drew := by
    refine run_firstCells_some W.drew 1 j _ j n (cur.toList.take j) (by simp; omega) (fun i u hu => ?_)
    rw [add_at, Nat.zero_add]
    rw [List.getElem?_take] at hu
    split at hu
    · have : (W.drew).heap[blk]? = some (.cells cur 49 (0, 0)) := hb
      rw [cell_of_row _ _ _ _ _ _ this]; simpa using hu
    · cases hu
  have hsrc := src_one ht
  have h := run_append_any (w := W) (P := P) (ty := ty) (t1 := 48) (t2 := 48) (by kernel_rfl) (.inr ⟨49, by kernel_rfl⟩) hi hz (b := some ⟨blk, 0, none⟩) (n := j) (c := n) (by rw [hs]; exact hsrc)
    (fun _ g hg => by cases hg; rw [hs, add_at, Nat.zero_add, Nat.mul_one]; exact ⟨_, hst⟩) (olds := cur.toList.take j) (by rw [hs]; exact hold) (by omega) (fun hh => by omega)
  rw [h, if_pos (by omega)]
  simp only [hs, add_at, Nat.zero_add, Nat.mul_one, hst, Result.andThen_ok]
theorem st_box {W : World} {box : Nat} {old v : Value} (hb : W.heap[box]? = some (.cells #[old] 48 (0, 0))) (h1 : v.oneCell' = true) : (Instr.storeAt 48 (.pointer (some ⟨box, 0, none⟩)) v).run P W = .ok () (W.setRow box #[v]) := by
  have hs : sizeA P 48 = some 1 := by kernel_rfl
  have hst := run_storeCells_at P box 0 48 [v] 0 #[old] W hb (by simp) (by simpa using h1)
  simp at hst
  have hc : v.cells = #[v] := Ax.cells_one h1
  simp [Instr.storeAt, Instr.sureAddr, storeVar, run_sizeA W hs, hc, hst]
end Go.Proofs.YtiifcfngbbhgoagDoor.Rd

namespace Go.Proofs.YtiifcfngbbhgoagDoor.Rd
open Go Go.Shelf Go.RowKit Go.Lib Go.Sort Go.ChangeMaps Go.Proofs.YtiifcfngbbhgoagDoor.Ax
set_option maxRecDepth 100000
theorem wpList_app_run {ops : Array Oper} {rest : List Oper} {o : Oper} {a : Act} {w : World} {Q : Exit → Act → World → Prop} (hgd : o.guard = none) (s x : Operand) (t : TypeId) (ho : o.op = .call { callee := .builtin .append, args := #[s, x], argTypes := #[t, t] })
    {v x' r : Value} {w' : World} (hs : a.eval s = v) (hx : a.eval x = x') (hr : (Builtin.append_ #[t, t] o.type #[v, x']).run P w = .ok r w') (h : wpList P ops Q rest (a.put o.dst r) w') : wpList P ops Q (o :: rest) a w := by
  refine wpList_plain hgd fun K hK => ?_
  unfold Oper.wp execOp
  simp only [ho, resolve, invoke, builtin, Sem.run_bind, Sem.run_pure, Result.andThen_ok, List.map_toArray, List.map_cons, List.map_nil, hs, hx, hr]
  exact hK _ _ h
theorem wpList_store_run {ops : Array Oper} {rest : List Oper} {o : Oper} {a : Act} {w : World} {Q : Exit → Act → World → Prop} (hgd : o.guard = none) (t : TypeId) (s x : Operand) (ho : o.op = .store t s x)
    {v x' : Value} {w' : World} (hs : a.eval s = v) (hx : a.eval x = x') (hr : (Instr.storeAt t v x').run P w = .ok () w') (h : wpList P ops Q rest (a.put o.dst undef) w') : wpList P ops Q (o :: rest) a w := by
  refine wpList_plain hgd fun K hK => ?_
  unfold Oper.wp execOp
  simp only [ho, Sem.run_bind, Sem.run_pure, Result.andThen_ok, hs, hx, hr]
  exact hK _ _ h
def Gather (w : World) (mb n : Nat) (xs : Array MapEntry) (clk : Nat) (wr : World) : Prop := ∃ (done : List MapEntry) (c0 : Nat) (cur : Array Value), wr.heap[mb]? = some (.map xs clk) ∧ wr.heap[w.heap.size + 2]? = some (.mapIter (some mb) clk (done.map (·.born)).toArray c0) ∧ clk ≤ c0 ∧ (∀ x ∈ done, x ∈ xs.toList) ∧ (done.map (·.born)).Nodup ∧
     wr.heap[w.heap.size + 1]? = some (.cells #[.slice (some ⟨w.heap.size, 0, none⟩) done.length n] 48 (0, 0)) ∧ wr.heap[w.heap.size]? = some (.cells cur 49 (0, 0)) ∧ cur.size = n ∧ cur.toList.take done.length = done.map (·.key) ∧ Below w.heap.size w wr
def toGo (w : World) (xs : Array MapEntry) (wr : World) : Nat := match wr.heap[w.heap.size + 2]? with | some (.mapIter _ _ seen _) => (leftOf xs seen).size | _ => 0
theorem toGo_at {w wr : World} {xs : Array MapEntry} {m : Option Nat} {a c : Nat} {seen : Array Nat} (h : wr.heap[w.heap.size + 2]? = some (.mapIter m a seen c)) : toGo w xs wr = (leftOf xs seen).size := by unfold toGo; rw [h]
structure Keys (w : World) (n : Nat) (ks : List Int) (w1 : World) : Prop where
  row : w1.heap[w.heap.size]? = some (.cells ((ks.map (Value.int .u32)).toArray) 49 (0, 0))
  box : w1.heap[w.heap.size + 1]? = some (.cells #[.slice (some ⟨w.heap.size, 0, none⟩) n n] 48 (0, 0))
  below : Below w.heap.size w w1
theorem nodup_len {α : Type} [DecidableEq α] : ∀ (l m : List α), l.Nodup → (∀ x ∈ l, x ∈ m) → l.length ≤ m.length
  | [], m, _, _ => Nat.zero_le _
  | a :: l, m, hn, hs => by
    have ha := hs a List.mem_cons_self
    obtain ⟨h1, h2⟩ := List.nodup_cons.1 hn
    have := nodup_len l (m.erase a) h2 (fun x hx => (List.mem_erase_of_ne (fun e => h1 (by rw [← e]; exact hx))).2 (hs x (List.mem_cons_of_mem _ hx)))
    rw [List.length_erase_of_mem ha] at this
    have : 0 < m.length := List.length_pos_of_mem ha
    simp; omega
theorem nodup_of_map {α β : Type} {f : α → β} {l : List α} (h : (l.map f).Nodup) : l.Nodup := (List.pairwise_map.1 h).imp fun hne e => hne (congrArg f e)
def numOf : Value → Int
  | .int _ k => k
  | _ => 0
theorem gathered {xs : Array MapEntry} {done : List MapEntry} (hz : (leftOf xs (done.map (·.born)).toArray).size = 0) (r4 : ∀ x ∈ done, x ∈ xs.toList) (r5 : (done.map (·.born)).Nodup) (hnd : (xs.toList.map (·.born)).Nodup)
    {ks : List Int} (hks : (ks.map (Value.int .u32)).Perm (xs.toList.map (·.key))) : done.length = xs.size ∧ ∃ dl : List Int, dl.Perm ks ∧ done.map (·.key) = dl.map (Value.int .u32) := by
  have hp : done.Perm xs.toList := by
    refine (List.perm_ext_iff_of_nodup (nodup_of_map r5) (nodup_of_map hnd)).2 fun e => ⟨r4 e, fun he => ?_⟩
    have h1 := all_seen xs _ hz e he
    obtain ⟨y, hy, hyb⟩ := List.mem_map.1 (show e.born ∈ done.map (·.born) by simpa using h1)
    have := born_inj hnd (r4 y hy) he hyb
    rw [← this]; exact hy
  refine ⟨by simpa using hp.length_eq, (done.map (·.key)).map numOf, ?_, ?_⟩
  · have h2 : ((done.map (·.key)).map numOf).Perm ((ks.map (Value.int .u32)).map numOf) := ((hp.map _).trans hks.symm).map _
    have : (ks.map (Value.int .u32)).map numOf = ks := by simp [List.map_map, Function.comp_def, numOf]
    rw [this] at h2; exact h2
  · rw [List.map_map]
    conv => lhs; rw [← List.map_id (done.map (·.key))]
    refine List.map_congr_left fun x hx => ?_
    have : x ∈ ks.map (Value.int .u32) := hks.mem_iff.2 ((hp.map _).mem_iff.1 hx)
    obtain ⟨k, _, rfl⟩ := List.mem_map.1 this
    rfl
theorem sorted_one {l m : List Int} (h : l.Perm m) (hl : l.Pairwise (· ≤ ·)) (hm : m.Pairwise (· < ·)) : l = m :=
  List.Perm.eq_of_pairwise (fun a b _ _ h1 h2 => by omega) hl (hm.imp fun h => by omega) h
theorem sort_each {w wr : World} {n : Nat} {cur : Array Value} {dl ks : List Int} (hn : 0 < n) (hbig : n ≤ 1099511627776) (hp : dl.Perm ks) (hso : ks.Pairwise (· < ·)) (hl : ks.length = n) (hr : wr.heap[w.heap.size]? = some (.cells cur 49 (0, 0))) (hc : cur.toList = dl.map (Value.int .u32))
    (hb : wr.heap[w.heap.size + 1]? = some (.cells #[.slice (some ⟨w.heap.size, 0, none⟩) n n] 48 (0, 0))) (hbel : Below w.heap.size w wr) :
    Calls Tryd.prog 46 #[.iface 48 (.slice (some ⟨w.heap.size, 0, none⟩) n n), .func (.func 47) #[] #[.pointer (some ⟨w.heap.size + 1, 0, none⟩)]] wr fun e w' => e = .returned (.tuple #[]) ∧ Keys w n ks w' := by
  have hdl : dl.length = n := by rw [hp.length_eq, hl]
  have hcs : cur = (dl.map (Value.int .u32)).toArray := by apply Array.ext'; simpa using hc
  have hblt : w.heap.size < wr.heap.size := (Array.getElem?_eq_some_iff.1 hr).1
  have hb1lt : w.heap.size + 1 < wr.heap.size := (Array.getElem?_eq_some_iff.1 hb).1
  have grown : ∀ os : Array Obj, Keys w n dl (grow wr os) → dl = ks → Keys w n ks (grow wr os) := fun os h e => e ▸ h
  by_cases h2 : 2 ≤ n
  · have hH : Holds (Value.int .u32) wr w.heap.size 0 dl.toArray := fun j hj => by
      have hj' : j < dl.length := by simpa using hj
      refine ⟨?_, by simp [World.frozen?, hr]⟩
      rw [cell_of_row _ _ _ _ _ _ hr, hcs]
      simp [hj']
    have hc0 : wr.cell? ⟨w.heap.size + 1, 0, none⟩ = some (.slice (some ⟨w.heap.size, 0, none⟩) dl.toArray.size n) := by
      rw [cell_of_row _ _ _ _ _ _ hb]; simp [hdl]
    have hS := sort_many w.heap.size n (w.heap.size + 1) dl.toArray (by simpa [hdl] using h2) (by simp [hdl]; omega) wr hH hblt (by omega) hc0
    have hds : dl.toArray.size = n := by simpa using hdl
    rw [hds] at hS
    refine hS.mono ?_
    rintro e w' ⟨rfl, d', m, os, q1, q2, q3, rfl⟩
    have hd' : d'.toList = ks := sorted_one (q2.trans (by simpa using hp)) q3 hso
    have hag : (Sort.ahead wr m).heap = wr.heap := rfl
    have hold : ∀ i, i < wr.heap.size → i ≠ w.heap.size → (grow (putRow (Value.int .u32) (Sort.ahead wr m) w.heap.size 0 d') os).heap[i]? = wr.heap[i]? := fun i hi hne => by
      rw [heap_grow_old _ _ (by simpa using hi)]
      simp [putRow, mapBlock, Sort.ahead, Array.getElem?_modify, Ne.symm hne]
    refine ⟨rfl, ⟨?_, (hold _ hb1lt (by omega)).trans hb, ⟨hbel.os, hbel.tape, hbel.output, ?_, fun i hi => (hold i (by omega) (by omega)).trans (hbel.block i hi)⟩⟩⟩
    · rw [heap_grow_old _ _ (by simpa using hblt)]
      simp only [putRow, mapBlock, Sort.ahead, Array.getElem?_modify, hr, if_true, Option.map_some, onCells]
      congr 2
      apply Array.ext'
      rw [← hd']
      have hd'l : d'.size = n := q1
      apply List.ext_getElem?
      intro j
      by_cases hj : j < n
      · simp [putCells, hj, hcs, hdl, hd'l]
      · rw [List.getElem?_eq_none (by simp [putCells, hcs, hdl]; omega), List.getElem?_eq_none (by simp; omega)]
    · have := hbel.size; simp; omega
  · have hS := sort_few (some ⟨w.heap.size, 0, none⟩) n n (by omega) (.func 47) #[] #[.pointer (some ⟨w.heap.size + 1, 0, none⟩)] wr
    refine hS.mono ?_
    rintro e w' ⟨rfl, os, rfl⟩
    have he : dl = ks := by
      obtain ⟨a, rfl⟩ : ∃ a, dl = [a] := List.length_eq_one_iff.1 (by omega)
      exact (List.singleton_perm.1 hp)
    refine ⟨rfl, ⟨?_, ?_, ⟨hbel.os, hbel.tape, hbel.output, ?_, fun i hi => ?_⟩⟩⟩
    · rw [heap_grow_old _ _ hblt, hr, hcs, he]
    · rw [heap_grow_old _ _ hb1lt, hb]
    · have := hbel.size; simp; omega
    · rw [heap_grow_old _ _ (by omega)]; exact hbel.block i hi
theorem findNow_map {d : TypeDesc} {kd : IntKind} (hd : ∃ k, d = .int k) (n : Int) : ∀ (xs : List MapEntry) (i : Nat), (∀ x ∈ xs, ∃ k, x.key = .int kd k) → (∃ x ∈ xs, x.key = .int kd n) → ∃ j x, x ∈ xs ∧ x.key = .int kd n ∧ Instr.findNow d (.int kd n) xs i = some (some (j, x.val))
  | [], i, _, h => by obtain ⟨x, hx, _⟩ := h; cases hx
  | x :: xs, i, hk, h => by
    obtain ⟨k0, rfl⟩ := hd
    obtain ⟨k, hx⟩ := hk x List.mem_cons_self
    have hs : Instr.sameNow (.int k0) (.int kd n) x.key = some (n == k) := by rw [hx]; simp [Instr.sameNow]
    by_cases e : n = k
    · subst e
      refine ⟨i, x, List.mem_cons_self, hx, ?_⟩
      unfold Instr.findNow
      rw [hs]; simp
    · have hb : (n == k) = false := by simpa using e
      rw [hb] at hs
      obtain ⟨j, y, hy, hyk, hf⟩ := findNow_map ⟨k0, rfl⟩ n xs (i + 1) (fun z hz => hk z (List.mem_cons_of_mem _ hz)) (by
        obtain ⟨z, hz, hzk⟩ := h
        rcases List.mem_cons.1 hz with rfl | hz
        · rw [hx] at hzk; simp at hzk; exact absurd hzk.symm e
        · exact ⟨z, hz, hzk⟩)
      refine ⟨j, y, List.mem_cons_of_mem _ hy, hyk, ?_⟩
      unfold Instr.findNow
      rw [hs]; exact hf
theorem lookup_run {w : World} {mb : Nat} {xs : Array MapEntry} {clk : Nat} {ks : List Int} {k : Int} {u : Value} (hu : Tryd.prog.underlying 39 = some (.map 49 22)) (hb : w.heap[mb]? = some (.map xs clk)) (hks : (ks.map (Value.int .u32)).Perm (xs.toList.map (·.key))) (hk : k ∈ ks)
    (hvf : ∀ x ∈ xs.toList, x.key = .int .u32 k → x.val = u) : (Instr.lookup 39 (.map (some mb)) (.int .u32 k) false).run Tryd.prog w = .ok u w := by
  have hg : (getObj mb).run Tryd.prog w = .ok (.map xs clk) w := by simp [getObj, Sem.run, hb]
  have hku : Tryd.prog.underlying 49 = some (.int .u32) := by kernel_rfl
  have hchk0 : ∀ b m, (Instr.checkKey b (m + 1) 49 (.int .u32 k)).run Tryd.prog w = .ok () w := fun b m => by
    unfold Instr.checkKey
    simp only [Sem.run_bind, run_underlying hku, Result.andThen_ok, Sem.run_pure]
  have hchk : ∀ b, (Instr.checkKey b 10000 49 (.int .u32 k)).run Tryd.prog w = .ok () w := fun b => hchk0 b 9999
  obtain ⟨j, x, hx, hxk, hf⟩ := findNow_map (d := .int .u32) (kd := .u32) ⟨_, rfl⟩ k xs.toList 0 (fun x hx => by
    obtain ⟨q, _, hq⟩ := List.mem_map.1 (hks.mem_iff.2 (List.mem_map.2 ⟨x, hx, rfl⟩))
    exact ⟨q, hq.symm⟩) (by
    obtain ⟨x, hx, hxk⟩ := List.mem_map.1 (hks.mem_iff.1 (List.mem_map.2 ⟨k, hk, rfl⟩))
    exact ⟨x, hx, hxk⟩)
  simp only [Instr.lookup, Sem.run_bind, run_underlying hu, Result.andThen_ok, hg, Sem.run_pure, hchk, Instr.findKey, run_underlying hku, hf, Bool.false_eq_true, if_false]
  rw [hvf x hx hxk]
set_option maxHeartbeats 4000000 in
theorem each_walk (tb to_ mb n : Nat) (xs : Array MapEntry) (clk : Nat) (fn : Value) (w : World) (hsz : xs.size = n) (h0 : 0 < n) (hbig : n ≤ 1099511627776)
    (htag : w.cell? ⟨tb, to_, none⟩ = some (.map (some mb))) (hmap : w.heap[mb]? = some (.map xs clk)) (hold : ∀ x ∈ xs.toList, x.born < clk) (hnd : (xs.toList.map (·.born)).Nodup)
    (ks : List Int) (hks : (ks.map (Value.int .u32)).Perm (xs.toList.map (·.key))) (hso : ks.Pairwise (· < ·))
    (Inv : Nat → World → Prop) (hst : ∀ w1, Keys w n ks w1 → Inv 0 w1)
    (hrd : ∀ i w1, Inv i w1 → w1.cell? ⟨tb, to_, none⟩ = some (.map (some mb)) ∧ ∀ j, j < n → w1.cell? ⟨w.heap.size, j, none⟩ = (ks.map (Value.int .u32))[j]?)
    (f : FuncId) (ca : Array Value) (hfn : fn = .func (.func f) #[] ca)
    (hcall : ∀ i k w1, Inv i w1 → ks[i]? = some k → ∃ v, (Instr.lookup 39 (.map (some mb)) (.int .u32 k) false).run Tryd.prog w1 = .ok v w1 ∧ Calls P f (#[.int .u32 k, v] ++ ca) w1 fun e w2 => e = .returned (.tuple #[]) ∧ Inv (i + 1) w2) (hfe : ∀ args w, (callFunc f args).run P w = .ok (.enter f args) w) :
    Calls P 40 #[.pointer (some ⟨tb, to_, none⟩), fn] w fun e w' => e = .returned (.tuple #[]) ∧ Inv n w' := by
  have hn0 : ((n : Int) == 0) = false := by simp; omega
  have hmlt : mb < w.heap.size := (Array.getElem?_eq_some_iff.1 hmap).1
  have htlt : tb < w.heap.size := by
    by_cases h : tb < w.heap.size
    · exact h
    · exfalso
      unfold World.cell? at htag
      have : w.heap[tb]? = none := by simp; omega
      simp [this] at htag
  have hum : Tryd.prog.underlying 39 = some (.map 49 22) := by kernel_rfl
  have hlen : (Builtin.len_ #[39] 3 #[.map (some mb)]).run Tryd.prog w = .ok (.int .i64 n) w := by
    have hg : (getObj mb).run Tryd.prog w = .ok (.map xs clk) w := by simp [getObj, Sem.run, hmap]
    simp [Builtin.len_, run_underlying hum, hg, goInt, hsz]
  obtain ⟨c0, hc0, hmk⟩ : ∃ c0 : Array Value, c0.size = n ∧ (Instr.makeSlice 48 (.int .i64 0) (.int .i64 n)).run Tryd.prog w = .ok (.slice (some ⟨w.heap.size, 0, none⟩) 0 n) (w.alloc (.cells c0 49)) := by
    have h := run_make (P := Tryd.prog) w 48 49 siE (.int .u32 0) (by kernel_rfl) (by kernel_rfl) (by kernel_rfl) .i64 .i64 0 n (by omega) (by omega) (by
      have : siE.bytes = 4 := by kernel_rfl
      rw [this]; omega) (by omega)
    have hs : siE.size = 1 := by kernel_rfl
    rw [hs] at h
    refine ⟨madeCells (Value.int .u32 0).cells ((n : Int).toNat * 1), by simp [madeCells], by simpa using h⟩
  have z1 : (w.alloc (.cells c0 49)).heap.size = w.heap.size + 1 := by simp
  have z2 : ((w.alloc (.cells c0 49)).alloc (.cells #[.slice (some ⟨w.heap.size, 0, none⟩) 0 n] 48)).heap.size = w.heap.size + 2 := by simp
  have old2 : ∀ i, i < w.heap.size → ((w.alloc (.cells c0 49)).alloc (.cells #[.slice (some ⟨w.heap.size, 0, none⟩) 0 n] 48)).heap[i]? = w.heap[i]? := fun i hi => (heap_alloc_old _ _ (by rw [z1]; omega)).trans (heap_alloc_old _ _ hi)
  have row2 : ((w.alloc (.cells c0 49)).alloc (.cells #[.slice (some ⟨w.heap.size, 0, none⟩) 0 n] 48)).heap[w.heap.size]? = some (.cells c0 49 (0, 0)) := (heap_alloc_old _ _ (by rw [z1]; omega)).trans (heap_alloc_new _ _)
  have box2 : ((w.alloc (.cells c0 49)).alloc (.cells #[.slice (some ⟨w.heap.size, 0, none⟩) 0 n] 48)).heap[w.heap.size + 1]? = some (.cells #[.slice (some ⟨w.heap.size, 0, none⟩) 0 n] 48 (0, 0)) := by rw [← z1]; exact heap_alloc_new _ _
  have bel2 : Below w.heap.size w ((w.alloc (.cells c0 49)).alloc (.cells #[.slice (some ⟨w.heap.size, 0, none⟩) 0 n] 48)) := ((Below.refl _ _).alloc (Nat.le_refl _) _).alloc (by rw [z1]; omega) _
  have htag2 : ((w.alloc (.cells c0 49)).alloc (.cells #[.slice (some ⟨w.heap.size, 0, none⟩) 0 n] 48)).cell? ⟨tb, to_, none⟩ = some (.map (some mb)) := by rw [bel2.cell htlt]; exact htag
  have hrg := run_range_map (P := Tryd.prog) ((w.alloc (.cells c0 49)).alloc (.cells #[.slice (some ⟨w.heap.size, 0, none⟩) 0 n] 48)) 39 49 22 mb xs clk hum ((old2 mb hmlt).trans hmap)
  rw [z2] at hrg
  go_enter Tryd.func40, Tryd.ntmps40
  go_wp2
  generalize hW2 : (w.alloc (.cells c0 49)).alloc (.cells #[.slice (some ⟨w.heap.size, 0, none⟩) 0 n] 48) = W2 at z2 old2 row2 box2 bel2 ⊢
  clear hrg htag2 hmk hlen
  go_loopw [5] (fun _ wr => Gather w mb n xs clk wr)
    (fun _ wr => toGo w xs wr)
  case atStart =>
    refine ⟨[], clk, c0, ?_, ?_, Nat.le_refl _, by simp, by simp, ?_, ?_, hc0, by simp, bel2.alloc (by rw [z2]; omega) _⟩
    · exact (heap_alloc_old _ _ (by rw [z2]; omega)).trans ((old2 mb hmlt).trans hmap)
    · rw [← z2]; exact heap_alloc_new _ _
    · exact (heap_alloc_old _ _ (by rw [z2]; omega)).trans box2
    · exact (heap_alloc_old _ _ (by rw [z2]; omega)).trans row2
  case round =>
    obtain ⟨done, c1, cur, r1, r2, r3, r4, r5, r6, r7, r8, r9, r10⟩ := hrel
    rcases run_next_at (P := Tryd.prog) wr 0 (w.heap.size + 2) mb clk c1 _ xs clk r2 r1 hold r3 with ⟨hz, hrun⟩ | ⟨e, he, w1, hal, hrun⟩
    · obtain ⟨hdn, dl, hdp, hdk⟩ := gathered hz r4 r5 hnd hks
      have hkl : ks.length = n := by have := hks.length_eq; simp at this; omega
      have hdn : done.length = n := by omega
      rw [hdn] at r6 r9
      rw [List.take_of_length_le (by simp; omega), hdk] at r9
      have hsort := sort_each h0 hbig hdp hso hkl r7 r9 r6 r10
      have cb : wr.cell? ⟨w.heap.size + 1, 0, none⟩ = some (.slice (some ⟨w.heap.size, 0, none⟩) n n) := by rw [cell_of_row _ _ _ _ _ _ r6]; rfl
      have hbx : ∀ w', Keys w n ks w' → w'.cell? ⟨w.heap.size + 1, 0, none⟩ = some (.slice (some ⟨w.heap.size, 0, none⟩) n n) := fun w' h => by rw [cell_of_row _ _ _ _ _ _ h.box]; rfl
      clear r1 r2 r3 r4 r5 r6 r7 r8 r9 r10 hz
      go_wp2_with (first | (go_at_call 46; refine hsort.mono ?_; rintro e w' ⟨rfl, hK⟩; have cb2 := hbx w' hK) | go_in)
      have hI0 := hst w' hK
      clear hsort hK cb cb2 hbx hst
      go_loopw [7, 39] (fun _ v39 wr2 => ∃ i : Nat, v39 = .int .i64 i ∧ i ≤ n ∧ Inv i wr2) (fun _ v39 _ => n - (numOf v39).toNat)
      case atStart => exact ⟨0, rfl, Nat.zero_le _, hI0⟩
      case round =>
        obtain ⟨i, rfl, hin, hI⟩ := hrel
        obtain ⟨g1, g3⟩ := hrd i wr hI
        by_cases hlt : i < n
        · have hk : ks[i]? = some (ks[i]'(by omega)) := by simp
          have hkm : ks[i]'(by omega) ∈ ks := List.getElem_mem _
          generalize ks[i]'(by omega) = k at hk hkm
          have ck : wr.cell? ⟨w.heap.size, i, none⟩ = some (.int .u32 k) := by rw [g3 i hlt, List.getElem?_map, hk]; rfl
          obtain ⟨v, hlk, hcl⟩ := hcall i k wr hI hk
          have hadd : IntKind.i64.wrap ((i : Int) + 1) = ((i + 1 : Nat) : Int) := by simp [IntKind.wrap, IntKind.signed, IntKind.bits]; omega
          have hc1 : ((i : Int) < (n : Int)) := by omega
          clear hI g3 hks hrd hcall
          go_wp2_with (first | (go_at_fn f; refine hcl.mono ?_; rintro e w3 ⟨rfl, hI3⟩) | go_in)
          exact ⟨⟨i + 1, by simp, by omega, hI3⟩, by simp [numOf]; omega⟩
        · obtain rfl : i = n := by omega
          clear g3 hks hrd hcall
          go_wp2
          go_end0
          exact ⟨rfl, hI⟩
    · obtain ⟨hem, hes⟩ := mem_left he
      obtain ⟨k, hkm, hk⟩ : ∃ k, k ∈ ks ∧ Value.int .u32 k = e.key := by
        have := hks.mem_iff.2 (List.mem_map.2 ⟨e, hem, rfl⟩)
        exact List.mem_map.1 this
      have hr1 : w1.heap[w.heap.size + 2]? = some (.mapIter (some mb) clk (done.map (·.born)).toArray c1) := by rcases hal with rfl | rfl <;> exact r2
      have hh : ∀ i : Nat, w1.heap[i]? = wr.heap[i]? := fun i => by rcases hal with rfl | rfl <;> rfl
      have hset := MapKept.heap_set (o' := .mapIter (some mb) clk ((done.map (·.born)).toArray.push e.born) clk) hr1
      have hbel2 : Below w.heap.size wr (setBlock w1 (w.heap.size + 2) (.mapIter (some mb) clk ((done.map (·.born)).toArray.push e.born) clk)) := by
        refine ⟨?_, ?_, ?_, ?_, fun i hi => (hset.2 i (by omega)).trans (hh i)⟩ <;> (rcases hal with rfl | rfl <;> first | rfl | simp [setBlock])
      have hsz2 : (setBlock w1 (w.heap.size + 2) (.mapIter (some mb) clk ((done.map (·.born)).toArray.push e.born) clk)).heap.size = wr.heap.size := by rcases hal with rfl | rfl <;> simp [setBlock]
      have hen := run_entry_at (P := Tryd.prog) (setBlock w1 (w.heap.size + 2) (.mapIter (some mb) clk ((done.map (·.born)).toArray.push e.born) clk)) (w.heap.size + 2) mb clk _ xs clk e hset.1 ((hset.2 mb (by omega)).trans ((hh mb).trans r1)) hem hnd
      obtain ⟨i1, i2⟩ := hset
      have i1 : (setBlock w1 (w.heap.size + 2) (.mapIter (some mb) clk ((done.map (·.born)).toArray.push e.born) clk)).heap[w.heap.size + 2]? = some (.mapIter (some mb) clk ((done.map (·.born)).toArray.push e.born) clk) := i1
      have i3 : ∀ i, i ≠ w.heap.size + 2 → (setBlock w1 (w.heap.size + 2) (.mapIter (some mb) clk ((done.map (·.born)).toArray.push e.born) clk)).heap[i]? = wr.heap[i]? := fun i hi => (i2 i hi).trans (hh i)
      generalize setBlock w1 (w.heap.size + 2) (.mapIter (some mb) clk ((done.map (·.born)).toArray.push e.born) clk) = w2 at hrun hbel2 hsz2 hen i1 i2 i3
      clear i2
      have hnew : e.born ∉ done.map (·.born) := fun hm => by
        have : (done.map (·.born)).toArray.contains e.born = true := by simpa using hm
        rw [this] at hes; cases hes
      have hnd2 : (done.map (·.born) ++ [e.born]).Nodup := List.nodup_append.2 ⟨r5, by simp, fun a ha b hb => by simp at hb; subst hb; exact fun e1 => hnew (e1 ▸ ha)⟩
      have hlt : done.length < n := by
        have := nodup_len _ (xs.toList.map (·.born)) hnd2 (fun x hx => by
          rw [List.mem_append] at hx
          rcases hx with hx | hx
          · obtain ⟨y, hy, rfl⟩ := List.mem_map.1 hx
            exact List.mem_map.2 ⟨y, r4 y hy, rfl⟩
          · simp at hx; subst hx; exact List.mem_map.2 ⟨e, hem, rfl⟩)
        simp at this; omega
      have hwr : w.heap.size + 3 ≤ wr.heap.size := by have := (Array.getElem?_eq_some_iff.1 r2).1; omega
      have c2 : w2.cell? ⟨w.heap.size + 1, 0, none⟩ = some (.slice (some ⟨w.heap.size, 0, none⟩) done.length n) := by
        rw [cell_of_row _ _ _ _ _ _ ((i3 (w.heap.size + 1) (by omega)).trans r6)]; rfl
      obtain ⟨key, val, born⟩ := e
      simp only at hk
      subst hk
      simp only at hrun hen hnew hnd2 i1
      have hW3 : ∀ i, i < w2.heap.size → (w2.alloc (.cells #[.int .u32 k] 49)).heap[i]? = w2.heap[i]? := fun i hi => heap_alloc_old _ _ hi
      have c3 : (w2.alloc (.cells #[.int .u32 k] 49)).cell? ⟨w2.heap.size, 0, none⟩ = some (.int .u32 k) := by
        rw [cell_of_row _ _ _ _ _ _ (heap_alloc_new w2 _)]; rfl
      have happ := app_key (W := w2.alloc (.cells #[.int .u32 k] 49)) (ty := 48) (blk := w.heap.size) (tmp := w2.heap.size) ((hW3 w.heap.size (by omega)).trans ((i3 w.heap.size (by omega)).trans r7)) r8 hlt hbig c3
      have hrow3 := (hW3 w.heap.size (by omega)).trans ((i3 w.heap.size (by omega)).trans r7)
      have hbel3 : Below w.heap.size w (w2.alloc (.cells #[.int .u32 k] 49)) := (r10.trans hbel2).alloc (by omega) _
      have hsz3 : (w2.alloc (.cells #[.int .u32 k] 49)).heap.size = w2.heap.size + 1 := by simp
      obtain ⟨W4, happ, p1, p2, p3⟩ : ∃ W4, (Builtin.append_ #[48, 48] 48 #[.slice (some ⟨w.heap.size, 0, none⟩) done.length n, .slice (some ⟨w2.heap.size, 0, none⟩) 1 1]).run P (w2.alloc (.cells #[.int .u32 k] 49)) = .ok (.slice (some ⟨w.heap.size, 0, none⟩) (done.length + 1) n) W4 ∧
          W4.heap[w.heap.size]? = some (.cells (cur.toList.take done.length ++ [Value.int .u32 k] ++ cur.toList.drop (done.length + 1)).toArray 49 (0, 0)) ∧ (∀ i, i ≠ w.heap.size → W4.heap[i]? = (w2.alloc (.cells #[.int .u32 k] 49)).heap[i]?) ∧ Below w.heap.size w W4 :=
        ⟨_, happ, setRow_heap _ _ _ _ _ _ hrow3, fun i hi => setRow_other _ _ _ _ hi, ⟨hbel3.os, hbel3.tape, hbel3.output, by rw [setRow_size]; exact hbel3.size, fun i hi => (setRow_other _ _ _ _ (by omega)).trans (hbel3.block i hi)⟩⟩
      have hbox4 : W4.heap[w.heap.size + 1]? = some (.cells #[.slice (some ⟨w.heap.size, 0, none⟩) done.length n] 48 (0, 0)) := (p2 (w.heap.size + 1) (by omega)).trans ((hW3 (w.heap.size + 1) (by omega)).trans ((i3 (w.heap.size + 1) (by omega)).trans r6))
      have hst4 := st_box (W := W4) (box := w.heap.size + 1) (v := .slice (some ⟨w.heap.size, 0, none⟩) (done.length + 1) n) hbox4 rfl
      obtain ⟨W5, hst5, q1, q2, q3⟩ : ∃ W5, (Instr.storeAt 48 (.pointer (some ⟨w.heap.size + 1, 0, none⟩)) (.slice (some ⟨w.heap.size, 0, none⟩) (done.length + 1) n)).run P W4 = .ok () W5 ∧
          W5.heap[w.heap.size + 1]? = some (.cells #[.slice (some ⟨w.heap.size, 0, none⟩) (done.length + 1) n] 48 (0, 0)) ∧ (∀ i, i ≠ w.heap.size + 1 → W5.heap[i]? = W4.heap[i]?) ∧ Below w.heap.size w W5 :=
        ⟨_, hst4, setRow_heap _ _ _ _ _ _ hbox4, fun i hi => setRow_other _ _ _ _ hi, ⟨p3.os, p3.tape, p3.output, by rw [setRow_size]; exact p3.size, fun i hi => (setRow_other _ _ _ _ (by omega)).trans (p3.block i hi)⟩⟩
      clear hst4
      have hiter : W5.heap[w.heap.size + 2]? = some (.mapIter (some mb) clk ((done.map (·.born)).toArray.push born) clk) := (q2 _ (by omega)).trans ((p2 _ (by omega)).trans ((hW3 _ (by omega)).trans i1))
      have hrel5 : Gather w mb n xs clk W5 := by
        refine ⟨done ++ [⟨.int .u32 k, val, born⟩], clk, _, (q2 mb (by omega)).trans ((p2 mb (by omega)).trans ((hW3 mb (by omega)).trans ((i3 mb (by omega)).trans r1))), by rw [hiter]; simp, Nat.le_refl _, ?_, by simpa using hnd2, by simpa using q1, (q2 _ (by omega)).trans p1, ?_, ?_, q3⟩
        · intro x hx
          rcases List.mem_append.1 hx with hx | hx
          · exact r4 x hx
          · simp at hx; subst hx; exact hem
        · simp; omega
        · simp only [List.length_append, List.length_cons, List.length_nil, List.map_append, List.map_cons, List.map_nil, Nat.zero_add]
          have hl : (cur.toList.take done.length).length = done.length := by simp; omega
          rw [List.append_assoc, List.take_append, hl, show done.length + 1 - done.length = 1 by omega, List.take_of_length_le (by omega), r9]
          rfl
      have hms : toGo w xs W5 < toGo w xs wr := by
        rw [toGo_at hiter, toGo_at r2]
        exact left_shrinks xs _ _ he
      clear hst hrd hcall hsz2 hsz3 hiter q1 q2 q3 p1 p2 p3 hbox4 hrow3 hbel3 i1 i3 r1 r2 r6 r7 hW3
      go_wp2_with (first | (at_builtin; refine wpList_app_run rfl _ _ 48 rfl rfl rfl happ ?_) | (refine wpList_store_run rfl 48 _ _ rfl rfl rfl hst5 ?_) | go_in)
end Go.Proofs.YtiifcfngbbhgoagDoor.Rd

namespace Go.Proofs.YtiifcfngbbhgoagDoor.Rd
open Go Go.RowKit Go.ChangeMaps Go.Proofs.YtiifcfngbbhgoagDoor.Ax
set_option maxRecDepth 100000
theorem nocE : noCount P = true := by kernel_rfl
section
variable {ρ : Nat → Value} {base : Nat} {μ μ' : List Ax.Loc} {H Hi H' : Heap} {w : World}
theorem CA.calls (hρ : ∀ j, (ρ j).oneCell' = true) {f : FuncId} {args : List AV} {v : AV} (h : CA P noS f args H (v, H')) {vs : List Value} (hr : HR P ρ base μ H w) (hv : VRs ρ μ args vs) : Calls P f vs.toArray w (Meets P ρ base μ w v H') := by
  obtain ⟨n, hn⟩ := h
  exact (run_sound hρ (noCount_iff nocE) noS_sound (drawA_sound hρ (noCount_iff nocE)) n).at_ (callWith_bodied rfl (hn n (Nat.le_refl _))) (hn n (Nat.le_refl _)) hr hv
theorem cell_at (hr : HR P ρ base μ H w) {b o : Nat} {ty : TypeId} {kn : Kn} {cs : List AV} {x : AV} {l : Ax.Loc} (hb : H[b]? = some (.cells ty kn cs)) (hx : cs[o]? = some x) (hl : μ[b]? = some l) : ∃ v, w.cell? ⟨l.b, o, none⟩ = some v ∧ VR ρ μ x v := by
  obtain ⟨cur, fz, h1, _, _, _, h5, _, h7⟩ := hr.live b ty kn cs l hb hl
  obtain ⟨v, hv, hvr⟩ := VRs.at h7 hx
  refine ⟨v, ?_, hvr⟩
  rw [cell_of_row _ _ _ _ _ _ h1]
  rw [List.getElem?_take] at hv
  split at hv
  · simpa using hv
  · cases hv
theorem map_keys {l : Ax.Loc} {es : List (Int × AV)} {xs : Array MapEntry} (h3 : xs.size = es.length) (h7 : ∀ (j : Nat) (x : MapEntry) (k : Int) (v : AV), xs.toList[j]? = some x → es[j]? = some (k, v) → x.key = .int .u32 k ∧ v.one = true ∧ VR ρ μ v x.val) :
    xs.toList.map (·.key) = (es.map (·.1)).map (Value.int .u32) := by
  apply List.ext_getElem?
  intro j
  simp only [List.getElem?_map]
  by_cases hj : j < es.length
  · have h1 : xs.toList[j]? = some (xs.toList[j]'(by simp; omega)) := by simp
    have h2 : es[j]? = some (es[j]) := by simp
    rw [h1, h2]
    simp only [Option.map_some]
    exact congrArg some (h7 j _ _ _ h1 (by rw [h2])).1
  · rw [List.getElem?_eq_none (by simp; omega), List.getElem?_eq_none (by omega)]; rfl
theorem map_val {es : List (Int × AV)} {xs : Array MapEntry} (h3 : xs.size = es.length) (hnd : (es.map (·.1)).Nodup) (h7 : ∀ (j : Nat) (x : MapEntry) (k : Int) (v : AV), xs.toList[j]? = some x → es[j]? = some (k, v) → x.key = .int .u32 k ∧ v.one = true ∧ VR ρ μ v x.val)
    {k : Int} {v : AV} (hm : (k, v) ∈ es) : ∃ u, (∀ x ∈ xs.toList, x.key = .int .u32 k → x.val = u) ∧ VR ρ μ v u := by
  obtain ⟨j, hj, hje⟩ := List.mem_iff_getElem.1 hm
  have h2 : es[j]? = some (k, v) := by rw [List.getElem?_eq_getElem hj, hje]
  have h1 : xs.toList[j]? = some (xs.toList[j]'(by simp; omega)) := by simp
  refine ⟨(xs.toList[j]'(by simp; omega)).val, fun x hx hk => ?_, (h7 j _ _ _ h1 h2).2.2⟩
  obtain ⟨i, hi, rfl⟩ := List.mem_iff_getElem.1 hx
  have hi' : i < es.length := by simp at hi; omega
  have := (h7 i _ (es[i]).1 (es[i]).2 (List.getElem?_eq_getElem hi) (List.getElem?_eq_getElem hi')).1
  rw [hk] at this
  simp at this
  have e1 : i = j := by
    have a1 : (es.map (·.1))[i]? = some k := by simp [hi', this]
    have a2 : (es.map (·.1))[j]? = some k := by rw [List.getElem?_map, h2]; rfl
    exact (List.getElem?_inj (by simpa using hi') hnd).1 (a1.trans a2.symm)
  subst e1
  rfl
theorem each_none {tb to_ : Nat} {xv fn : Value} {W : World} (hc : W.cell? ⟨tb, to_, none⟩ = some xv) (hl : (Builtin.len_ #[39] 3 #[xv]).run Tryd.prog W = .ok (.int .i64 0) W) :
    Calls Tryd.prog 40 #[.pointer (some ⟨tb, to_, none⟩), fn] W fun e w' => e = .returned (.tuple #[]) ∧ w' = W := by
  go_enter Tryd.func40, Tryd.ntmps40
  go_wp2
  (try simp only [Exit.inBlock, Exit.then]); refine bodyPost_ret (results_none rfl _ _ _) rfl ?_
  exact ⟨rfl, rfl⟩
theorem keys_start {W1 w1 : World} {n : Nat} {H1 : Heap} {μ1 : List Ax.Loc} {es' : List (Int × AV)} (hr1 : HR P ρ base μ1 H1 W1) (hn : es'.length = n) (hbig : n ≤ 1099511627776) (hK : Keys W1 n (es'.map (·.1)) w1) :
    HR P ρ base (μ1 ++ [⟨W1.heap.size, n, true⟩] ++ [⟨W1.heap.size + 1, 0, false⟩]) (H1 ++ [.cells 49 .row (es'.map fun e => .i .u32 e.1)] ++ [.cells 48 .vr [.sl H1.length 0 n]]) w1 := by
  have ha : HR P ρ base μ1 H1 w1 := hr1.aside hK.below.size fun i b l hi hb hl => by
    cases b with
    | cells ty kn cs => exact hK.below.block _ (hr1.live i ty kn cs l hi hl).lt
    | map kd es => exact hK.below.block _ (hr1.maps i kd es l hi hl).lt
    | dead => exact absurd rfl hb
  have hold : ∀ (i : Nat) (ty : TypeId) (kn : Kn) (cs : List AV) (l : Ax.Loc), H1[i]? = some (.cells ty kn cs) → μ1[i]? = some l → l.b < W1.heap.size := fun i ty kn cs l hi hl => (hr1.live i ty kn cs l hi hl).lt
  have hc1 : P.cellsOf 49 = 1 := by kernel_rfl
  have hb1 : base ≤ W1.heap.size := hr1.base_le
  have h2 := ha.adopt (kn := .row) rfl (cs := es'.map fun e => .i .u32 e.1) (by simp [AV.one]) hK.row hb1 (by simp) ⟨by simp, fun j x v hx hv => by
    rw [List.getElem?_map] at hx
    obtain ⟨e, he, rfl⟩ := Option.map_eq_some_iff.1 hx
    rw [List.getElem?_take] at hv
    split at hv
    · simp only [List.toList_toArray, List.getElem?_map, he, Option.map_some, Option.some.injEq] at hv
      subst hv; exact .i _ _
    · cases hv⟩ n (by rw [hc1]; simp [hn]) true (by simp) (fun i ty kn cs l hi _ hl => by have := hold i ty kn cs l hi hl; omega)
  have hloc : (μ1 ++ [⟨W1.heap.size, n, true⟩])[H1.length]? = some ⟨W1.heap.size, n, true⟩ := by rw [← hr1.len]; simp
  refine h2.adopt (kn := .vr) rfl (cs := [.sl H1.length 0 n]) (by simp [AV.one]) hK.box (by omega) (by simp) ?_ 0 (by simp) false (by simp) (fun i ty kn cs l hi _ hl => ?_)
  · simp only [List.length_cons, List.length_nil, Nat.zero_add]
    exact .cons (.sl hloc (Nat.le_refl _) (by unfold maxLen; omega) (fun _ _ => Nat.le_refl _)) .nil
  · rcases at_last hi with ⟨hlt, hi'⟩ | ⟨rfl, e⟩
    · have := hold i ty kn cs l hi' (loc_old hr1.len hlt hl); omega
    · obtain rfl := loc_last hr1.len hl
      simp
end
end Go.Proofs.YtiifcfngbbhgoagDoor.Rd

