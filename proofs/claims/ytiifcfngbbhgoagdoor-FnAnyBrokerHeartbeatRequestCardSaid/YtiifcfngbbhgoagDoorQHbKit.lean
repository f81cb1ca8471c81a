/-
  BrokerHeartbeatRequest: WHAT ITS PARTS LIE LIKE while tags are read: rows of parts of sixteen octets, the map of unknown tags, the struct's cells.
-/
import Derived.Test.YtiifcfngbbhgoagDoorQWireS
import Derived.Test.YtiifcfngbbhgoagDoorQRdUuid
import Derived.Test.YtiifcfngbbhgoagDoorQRdTags
import Derived.Test.YtiifcfngbbhgoagDoorQApUv
set_option linter.constructorNameAsVariable false
set_option linter.unusedVariables false
set_option linter.unusedSimpArgs false
namespace Go.Proofs.YtiifcfngbbhgoagDoor.Rd
open Go Go.Proofs.YtiifcfngbbhgoagDoor.Ax Go.Proofs.YtiifcfngbbhgoagDoor.Wire
set_option maxRecDepth 100000
set_option maxHeartbeats 1000000
abbrev tHB : TypeId := 43
abbrev tU16 : TypeId := 52
abbrev tUs : TypeId := 38
theorem elU : elemA P 38 = some 52 := by kernel_rfl
theorem zU16 : sizeA P 52 = some 16 := by kernel_rfl
theorem aU : aggA P 52 = some true := by kernel_rfl
theorem byU : bytesA P 52 = some 16 := by kernel_rfl
theorem zeroU16 : zeroA P 52 = some (.g (u8s (List.replicate 16 0))) := by kernel_rfl
theorem aUs : aggA P 38 = some false := by kernel_rfl
theorem zUs : sizeA P 38 = some 1 := by kernel_rfl
abbrev NX (X : List Nat) : Nat → Prop := fun i => i ∉ X
def KB (x : Nat) (H H' : Heap) : Prop := H.length ≤ H'.length ∧ ∀ (i : Nat) (b : Blk), i ≠ x → H[i]? = some b → H'[i]? = some b
theorem KB.trans {x : Nat} {H H' H'' : Heap} (h : KB x H H') (k : KB x H' H'') : KB x H H'' := ⟨Nat.le_trans h.1 k.1, fun i b n e => k.2 i b n (h.2 i b n e)⟩
theorem KB.refl (x : Nat) (H : Heap) : KB x H H := ⟨Nat.le_refl _, fun _ _ _ e => e⟩
theorem Kp.kb {H H' : Heap} (h : Kp H H') (x : Nat) : KB x H H' := ⟨h.1, fun i b _ e => h.at_ e⟩
def RowU (H : Heap) (i : Nat) (us : List B) : Prop := ∃ cs, H[i]? = some (.cells 52 .row cs) ∧ us.length * 16 ≤ cs.length ∧ cs.take (us.length * 16) = u8s us.flatten
theorem u8s_cat (a b : B) : u8s (a ++ b) = u8s a ++ u8s b := by simp [u8s]
theorem u8s_rep (n : Nat) : u8s (List.replicate n 0) = List.replicate n (U8 0) := by simp [u8s]
theorem zeros16 : ∀ n : Nat, zerosA (u8s (List.replicate 16 0)) n = u8s (List.replicate (16 * n) 0)
  | 0 => by simp [zerosA, u8s]
  | n + 1 => by
    show u8s (List.replicate 16 0) ++ zerosA (u8s (List.replicate 16 0)) n = _
    rw [zeros16 n, ← u8s_cat, List.replicate_append_replicate]
    congr 2; omega
theorem appZ {H : Heap} {a : AV} {l : Nat} (h0 : 0 < l) (hl : l ≤ 100000) (ha : (a = .s0 ∨ a = .sn) ∨ ∃ i, a = .sl i 0 0 ∧ RowU H i []) :
    ∃ H', appendZ P H 38 a (.i .i32 (l : Nat)) = some (.sl H.length 0 l, H') ∧ H'.length = H.length + 1 ∧ H'[H.length]? = some (.cells 52 .row (u8s (List.replicate (16 * l) 0))) ∧ (∀ (i : Nat) (b : Blk), a ≠ .sl i 0 0 → H[i]? = some b → H'[i]? = some b) := by
  have hz : (AV.g (u8s (List.replicate 16 0))).cells.length = 16 := by rw [show (AV.g (u8s (List.replicate 16 0))).cells = u8s (List.replicate 16 0) from rfl, u8s_length]; simp
  have h1 : (AV.g (u8s (List.replicate 16 0))).cells.all AV.one = true := u8s_one _
  have hzz : zerosA (AV.g (u8s (List.replicate 16 0))).cells l = u8s (List.replicate (16 * l) 0) := zeros16 l
  unfold appendZ
  simp only [elU, zU16, byU, zeroU16]
  rcases ha with (rfl | rfl) | ⟨i, rfl, cs, hi, hc, _⟩
  · simp only
    rw [if_pos ⟨by omega, hz, h1, by omega, by simp; omega, by omega⟩]
    simp only [Int.toNat_natCast, hzz, newBlk, u8s_one, if_true, Option.map_some]
    exact ⟨_, rfl, by simp, by simp, fun i b _ hb => by rw [List.getElem?_append_left (List.getElem?_eq_some_iff.1 hb).1]; exact hb⟩
  · simp only
    rw [if_pos ⟨by omega, hz, h1, by omega, by simp; omega, by omega⟩]
    simp only [Int.toNat_natCast, hzz, newBlk, u8s_one, if_true, Option.map_some]
    exact ⟨_, rfl, by simp, by simp, fun i b _ hb => by rw [List.getElem?_append_left (List.getElem?_eq_some_iff.1 hb).1]; exact hb⟩
  · have hil := (List.getElem?_eq_some_iff.1 hi).1
    simp only [hi]
    rw [if_pos ⟨by trivial, by omega, by omega, hz, h1, by omega, by simp; omega, by simp; omega⟩]
    simp only [Int.toNat_natCast, hzz, Nat.zero_mul, List.take_zero, List.nil_append, newBlk, u8s_one, if_true, Option.map_some, Nat.zero_add, List.length_set]
    refine ⟨_, rfl, by simp, by rw [← List.length_set (i := i) (a := Blk.dead), List.getElem?_concat_length], fun j b hne hb => ?_⟩
    have hj := (List.getElem?_eq_some_iff.1 hb).1
    have : i ≠ j := fun e => hne (by rw [e])
    rw [List.getElem?_append_left (by simpa using hj), List.getElem?_set_ne this]; exact hb
def RowZ (H : Heap) (i n : Nat) (us : List B) : Prop := ∃ cs, H[i]? = some (.cells 52 .row cs) ∧ cs.length = n * 16 ∧ cs.all AV.one = true ∧ cs.take (us.length * 16) = u8s us.flatten
theorem RowZ.row {H : Heap} {i n : Nat} {us : List B} (h : RowZ H i n us) (hn : us.length = n) : RowU H i us := by
  obtain ⟨cs, h1, h2, _, h4⟩ := h
  exact ⟨cs, h1, by rw [h2, hn]; omega, h4⟩
theorem RowZ.kb {H H' : Heap} {i n x : Nat} {us : List B} (h : RowZ H i n us) (k : KB x H H') (hx : i ≠ x) : RowZ H' i n us := by
  obtain ⟨cs, h1, h2⟩ := h
  exact ⟨cs, k.2 _ _ hx h1, h2⟩
theorem RowZ.put {H : Heap} {i n : Nat} {us : List B} (h : RowZ H i n us) (hn : us.length < n) (hu : All16 us) {u : B} (hl : u.length = 16) :
    ∃ H', storeA P H 52 (.p i (us.length * 16)) (.g (u8s u)) = some H' ∧ RowZ H' i n (us ++ [u]) ∧ KB i H H' := by
  obtain ⟨cs, h1, h2, h3, h4⟩ := h
  have hle : (us.length + 1) * 16 ≤ n * 16 := Nat.mul_le_mul_right _ hn
  have hfit : us.length * 16 + 16 ≤ cs.length := by omega
  have hu8 : (u8s u).length = 16 := by rw [u8s_length, hl]
  refine ⟨H.set i (.cells 52 .row (over cs (u8s u) (us.length * 16))), ?_, ?_, ?_⟩
  · simp only [storeA, h1, zU16]
    rw [if_pos ⟨rfl, hu8, hfit, u8s_one u⟩]; rfl
  · have hov : over cs (u8s u) (us.length * 16) = cs.take (us.length * 16) ++ u8s u ++ cs.drop (us.length * 16 + 16) := by simp [over, hu8]
    refine ⟨_, by rw [List.getElem?_set_self (List.getElem?_eq_some_iff.1 h1).1], ?_, ?_, ?_⟩
    · rw [hov]; simp [hu8]; omega
    · rw [hov, List.all_append, List.all_append, Bool.and_eq_true, Bool.and_eq_true]
      rw [List.all_eq_true] at h3
      exact ⟨⟨List.all_eq_true.2 fun x hx => h3 x (List.mem_of_mem_take hx), u8s_one u⟩, List.all_eq_true.2 fun x hx => h3 x (List.mem_of_mem_drop hx)⟩
    · rw [hov, h4, List.length_append, List.length_singleton, List.flatten_append, u8s_cat]
      have e : (us.length + 1) * 16 = (u8s us.flatten ++ u8s u).length := by
        rw [List.length_append, u8s_length, u8s_length, flat16 us hu, hl]; omega
      rw [e, List.take_left']
      · simp
      · rfl
  · exact ⟨by simp, fun j b hj hb => by rw [List.getElem?_set_ne (Ne.symm hj)]; exact hb⟩
theorem idxU {i l j : Nat} (h : j < l) : indexAddrA P 38 (.sl i 0 l) (.i .i32 (j : Nat)) = some (.p i (j * 16)) := by
  simp only [indexAddrA, elU, zU16]
  rw [if_pos ⟨by omega, by omega⟩]; simp
theorem idxU' {i l j : Nat} (h : j < l) : indexAddrA P 38 (.sl i 0 l) (.i .i64 (j : Nat)) = some (.p i (j * 16)) := by
  simp only [indexAddrA, elU, zU16]
  rw [if_pos ⟨by omega, by omega⟩]; simp
theorem ldc {H : Heap} {b o : Nat} {ty t : TypeId} {kn : Kn} {cs : List AV} {v : AV} (h : H[b]? = some (.cells ty kn cs)) (ha : aggA P t = some false) (hv : cs[o]? = some v) : loadA P H t (.p b o) = some v := by simp [loadA, loadAt, h, ha, hv]
theorem stc {H : Heap} {b o : Nat} {ty t : TypeId} {cs : List AV} {v : AV} (h : H[b]? = some (.cells ty .vr cs)) (hz : sizeA P t = some 1) (ho : o < cs.length) (hc : v.cells = [v]) (h1 : v.one = true) : storeA P H t (.p b o) v = some (H.set b (.cells ty .vr (over cs [v] o))) := by
  simp only [storeA, h, hz, hc]
  rw [if_pos ⟨rfl, rfl, by omega, by simp [h1]⟩]
theorem setC_new {H : Heap} {b o : Nat} {ty : TypeId} {cs : List AV} {k : Int} {v : AV} (h : H[b]? = some (.cells ty .vr cs)) (hm : cs[o]? = some .m0) (hf : fieldAddrA P 41 (.p b o) 0 = some (.p b o)) (h1 : v.one = true) :
    CA P NS 30 [.p b o, .i .u32 k, v] H (.t [], ((H ++ [Blk.map .u32 []]).set b (.cells ty .vr (over cs [.mp H.length] o))).set H.length (.map .u32 (putM k v []))) := by
  have hlt := (List.getElem?_eq_some_iff.1 h).1
  have hol := (List.getElem?_eq_some_iff.1 hm).1
  have l0 : loadA P H 39 (.p b o) = some .m0 := ldc h aggM hm
  have e0 := eqM0 true
  have e0' := eqM0 false
  have mk : makeMapA P H 39 = some (.mp H.length, H ++ [Blk.map .u32 []]) := by simp [makeMapA, keyM]
  have h2 : (H ++ [Blk.map .u32 []])[b]? = some (.cells ty .vr cs) := by rw [List.getElem?_append_left hlt]; exact h
  have s0 : storeA P (H ++ [Blk.map .u32 []]) 39 (.p b o) (.mp H.length) = _ := stc h2 sizeM hol rfl rfl
  have h3 : ((H ++ [Blk.map .u32 []]).set b (.cells ty .vr (over cs [.mp H.length] o)))[b]? = some (.cells ty .vr (over cs [.mp H.length] o)) := by rw [List.getElem?_set_self (by simp; omega)]
  have hov : (over cs [AV.mp H.length] o)[o]? = some (.mp H.length) := by
    simp only [over]
    rw [List.append_assoc, List.getElem?_append_right (by simp; omega)]
    simp; rw [Nat.min_eq_left (by omega)]; simp
  have l1 : loadA P ((H ++ [Blk.map .u32 []]).set b (.cells ty .vr (over cs [.mp H.length] o))) 39 (.p b o) = some (.mp H.length) := ldc h3 aggM hov
  have h4 : ((H ++ [Blk.map .u32 []]).set b (.cells ty .vr (over cs [.mp H.length] o)))[H.length]? = some (.map .u32 []) := by
    rw [List.getElem?_set_ne (by omega), List.getElem?_append_right (Nat.le_refl _)]; simp
  have m0 := msA h4 k h1
  generalize over cs [AV.mp H.length] o = cs2 at *
  refine CA.go (fn := Tryd.f30) (vs := []) (by kernel_rfl) rfl (.inl rfl) ?_
  apply Exists.intro
  apply And.intro
  · dsimp only [Tryd.f30]
    dsimp only [List.length_cons, List.length_nil, List.cons_append, List.nil_append, Nat.reduceSub, Nat.reduceAdd, List.replicate]
    refine RU.seq (RU.seq RU.rg (RU.condT rfl RU.rg)) ?_
    exact RU.rg
  · rfl
theorem setC_old {H : Heap} {b o m : Nat} {ty : TypeId} {kn : Kn} {cs : List AV} {k : Int} {v : AV} {es : List (Int × AV)} (h : H[b]? = some (.cells ty kn cs)) (hc : cs[o]? = some (.mp m)) (hf : fieldAddrA P 41 (.p b o) 0 = some (.p b o)) (hm : H[m]? = some (.map .u32 es)) (h1 : v.one = true) :
    CA P NS 30 [.p b o, .i .u32 k, v] H (.t [], H.set m (.map .u32 (putM k v es))) := by
  have l0 : loadA P H 39 (.p b o) = some (.mp m) := ldc h aggM hc
  have e0 := eqM1 true m
  have e0' := eqM1 false m
  have m0 := msA hm k h1
  refine CA.go (fn := Tryd.f30) (vs := []) (by kernel_rfl) rfl (.inl rfl) ?_
  apply Exists.intro
  apply And.intro
  · dsimp only [Tryd.f30]
    dsimp only [List.length_cons, List.length_nil, List.cons_append, List.nil_append, Nat.reduceSub, Nat.reduceAdd, List.replicate]
    refine RU.seq (RU.seq RU.rg (RU.condF rfl RU.skip)) ?_
    exact RU.rg
  · rfl
end Go.Proofs.YtiifcfngbbhgoagDoor.Rd

namespace Go.Proofs.YtiifcfngbbhgoagDoor.Rd
open Go Go.Proofs.YtiifcfngbbhgoagDoor.Ax Go.Proofs.YtiifcfngbbhgoagDoor.Wire
set_option maxRecDepth 100000
set_option maxHeartbeats 2000000
theorem exN : ∀ (n : Nat) (fr : List AV), fr.length = n → ∃ g : Nat → AV, fr = (List.range n).map g := fun n fr h => ⟨fun i => fr.getD i .u, by
  apply List.ext_getElem
  · simp [h]
  · intro i h1 h2
    simp [List.getD_eq_getElem?_getD, h1]⟩
theorem ex180 (fr : List AV) (h : fr.length = 180) : ∃ g : Nat → AV, fr = [g 0, g 1, g 2, g 3, g 4, g 5, g 6, g 7, g 8, g 9, g 10, g 11, g 12, g 13, g 14, g 15, g 16, g 17, g 18, g 19, g 20, g 21, g 22, g 23, g 24, g 25, g 26, g 27, g 28, g 29, g 30, g 31, g 32, g 33, g 34, g 35, g 36, g 37, g 38, g 39, g 40, g 41, g 42, g 43, g 44, g 45, g 46, g 47, g 48, g 49, g 50, g 51, g 52, g 53, g 54, g 55, g 56, g 57, g 58, g 59, g 60, g 61, g 62, g 63, g 64, g 65, g 66, g 67, g 68, g 69, g 70, g 71, g 72, g 73, g 74, g 75, g 76, g 77, g 78, g 79, g 80, g 81, g 82, g 83, g 84, g 85, g 86, g 87, g 88, g 89, g 90, g 91, g 92, g 93, g 94, g 95, g 96, g 97, g 98, g 99, g 100, g 101, g 102, g 103, g 104, g 105, g 106, g 107, g 108, g 109, g 110, g 111, g 112, g 113, g 114, g 115, g 116, g 117, g 118, g 119, g 120, g 121, g 122, g 123, g 124, g 125, g 126, g 127, g 128, g 129, g 130, g 131, g 132, g 133, g 134, g 135, g 136, g 137, g 138, g 139, g 140, g 141, g 142, g 143, g 144, g 145, g 146, g 147, g 148, g 149, g 150, g 151, g 152, g 153, g 154, g 155, g 156, g 157, g 158, g 159, g 160, g 161, g 162, g 163, g 164, g 165, g 166, g 167, g 168, g 169, g 170, g 171, g 172, g 173, g 174, g 175, g 176, g 177, g 178, g 179] := by
  obtain ⟨g, rfl⟩ := exN 180 fr h
  exact ⟨g, rfl⟩
theorem many16_snoc : ∀ (n : Nat) (bs : B), many16 (n + 1) bs = (many16 n bs).bind fun (us, r) => (cut 16 r).map fun (h, r) => (us ++ [h], r)
  | 0, bs => by
    simp only [many16, Option.bind_some, List.nil_append, Option.map_some]
    cases cut 16 bs <;> rfl
  | n + 1, bs => by
    have ih := many16_snoc n
    rw [many16]
    conv => rhs; rw [many16]
    cases hc : cut 16 bs with
    | none => rfl
    | some x =>
      simp only [Option.bind_some, ih]
      cases hm : many16 n x.2 with
      | none => rfl
      | some y =>
        simp only [Option.bind_some, Option.map_some]
        cases cut 16 y.2 <;> rfl
theorem lss32 (t : TypeId) (c : Bool) (a b : Int) : binA P .lss t c (.i .i32 a) (.i .i32 b) = some (.b (decide (a < b))) := by
  simp [binA, binOp, Op.intCmp, ofSem, ofV1]
  rfl
theorem gtr32i (t : TypeId) (c : Bool) (a b : Int) : binA P .gtr t c (.i .i32 a) (.i .i32 b) = some (.b (decide (a > b))) := by
  simp [binA, binOp, Op.intCmp, ofSem, ofV1]
  rfl
theorem add32i (t : TypeId) (c : Bool) (a b : Int) (h : -2147483648 ≤ a + b ∧ a + b ≤ 2147483647) : binA P .add t c (.i .i32 a) (.i .i32 b) = some (.i .i32 (a + b)) := by
  have e : binA P .add t c (.i .i32 a) (.i .i32 b) = some (.i .i32 (IntKind.i32.wrap (a + b))) := by
    simp [binA, binOp, Op.intArith, ofSem, ofV1]
    rfl
  rw [e]; congr 2; simp [IntKind.wrap, IntKind.signed, IntKind.bits]; omega
def loopsOf : Code → List Code
  | .seq a b => loopsOf a ++ loopsOf b
  | .cond _ a b => loopsOf a ++ loopsOf b
  | .block _ b => loopsOf b
  | .loop b => b :: loopsOf b
  | .scope b => loopsOf b
  | _ => []
def cd0 : List Code → Code
  | a :: _ => a
  | _ => .skip
def cd1 : List Code → Code
  | _ :: a :: _ => a
  | _ => .skip
def cd2 : List Code → Code
  | _ :: _ :: a :: _ => a
  | _ => .skip
noncomputable def hbLoops : List Code := loopsOf (Tryd.f14.body.getD .skip)
def RowB (H : Heap) (i n : Nat) : Prop := ∃ cs, H[i]? = some (.cells 52 .row cs) ∧ cs.length = n * 16 ∧ cs.all AV.one = true
theorem RowZ.b {H : Heap} {i n : Nat} {us : List B} (h : RowZ H i n us) : RowB H i n := by
  obtain ⟨cs, h1, h2, h3, _⟩ := h
  exact ⟨cs, h1, h2, h3⟩
theorem RowB.kb {H H' : Heap} {i n x : Nat} (h : RowB H i n) (k : KB x H H') (hx : i ≠ x) : RowB H' i n := by
  obtain ⟨cs, h1, h2⟩ := h
  exact ⟨cs, k.2 _ _ hx h1, h2⟩
theorem RowB.put {H : Heap} {i n j : Nat} (h : RowB H i n) (hn : j < n) {cv : List AV} (hl : cv.length = 16) (h1v : cv.all AV.one = true) :
    ∃ H', storeA P H 52 (.p i (j * 16)) (.g cv) = some H' ∧ RowB H' i n ∧ KB i H H' := by
  obtain ⟨cs, h1, h2, h3⟩ := h
  have hle : (j + 1) * 16 ≤ n * 16 := Nat.mul_le_mul_right _ hn
  refine ⟨H.set i (.cells 52 .row (over cs cv (j * 16))), ?_, ?_, ?_⟩
  · simp only [storeA, h1, zU16]
    rw [if_pos ⟨rfl, hl, by omega, h1v⟩]; rfl
  · have hov : over cs cv (j * 16) = cs.take (j * 16) ++ cv ++ cs.drop (j * 16 + 16) := by simp [over, hl]
    refine ⟨_, by rw [List.getElem?_set_self (List.getElem?_eq_some_iff.1 h1).1], ?_, ?_⟩
    · rw [hov]; simp [hl]; omega
    · rw [hov, List.all_append, List.all_append, Bool.and_eq_true, Bool.and_eq_true]
      rw [List.all_eq_true] at h3
      exact ⟨⟨List.all_eq_true.2 fun x hx => h3 x (List.mem_of_mem_take hx), h1v⟩, List.all_eq_true.2 fun x hx => h3 x (List.mem_of_mem_drop hx)⟩
  · exact ⟨by simp, fun j b hj hb => by rw [List.getElem?_set_ne (Ne.symm hj)]; exact hb⟩
theorem RowB.kp {H H' : Heap} {i n : Nat} (h : RowB H i n) (k : Kp H H') : RowB H' i n := by
  obtain ⟨cs, h1, h2⟩ := h
  exact ⟨cs, k.at_ h1, h2⟩
theorem RowZ.kp {H H' : Heap} {i n : Nat} {us : List B} (h : RowZ H i n us) (k : Kp H H') : RowZ H' i n us := by
  obtain ⟨cs, h1, h2⟩ := h
  exact ⟨cs, k.at_ h1, h2⟩
def LoopAt (A : Nat → Prop) (H : Heap) (rb j n i : Nat) (bs : B) : Prop :=
  (∃ us r, many16 i bs = some (us, r) ∧ RdAt A tR H rb true (some r) ∧ RowZ H j n us) ∨ (many16 i bs = none ∧ RdAt A tR H rb true none ∧ RowB H j n)
theorem uuids0 {A : Nat → Prop} {rb j n : Nat} {bs : B} (hn : n ≤ 100000) (hjr : j ≠ rb) (hjA : ¬ A j) {w0 w6 w7 w8 w9 w10 w16 w17 w19 : AV} {fr : List AV} {H : Heap} (R : Room A H rb) (hA : LoopAt A H rb j n 0 bs)
    (hfr : (fr.length = 180 ∧ fr[0]? = some (w0) ∧ fr[6]? = some (w6) ∧ fr[7]? = some (w7) ∧ fr[8]? = some (w8) ∧ fr[9]? = some (w9) ∧ fr[10]? = some (w10) ∧ fr[16]? = some (w16) ∧ fr[17]? = some (w17) ∧ fr[18]? = some (.p rb 0) ∧ fr[19]? = some (w19) ∧ fr[20]? = some (.sl j 0 n) ∧ fr[21]? = some (.i .i32 (n : Nat)) ∧ fr[22]? = some (.i .i32 (0 : Nat)))) :
    WP NS (.loop (cd1 hbLoops)) fr H (fun x fr' H' => x = .exit 3 ∧ (fr'.length = 180 ∧ fr'[0]? = some (w0) ∧ fr'[6]? = some (w6) ∧ fr'[7]? = some (w7) ∧ fr'[8]? = some (w8) ∧ fr'[9]? = some (w9) ∧ fr'[10]? = some (w10) ∧ fr'[16]? = some (w16) ∧ fr'[17]? = some (w17) ∧ fr'[18]? = some (.p rb 0) ∧ fr'[19]? = some (w19) ∧ fr'[20]? = some (.sl j 0 n) ∧ fr'[21]? = some (.i .i32 (n : Nat))) ∧ LoopAt A H' rb j n n bs ∧ Room A H' rb ∧ H.length ≤ H'.length ∧ ∀ (i : Nat) (b : Blk), i ≠ rb → i ≠ j → H[i]? = some b → H'[i]? = some b) := by
  dsimp only [hbLoops, Tryd.f14, Option.getD_some, loopsOf, List.cons_append, List.nil_append, cd1]
  refine WP.loop (Inv := fun i fr' H' => (fr'.length = 180 ∧ fr'[0]? = some (w0) ∧ fr'[6]? = some (w6) ∧ fr'[7]? = some (w7) ∧ fr'[8]? = some (w8) ∧ fr'[9]? = some (w9) ∧ fr'[10]? = some (w10) ∧ fr'[16]? = some (w16) ∧ fr'[17]? = some (w17) ∧ fr'[18]? = some (.p rb 0) ∧ fr'[19]? = some (w19) ∧ fr'[20]? = some (.sl j 0 n) ∧ fr'[21]? = some (.i .i32 (n : Nat)) ∧ fr'[22]? = some (.i .i32 (i : Nat))) ∧ LoopAt A H' rb j n i bs ∧ Room A H' rb ∧ H.length ≤ H'.length ∧ ∀ (i : Nat) (b : Blk), i ≠ rb → i ≠ j → H[i]? = some b → H'[i]? = some b) n ?_ n 0 fr H (by omega) ⟨hfr, hA, R, Nat.le_refl _, fun _ _ _ _ h => h⟩
  clear hfr hA R
  intro i fr H1 hi ⟨⟨hfl, hf0, hf6, hf7, hf8, hf9, hf10, hf16, hf17, hf18, hf19, hf20, hf21, hf22⟩, hA, R, hle, hkp⟩
  obtain ⟨g, rfl⟩ := ex180 _ hfl; replace hf0 : g 0 = _ := Option.some.inj hf0; replace hf6 : g 6 = _ := Option.some.inj hf6; replace hf7 : g 7 = _ := Option.some.inj hf7; replace hf8 : g 8 = _ := Option.some.inj hf8; replace hf9 : g 9 = _ := Option.some.inj hf9; replace hf10 : g 10 = _ := Option.some.inj hf10; replace hf16 : g 16 = _ := Option.some.inj hf16; replace hf17 : g 17 = _ := Option.some.inj hf17; replace hf18 : g 18 = _ := Option.some.inj hf18; replace hf19 : g 19 = _ := Option.some.inj hf19; replace hf20 : g 20 = _ := Option.some.inj hf20; replace hf21 : g 21 = _ := Option.some.inj hf21; replace hf22 : g 22 = _ := Option.some.inj hf22; rw [hf0, hf6, hf7, hf8, hf9, hf10, hf16, hf17, hf18, hf19, hf20, hf21, hf22]; clear hfl hf0 hf6 hf7 hf8 hf9 hf10 hf16 hf17 hf18 hf19 hf20 hf21 hf22
  have hlt := lss32 21 false (i : Nat) (n : Nat)
  by_cases hin : i < n
  rotate_left
  · obtain rfl : i = n := by omega
    replace hlt : binA P .lss 21 false (.i .i32 (i : Nat)) (.i .i32 (i : Nat)) = some (.b false) := by rw [hlt]; simp
    generalize ((i : Nat) : Int) = ii at hlt ⊢
    ((repeat with_reducible refine WP.seqs ?_); refine WP.rg ?_)
    ((repeat with_reducible refine WP.seqs ?_); first | refine WP.seq (WP.condF rfl ?_) | refine WP.condF rfl ?_)
    refine WP.exit ?_; repeat (first | with_reducible refine Sq.n ?_ | with_reducible refine Sq.ret ?_ | with_reducible refine Sq.exit ?_ | with_reducible refine Bk.n ?_ | with_reducible refine Bk.ret ?_ | with_reducible refine Bk.exit ?_ | with_reducible refine Bk.ex' (by decide) ?_ | with_reducible refine Lp.ret ?_ | with_reducible refine Lp.exit ?_ | with_reducible refine Lx.exit ?_)
    exact ⟨rfl, ⟨rfl, rfl, rfl, rfl, rfl, rfl, rfl, rfl, rfl, rfl, rfl, rfl, rfl⟩, hA, R, hle, hkp⟩
  replace hlt : binA P .lss 21 false (.i .i32 (i : Nat)) (.i .i32 (n : Nat)) = some (.b true) := by rw [hlt]; simp; omega
  have hst : ∃ st, RdAt A tR H1 rb true st ∧ RowB H1 j n ∧ ((st = none ∧ many16 i bs = none) ∨ ∃ us r, st = some r ∧ many16 i bs = some (us, r) ∧ RowZ H1 j n us) := by
    rcases hA with ⟨us, r, h1, h2, h3⟩ | ⟨h1, h2, h3⟩
    · exact ⟨some r, h2, h3.b, .inr ⟨us, r, rfl, h1, h3⟩⟩
    · exact ⟨none, h2, h3, .inl ⟨rfl, h1⟩⟩
  obtain ⟨st, hrd, hrow1, hst⟩ := hst
  obtain ⟨av, H2, st2, c2, hw, ho, hrd2, hle2, k2, m2⟩ := leaf_both (rdv_uuid true false) R hrd
  obtain ⟨cv, rfl⟩ : ∃ cv, av = .g cv := by
    cases av <;> first | exact ⟨_, rfl⟩ | (simp [AV.cells, K.wide] at hw)
  have hcl : cv.length = 16 := hw
  obtain ⟨b3, H3, H4, hal, hs4, k4, v4, hb3, k3, _, _⟩ := alloc_new (H := H2) (e := 52) (cs := cv) zeroU16 (u8s_one _) zU16 (by rw [u8s_length]; simp) hcl ho
  have hld4 : loadA P H4 52 (.p b3 0) = some (.g cv) := ldw v4 aU zU16 hcl
  have hix : indexAddrA P 38 (.sl j 0 n) (.i .i32 (i : Nat)) = some (.p j (i * 16)) := idxU hin
  have kB2 : KB rb H1 H2 := ⟨hle2, k2⟩
  have R2 : Room A H2 rb := R.keep ⟨hle2, fun q b a x => k2 q b (fun e => R.no (e ▸ a)) x⟩
  have R4 : Room A H4 rb := R2.keep ⟨k4.1, fun q b _ x => k4.at_ x⟩
  have hrd4 : RdAt A tR H4 rb true st2 := rdAt_kt hrd2 ⟨k4.1, fun q b a x => ⟨a, k4.at_ x⟩⟩ (by rw [k4.2 rb (rdAt_lt hrd2)])
  have hrow4 : RowB H4 j n := (hrow1.kb kB2 hjr).kp k4
  have hadd := add32i 21 true (i : Nat) 1 (by omega)
  rw [show ((i : Nat) : Int) + 1 = ((i + 1 : Nat) : Int) by omega] at hadd
  obtain ⟨H5, hs5, hA5, k5⟩ : ∃ H5, storeA P H4 52 (.p j (i * 16)) (.g cv) = some H5 ∧ LoopAt A H5 rb j n (i + 1) bs ∧ KB j H4 H5 := by
    obtain ⟨H5, q1, q2, q3⟩ := hrow4.put hin hcl ho
    refine ⟨H5, q1, ?_, q3⟩
    have hrd5 : RdAt A tR H5 rb true st2 := rdAt_kt hrd4 ⟨q3.1, fun q b a x => ⟨a, q3.2 q b (fun e => hjA (e ▸ a)) x⟩⟩ (by
      have hl := rdAt_lt hrd4
      have hx : H4[rb]? = some H4[rb] := by simp [hl]
      rw [hx, q3.2 _ _ (Ne.symm hjr) hx])
    rcases hst with ⟨rfl, hm⟩ | ⟨us, r, rfl, hm, hz⟩
    · have hm2 : st2 = none := m2
      subst hm2
      exact .inr ⟨by rw [many16_snoc, hm]; rfl, hrd5, q2⟩
    · have hul := (many16_len i hm).1
      have hu16 := (many16_len i hm).2.1
      simp only [Option.bind_some, decK] at m2
      cases hc : cut 16 r with
      | none =>
        rw [hc] at m2
        have hm2 : st2 = none := m2
        subst hm2
        exact .inr ⟨by rw [many16_snoc, hm]; simp [hc], hrd5, q2⟩
      | some x =>
        obtain ⟨u, r'⟩ := x
        rw [hc] at m2
        obtain ⟨rfl, hrep⟩ := m2
        have hcu : AV.g cv = .g (u8s u) := hrep
        cases hcu
        have hz4 : RowZ H4 j n us := (hz.kb kB2 hjr).kp k4
        obtain ⟨H5', p1, p2, _⟩ := hz4.put (by omega) hu16 (cut_len hc).1
        rw [hul] at p1
        have e5 : H5 = H5' := Option.some.inj (q1.symm.trans p1)
        rw [← e5] at p2
        exact .inl ⟨us ++ [u], r', by rw [many16_snoc, hm]; simp [hc], hrd5, p2⟩
  have R5 : Room A H5 rb := R4.keep ⟨k5.1, fun q b a x => k5.2 q b (fun e => hjA (e ▸ a)) x⟩
  generalize hj1 : ((i + 1 : Nat) : Int) = i1 at hadd
  generalize ((i : Nat) : Int) = ii at hlt hix hadd
  ((repeat with_reducible refine WP.seqs ?_); refine WP.rg ?_)
  ((repeat with_reducible refine WP.seqs ?_); first | refine WP.seq (WP.condT rfl ?_) | refine WP.condT rfl ?_)
  refine WP.skip ?_; repeat (first | with_reducible refine Sq.n ?_ | with_reducible refine Sq.ret ?_ | with_reducible refine Sq.exit ?_ | with_reducible refine Bk.n ?_ | with_reducible refine Bk.ret ?_ | with_reducible refine Bk.exit ?_ | with_reducible refine Bk.ex' (by decide) ?_ | with_reducible refine Lp.ret ?_ | with_reducible refine Lp.exit ?_ | with_reducible refine Lx.exit ?_)
  ((repeat with_reducible refine WP.seqs ?_); first | refine WP.seq (WP.block ?_) | refine WP.block ?_)
  ((repeat with_reducible refine WP.seqs ?_); refine WP.rg ?_)
  refine WP.re ?_; repeat (first | with_reducible refine Sq.n ?_ | with_reducible refine Sq.ret ?_ | with_reducible refine Sq.exit ?_ | with_reducible refine Bk.n ?_ | with_reducible refine Bk.ret ?_ | with_reducible refine Bk.exit ?_ | with_reducible refine Bk.ex' (by decide) ?_ | with_reducible refine Lp.ret ?_ | with_reducible refine Lp.exit ?_ | with_reducible refine Lx.exit ?_)
  refine WP.re ?_; repeat (first | with_reducible refine Sq.n ?_ | with_reducible refine Sq.ret ?_ | with_reducible refine Sq.exit ?_ | with_reducible refine Bk.n ?_ | with_reducible refine Bk.ret ?_ | with_reducible refine Bk.exit ?_ | with_reducible refine Bk.ex' (by decide) ?_ | with_reducible refine Lp.ret ?_ | with_reducible refine Lp.exit ?_ | with_reducible refine Lx.exit ?_)
  refine Lp.n ⟨hin, ⟨rfl, rfl, rfl, rfl, rfl, rfl, rfl, rfl, rfl, rfl, rfl, rfl, rfl, rfl⟩, hA5, R5, ?_, fun q b h1 h2 x => k5.2 q b h2 (k4.at_ (k2 q b h1 (hkp q b h1 h2 x)))⟩
  exact Nat.le_trans hle (Nat.le_trans hle2 (Nat.le_trans k4.1 k5.1))
theorem uuids1 {A : Nat → Prop} {rb j n : Nat} {bs : B} (hn : n ≤ 100000) (hjr : j ≠ rb) (hjA : ¬ A j) {w0 w6 w7 w8 w9 w10 w16 w17 w26 : AV} {fr : List AV} {H : Heap} (R : Room A H rb) (hA : LoopAt A H rb j n 0 bs)
    (hfr : (fr.length = 180 ∧ fr[0]? = some (w0) ∧ fr[6]? = some (w6) ∧ fr[7]? = some (w7) ∧ fr[8]? = some (w8) ∧ fr[9]? = some (w9) ∧ fr[10]? = some (w10) ∧ fr[16]? = some (w16) ∧ fr[17]? = some (w17) ∧ fr[25]? = some (.p rb 0) ∧ fr[26]? = some (w26) ∧ fr[27]? = some (.sl j 0 n) ∧ fr[28]? = some (.i .i32 (n : Nat)) ∧ fr[29]? = some (.i .i32 (0 : Nat)))) :
    WP NS (.loop (cd2 hbLoops)) fr H (fun x fr' H' => x = .exit 5 ∧ (fr'.length = 180 ∧ fr'[0]? = some (w0) ∧ fr'[6]? = some (w6) ∧ fr'[7]? = some (w7) ∧ fr'[8]? = some (w8) ∧ fr'[9]? = some (w9) ∧ fr'[10]? = some (w10) ∧ fr'[16]? = some (w16) ∧ fr'[17]? = some (w17) ∧ fr'[25]? = some (.p rb 0) ∧ fr'[26]? = some (w26) ∧ fr'[27]? = some (.sl j 0 n) ∧ fr'[28]? = some (.i .i32 (n : Nat))) ∧ LoopAt A H' rb j n n bs ∧ Room A H' rb ∧ H.length ≤ H'.length ∧ ∀ (i : Nat) (b : Blk), i ≠ rb → i ≠ j → H[i]? = some b → H'[i]? = some b) := by
  dsimp only [hbLoops, Tryd.f14, Option.getD_some, loopsOf, List.cons_append, List.nil_append, cd2]
  refine WP.loop (Inv := fun i fr' H' => (fr'.length = 180 ∧ fr'[0]? = some (w0) ∧ fr'[6]? = some (w6) ∧ fr'[7]? = some (w7) ∧ fr'[8]? = some (w8) ∧ fr'[9]? = some (w9) ∧ fr'[10]? = some (w10) ∧ fr'[16]? = some (w16) ∧ fr'[17]? = some (w17) ∧ fr'[25]? = some (.p rb 0) ∧ fr'[26]? = some (w26) ∧ fr'[27]? = some (.sl j 0 n) ∧ fr'[28]? = some (.i .i32 (n : Nat)) ∧ fr'[29]? = some (.i .i32 (i : Nat))) ∧ LoopAt A H' rb j n i bs ∧ Room A H' rb ∧ H.length ≤ H'.length ∧ ∀ (i : Nat) (b : Blk), i ≠ rb → i ≠ j → H[i]? = some b → H'[i]? = some b) n ?_ n 0 fr H (by omega) ⟨hfr, hA, R, Nat.le_refl _, fun _ _ _ _ h => h⟩
  clear hfr hA R
  intro i fr H1 hi ⟨⟨hfl, hf0, hf6, hf7, hf8, hf9, hf10, hf16, hf17, hf25, hf26, hf27, hf28, hf29⟩, hA, R, hle, hkp⟩
  obtain ⟨g, rfl⟩ := ex180 _ hfl; replace hf0 : g 0 = _ := Option.some.inj hf0; replace hf6 : g 6 = _ := Option.some.inj hf6; replace hf7 : g 7 = _ := Option.some.inj hf7; replace hf8 : g 8 = _ := Option.some.inj hf8; replace hf9 : g 9 = _ := Option.some.inj hf9; replace hf10 : g 10 = _ := Option.some.inj hf10; replace hf16 : g 16 = _ := Option.some.inj hf16; replace hf17 : g 17 = _ := Option.some.inj hf17; replace hf25 : g 25 = _ := Option.some.inj hf25; replace hf26 : g 26 = _ := Option.some.inj hf26; replace hf27 : g 27 = _ := Option.some.inj hf27; replace hf28 : g 28 = _ := Option.some.inj hf28; replace hf29 : g 29 = _ := Option.some.inj hf29; rw [hf0, hf6, hf7, hf8, hf9, hf10, hf16, hf17, hf25, hf26, hf27, hf28, hf29]; clear hfl hf0 hf6 hf7 hf8 hf9 hf10 hf16 hf17 hf25 hf26 hf27 hf28 hf29
  have hlt := lss32 21 false (i : Nat) (n : Nat)
  by_cases hin : i < n
  rotate_left
  · obtain rfl : i = n := by omega
    replace hlt : binA P .lss 21 false (.i .i32 (i : Nat)) (.i .i32 (i : Nat)) = some (.b false) := by rw [hlt]; simp
    generalize ((i : Nat) : Int) = ii at hlt ⊢
    ((repeat with_reducible refine WP.seqs ?_); refine WP.rg ?_)
    ((repeat with_reducible refine WP.seqs ?_); first | refine WP.seq (WP.condF rfl ?_) | refine WP.condF rfl ?_)
    refine WP.exit ?_; repeat (first | with_reducible refine Sq.n ?_ | with_reducible refine Sq.ret ?_ | with_reducible refine Sq.exit ?_ | with_reducible refine Bk.n ?_ | with_reducible refine Bk.ret ?_ | with_reducible refine Bk.exit ?_ | with_reducible refine Bk.ex' (by decide) ?_ | with_reducible refine Lp.ret ?_ | with_reducible refine Lp.exit ?_ | with_reducible refine Lx.exit ?_)
    exact ⟨rfl, ⟨rfl, rfl, rfl, rfl, rfl, rfl, rfl, rfl, rfl, rfl, rfl, rfl, rfl⟩, hA, R, hle, hkp⟩
  replace hlt : binA P .lss 21 false (.i .i32 (i : Nat)) (.i .i32 (n : Nat)) = some (.b true) := by rw [hlt]; simp; omega
  have hst : ∃ st, RdAt A tR H1 rb true st ∧ RowB H1 j n ∧ ((st = none ∧ many16 i bs = none) ∨ ∃ us r, st = some r ∧ many16 i bs = some (us, r) ∧ RowZ H1 j n us) := by
    rcases hA with ⟨us, r, h1, h2, h3⟩ | ⟨h1, h2, h3⟩
    · exact ⟨some r, h2, h3.b, .inr ⟨us, r, rfl, h1, h3⟩⟩
    · exact ⟨none, h2, h3, .inl ⟨rfl, h1⟩⟩
  obtain ⟨st, hrd, hrow1, hst⟩ := hst
  obtain ⟨av, H2, st2, c2, hw, ho, hrd2, hle2, k2, m2⟩ := leaf_both (rdv_uuid true false) R hrd
  obtain ⟨cv, rfl⟩ : ∃ cv, av = .g cv := by
    cases av <;> first | exact ⟨_, rfl⟩ | (simp [AV.cells, K.wide] at hw)
  have hcl : cv.length = 16 := hw
  obtain ⟨b3, H3, H4, hal, hs4, k4, v4, hb3, k3, _, _⟩ := alloc_new (H := H2) (e := 52) (cs := cv) zeroU16 (u8s_one _) zU16 (by rw [u8s_length]; simp) hcl ho
  have hld4 : loadA P H4 52 (.p b3 0) = some (.g cv) := ldw v4 aU zU16 hcl
  have hix : indexAddrA P 38 (.sl j 0 n) (.i .i32 (i : Nat)) = some (.p j (i * 16)) := idxU hin
  have kB2 : KB rb H1 H2 := ⟨hle2, k2⟩
  have R2 : Room A H2 rb := R.keep ⟨hle2, fun q b a x => k2 q b (fun e => R.no (e ▸ a)) x⟩
  have R4 : Room A H4 rb := R2.keep ⟨k4.1, fun q b _ x => k4.at_ x⟩
  have hrd4 : RdAt A tR H4 rb true st2 := rdAt_kt hrd2 ⟨k4.1, fun q b a x => ⟨a, k4.at_ x⟩⟩ (by rw [k4.2 rb (rdAt_lt hrd2)])
  have hrow4 : RowB H4 j n := (hrow1.kb kB2 hjr).kp k4
  have hadd := add32i 21 true (i : Nat) 1 (by omega)
  rw [show ((i : Nat) : Int) + 1 = ((i + 1 : Nat) : Int) by omega] at hadd
  obtain ⟨H5, hs5, hA5, k5⟩ : ∃ H5, storeA P H4 52 (.p j (i * 16)) (.g cv) = some H5 ∧ LoopAt A H5 rb j n (i + 1) bs ∧ KB j H4 H5 := by
    obtain ⟨H5, q1, q2, q3⟩ := hrow4.put hin hcl ho
    refine ⟨H5, q1, ?_, q3⟩
    have hrd5 : RdAt A tR H5 rb true st2 := rdAt_kt hrd4 ⟨q3.1, fun q b a x => ⟨a, q3.2 q b (fun e => hjA (e ▸ a)) x⟩⟩ (by
      have hl := rdAt_lt hrd4
      have hx : H4[rb]? = some H4[rb] := by simp [hl]
      rw [hx, q3.2 _ _ (Ne.symm hjr) hx])
    rcases hst with ⟨rfl, hm⟩ | ⟨us, r, rfl, hm, hz⟩
    · have hm2 : st2 = none := m2
      subst hm2
      exact .inr ⟨by rw [many16_snoc, hm]; rfl, hrd5, q2⟩
    · have hul := (many16_len i hm).1
      have hu16 := (many16_len i hm).2.1
      simp only [Option.bind_some, decK] at m2
      cases hc : cut 16 r with
      | none =>
        rw [hc] at m2
        have hm2 : st2 = none := m2
        subst hm2
        exact .inr ⟨by rw [many16_snoc, hm]; simp [hc], hrd5, q2⟩
      | some x =>
        obtain ⟨u, r'⟩ := x
        rw [hc] at m2
        obtain ⟨rfl, hrep⟩ := m2
        have hcu : AV.g cv = .g (u8s u) := hrep
        cases hcu
        have hz4 : RowZ H4 j n us := (hz.kb kB2 hjr).kp k4
        obtain ⟨H5', p1, p2, _⟩ := hz4.put (by omega) hu16 (cut_len hc).1
        rw [hul] at p1
        have e5 : H5 = H5' := Option.some.inj (q1.symm.trans p1)
        rw [← e5] at p2
        exact .inl ⟨us ++ [u], r', by rw [many16_snoc, hm]; simp [hc], hrd5, p2⟩
  have R5 : Room A H5 rb := R4.keep ⟨k5.1, fun q b a x => k5.2 q b (fun e => hjA (e ▸ a)) x⟩
  generalize hj1 : ((i + 1 : Nat) : Int) = i1 at hadd
  generalize ((i : Nat) : Int) = ii at hlt hix hadd
  ((repeat with_reducible refine WP.seqs ?_); refine WP.rg ?_)
  ((repeat with_reducible refine WP.seqs ?_); first | refine WP.seq (WP.condT rfl ?_) | refine WP.condT rfl ?_)
  refine WP.skip ?_; repeat (first | with_reducible refine Sq.n ?_ | with_reducible refine Sq.ret ?_ | with_reducible refine Sq.exit ?_ | with_reducible refine Bk.n ?_ | with_reducible refine Bk.ret ?_ | with_reducible refine Bk.exit ?_ | with_reducible refine Bk.ex' (by decide) ?_ | with_reducible refine Lp.ret ?_ | with_reducible refine Lp.exit ?_ | with_reducible refine Lx.exit ?_)
  ((repeat with_reducible refine WP.seqs ?_); first | refine WP.seq (WP.block ?_) | refine WP.block ?_)
  ((repeat with_reducible refine WP.seqs ?_); refine WP.rg ?_)
  refine WP.re ?_; repeat (first | with_reducible refine Sq.n ?_ | with_reducible refine Sq.ret ?_ | with_reducible refine Sq.exit ?_ | with_reducible refine Bk.n ?_ | with_reducible refine Bk.ret ?_ | with_reducible refine Bk.exit ?_ | with_reducible refine Bk.ex' (by decide) ?_ | with_reducible refine Lp.ret ?_ | with_reducible refine Lp.exit ?_ | with_reducible refine Lx.exit ?_)
  refine WP.re ?_; repeat (first | with_reducible refine Sq.n ?_ | with_reducible refine Sq.ret ?_ | with_reducible refine Sq.exit ?_ | with_reducible refine Bk.n ?_ | with_reducible refine Bk.ret ?_ | with_reducible refine Bk.exit ?_ | with_reducible refine Bk.ex' (by decide) ?_ | with_reducible refine Lp.ret ?_ | with_reducible refine Lp.exit ?_ | with_reducible refine Lx.exit ?_)
  refine Lp.n ⟨hin, ⟨rfl, rfl, rfl, rfl, rfl, rfl, rfl, rfl, rfl, rfl, rfl, rfl, rfl, rfl⟩, hA5, R5, ?_, fun q b h1 h2 x => k5.2 q b h2 (k4.at_ (k2 q b h1 (hkp q b h1 h2 x)))⟩
  exact Nat.le_trans hle (Nat.le_trans hle2 (Nat.le_trans k4.1 k5.1))
end Go.Proofs.YtiifcfngbbhgoagDoor.Rd

