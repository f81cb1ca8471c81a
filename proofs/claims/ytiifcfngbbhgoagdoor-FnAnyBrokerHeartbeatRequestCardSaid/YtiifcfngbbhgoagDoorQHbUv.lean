/-
  A NUMBER IN GROUPS put behind a row that was cut.
-/
import Derived.Test.YtiifcfngbbhgoagDoorQApUv
set_option linter.constructorNameAsVariable false
set_option linter.unusedVariables false
set_option linter.unusedSimpArgs false
namespace Go.Proofs.YtiifcfngbbhgoagDoor.Rd
open Go Go.Proofs.YtiifcfngbbhgoagDoor.Ax Go.Proofs.YtiifcfngbbhgoagDoor.Wire
set_option maxRecDepth 100000
set_option maxHeartbeats 1000000
def OutP (L0 : Nat) (H : Heap) (out : AV) (bs : B) : Prop := ∃ i cs, L0 ≤ i ∧ out = .sl i 0 bs.length ∧ H[i]? = some (.cells 5 .row cs) ∧ bs.length ≤ cs.length ∧ cs.take bs.length = u8s bs
theorem OutP.app {L0 : Nat} {H : Heap} {out : AV} {bs : B} (h : OutP L0 H out bs) (K : Heap) : OutP L0 (H ++ K) out bs := by
  obtain ⟨i, cs, h1, h2, h3, h4⟩ := h
  exact ⟨i, cs, h1, h2, (Grows.app H K).at h3, h4⟩
theorem OutP.shape {L0 : Nat} {H : Heap} {out : AV} {bs : B} (h : OutP L0 H out bs) : out = .s0 ∨ ∃ i n, out = .sl i 0 n := by
  obtain ⟨i, cs, h1, h2, _⟩ := h
  exact .inr ⟨i, _, h2⟩
theorem ap_bytesP {L0 : Nat} {H : Heap} {out x : AV} {bs new : B} {str : Bool} (hL : L0 ≤ H.length) (ho : OutP L0 H out bs) (hx : firstA H 1 x = some (new.length, u8s new)) (hb : bs.length + new.length ≤ 1099511627776) (h0 : 0 < new.length := by simp) :
    ∃ out' H', appendA P H 22 str out x = some (out', H') ∧ OutAt L0 H' out' (bs ++ new) ∧ WKeep L0 H H' := by
  have hz : (AV.i IntKind.u8 0).cells.all AV.one = true := rfl
  obtain ⟨i, cs, hi, rfl, hblk, hlc, htk⟩ := ho
  have hil := (List.getElem?_eq_some_iff.1 hblk).1
  refine ⟨.sl H.length 0 (bs.length + new.length), H.set i .dead ++ [.cells 5 .row (u8s bs ++ u8s new)], ?_, .inr ⟨H.length, hL, by simp, by simp [u8s_app], by simp; omega⟩, ⟨fun k hk => ?_, by simp⟩⟩
  · unfold appendA
    simp only [elemB, sizeU, bytesU, zeroU]
    rw [if_pos (by refine ⟨by omega, ?_, ?_, fun _ => ?_⟩ <;> first | rfl | trivial | exact ⟨rfl, rfl⟩)]
    simp only [hx, hblk]
    rw [if_pos (by refine ⟨?_, by omega, by omega, by omega⟩ <;> first | rfl | trivial)]
    rw [Nat.mul_one, htk]
    have hall : (u8s bs ++ u8s new).all AV.one = true := by rw [List.all_append, u8s_one, u8s_one]; rfl
    simp only [newBlk, hall, if_true, Option.map_some, List.length_set]
  · rw [List.getElem?_append_left (by simp; omega), List.getElem?_set, if_neg (by omega)]
section
variable {S : CallA} (E : Emp S)
include E
theorem uv1P {L0 : Nat} {H : Heap} {out : AV} {bs : B} {n : Int} {b0 : UInt8} (hL : L0 ≤ H.length) (ho : OutP L0 H out bs) (hb : bs.length + 1 ≤ 1099511627776) (cl : CA P S 39 [.i .u32 n] H (.i .i64 1, H))
    (c0 : convA P 49 5 (.i .u32 n) = some (U8 b0)) :
    ∃ out' H', CA P S 18 [out, .i .u32 n] H (out', H') ∧ OutAt L0 H' out' (bs ++ [b0]) ∧ WKeep L0 H H' ∧ OKeep H out H' out' := by
  have e5 : binA P .eql 3 true (.i .i64 1) (.i .i64 5) = some (.b false) := by kernel_rfl
  have e4 : binA P .eql 3 true (.i .i64 1) (.i .i64 4) = some (.b false) := by kernel_rfl
  have e3 : binA P .eql 3 true (.i .i64 1) (.i .i64 3) = some (.b false) := by kernel_rfl
  have e2 : binA P .eql 3 true (.i .i64 1) (.i .i64 2) = some (.b false) := by kernel_rfl
  have e1 : binA P .eql 3 true (.i .i64 1) (.i .i64 1) = some (.b true) := by kernel_rfl
  have hbl := build_1 H b0
  have hfi := first_new H 5 [b0] (by simp)
  obtain ⟨out', H', ha, h1, h2⟩ := ap_bytesP (str := false) (x := .sl H.length 0 1) (new := [b0]) (by simp; omega) (ho.app [.cells 5 .row (u8s [b0])]) hfi (by simpa using hb)
  have hk := app_keep ha (ho.app [.cells 5 .row (u8s [b0])]).shape hfi (.inl (by simp))
  refine ⟨out', H', ?_, h1, (WKeep.app L0 H _ hL).trans h2, hk.app⟩
  clear hk
  generalize H ++ [Blk.cells 5 Kn.row (u8s [b0])] = H1 at hbl ha
  refine CA.goS E (fn := Tryd.f18) (vs := [_]) (by kernel_rfl) rfl (.inr rfl) ?_
  apply Exists.intro
  apply And.intro
  · dsimp only [Tryd.f18]
    dsimp only [List.length_cons, List.length_nil, List.cons_append, List.nil_append, Nat.reduceSub, Nat.reduceAdd, List.replicate]
    refine RU.seq RU.rg ?_
    (apply RU.seqx; rotate_left; focus (simp))
    refine RU.seq RU.rg ?_
    apply RU.blockR
    refine RU.seq RU.rg ?_
    apply RU.condF rfl
    refine RU.seq RU.rg ?_
    apply RU.condF rfl
    refine RU.seq RU.rg ?_
    apply RU.condF rfl
    refine RU.seq RU.rg ?_
    apply RU.condF rfl
    refine RU.seq RU.rg ?_
    apply RU.condT rfl
    refine RU.seq RU.rg ?_
    exact RU.ret
  · rfl
theorem uv2P {L0 : Nat} {H : Heap} {out : AV} {bs : B} {n m1 x0 y0 : Int} {b0 b1 : UInt8} (hL : L0 ≤ H.length) (ho : OutP L0 H out bs) (hb : bs.length + 2 ≤ 1099511627776) (cl : CA P S 39 [.i .u32 n] H (.i .i64 2, H))
    (a0 : binA P .and 49 true (.i .u32 n) (.i .u32 127) = some (.i .u32 x0)) (o0 : binA P .or 49 true (.i .u32 x0) (.i .u32 128) = some (.i .u32 y0)) (c0 : convA P 49 5 (.i .u32 y0) = some (U8 b0))
    (s1 : binA P .shr 49 true (.i .u32 n) (.i .u64 7) = some (.i .u32 m1))
    (c1 : convA P 49 5 (.i .u32 m1) = some (U8 b1)) :
    ∃ out' H', CA P S 18 [out, .i .u32 n] H (out', H') ∧ OutAt L0 H' out' (bs ++ [b0, b1]) ∧ WKeep L0 H H' ∧ OKeep H out H' out' := by
  have e5 : binA P .eql 3 true (.i .i64 2) (.i .i64 5) = some (.b false) := by kernel_rfl
  have e4 : binA P .eql 3 true (.i .i64 2) (.i .i64 4) = some (.b false) := by kernel_rfl
  have e3 : binA P .eql 3 true (.i .i64 2) (.i .i64 3) = some (.b false) := by kernel_rfl
  have e2 : binA P .eql 3 true (.i .i64 2) (.i .i64 2) = some (.b true) := by kernel_rfl
  have hbl := build_2 H b0 b1
  have hfi := first_new H 5 [b0, b1] (by simp)
  obtain ⟨out', H', ha, h1, h2⟩ := ap_bytesP (str := false) (x := .sl H.length 0 2) (new := [b0, b1]) (by simp; omega) (ho.app [.cells 5 .row (u8s [b0, b1])]) hfi (by simpa using hb)
  have hk := app_keep ha (ho.app [.cells 5 .row (u8s [b0, b1])]).shape hfi (.inl (by simp))
  refine ⟨out', H', ?_, h1, (WKeep.app L0 H _ hL).trans h2, hk.app⟩
  clear hk
  generalize H ++ [Blk.cells 5 Kn.row (u8s [b0, b1])] = H1 at hbl ha
  refine CA.goS E (fn := Tryd.f18) (vs := [_]) (by kernel_rfl) rfl (.inr rfl) ?_
  apply Exists.intro
  apply And.intro
  · dsimp only [Tryd.f18]
    dsimp only [List.length_cons, List.length_nil, List.cons_append, List.nil_append, Nat.reduceSub, Nat.reduceAdd, List.replicate]
    refine RU.seq RU.rg ?_
    (apply RU.seqx; rotate_left; focus (simp))
    refine RU.seq RU.rg ?_
    apply RU.blockR
    refine RU.seq RU.rg ?_
    apply RU.condF rfl
    refine RU.seq RU.rg ?_
    apply RU.condF rfl
    refine RU.seq RU.rg ?_
    apply RU.condF rfl
    refine RU.seq RU.rg ?_
    apply RU.condT rfl
    refine RU.seq RU.rg ?_
    exact RU.ret
  · rfl
theorem ap_uvP {L0 : Nat} {H : Heap} {out : AV} {bs : B} {n : Nat} (hL : L0 ≤ H.length) (ho : OutP L0 H out bs) (hn : n < 16384) (hb : bs.length + (uv n).length ≤ 1099511627776) :
    ∃ out' H', CA P S 18 [out, .i .u32 (n : Nat)] H (out', H') ∧ OutAt L0 H' out' (bs ++ uv n) ∧ WKeep L0 H H' ∧ OKeep H out H' out' := by
  have cl := uvlen E (H := H) (n := n) (by omega)
  have sh7 : binA P .shr 49 true (.i .u32 (n : Nat)) (.i .u64 7) = some (.i .u32 ((n / 128 : Nat) : Int)) := by have := shr 49 .u32 true (n : Nat) 7 (by simp [IntKind.bits]); simpa using this
  by_cases h1 : n < 128
  · rw [uv_len1 (by omega)] at cl hb
    have e : uv n = [UInt8.ofNat (n)] := by
      rw [uv, dif_pos (by omega)]
    rw [e]
    exact uv1P E hL ho (by omega) cl (conv_y n)
  by_cases h2 : n < 16384
  · rw [uv_len2 (by omega) (by omega)] at cl hb
    have e : uv n = [UInt8.ofNat (n % 128 + 128), UInt8.ofNat (n / 128)] := by
      rw [uv, dif_neg (by omega)]
      congr 1
      rw [uv, dif_pos (by omega)]
    rw [e]
    exact uv2P E hL ho (by omega) cl (and127 _ _ n (by omega)) (or128 _ _ (n % 128) (by omega)) (conv_y (n % 128 + 128)) sh7 (conv_y (n / 128))
  omega
end
theorem uvP {L0 : Nat} {H : Heap} {out : AV} {bs : B} {n : Nat} (hL : L0 ≤ H.length) (ho : OutP L0 H out bs) (hn : n < 16384) (hb : bs.length ≤ 1000000) :
    ∃ out' H', CA P NS 18 [out, .i .u32 (n : Nat)] H (out', H') ∧ OutAt L0 H' out' (bs ++ uv n) ∧ WKeep L0 H H' := by
  obtain ⟨out', H', c, h1, h2, _⟩ := ap_uvP emp_ns hL ho hn (by have := uv_le (n := n) (by omega); omega)
  exact ⟨out', H', c, h1, h2⟩
end Go.Proofs.YtiifcfngbbhgoagDoor.Rd

