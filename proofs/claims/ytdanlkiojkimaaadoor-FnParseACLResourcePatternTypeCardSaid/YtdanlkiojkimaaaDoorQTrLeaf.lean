/-
  THE REFERENCE's SMALL FUNCTIONS: numbers written, parts of trees.
-/
import Derived.Test.YtdanlkiojkimaaaDoorQTrKit
import Derived.Test.YtdanlkiojkimaaaDoorQWireS
import Derived.Test.YtdanlkiojkimaaaDoorQApUv
set_option linter.constructorNameAsVariable false
set_option linter.unusedVariables false
set_option linter.unusedSimpArgs false
namespace Go.Proofs.YtdanlkiojkimaaaDoor.Rd
open Go Go.Proofs.YtdanlkiojkimaaaDoor.Ax Go.Proofs.YtdanlkiojkimaaaDoor.Wire
set_option maxRecDepth 100000
set_option maxHeartbeats 1000000
theorem uv_pos (n : Nat) : 0 < (uv n).length := by
  rw [uv]; split <;> simp
theorem push_x {L0 : Nat} {H : Heap} {out : AV} {bs : B} (b : UInt8) (hL : L0 ≤ H.length) (ho : OutAt L0 H out bs) (hb : bs.length + 1 ≤ 1099511627776) :
    ∃ sl H1 out' H', buildSliceA P H 22 1 [(0, U8 b)] = some (sl, H1) ∧ appendA P H1 22 false out sl = some (out', H') ∧ sl.isS = false ∧ OutAt L0 H' out' (bs ++ [b]) ∧ WKeep L0 H H' := by
  have hbl := build_1 H b
  have hfi := first_new H 5 [b] (by simp)
  obtain ⟨out', H', ha, h1, h2⟩ := ap_bytes (str := false) (x := .sl H.length 0 1) (new := [b]) (by simp; omega) (ho.app [.cells 5 .row (u8s [b])]) hfi (by simpa using hb)
  exact ⟨_, _, out', H', hbl, ha, rfl, h1, (WKeep.app L0 H _ hL).trans h2⟩
theorem OutAt.cells {L0 : Nat} {H : Heap} {out : AV} {bs : B} (h : OutAt L0 H out bs) : out.isS = false := by
  rcases h with ⟨rfl, _⟩ | ⟨i, _, rfl, _⟩ <;> rfl
theorem OutAt.wk {L0 : Nat} {H H' : Heap} {out : AV} {bs : B} (h : OutAt L0 H out bs) (k : Kp H H') : OutAt L0 H' out bs := by
  rcases h with h | ⟨i, h1, h2, h3, h4⟩
  · exact .inl h
  · exact .inr ⟨i, h1, h2, k.at_ h3, h4⟩
theorem OutAt.mono {L0 L1 : Nat} {H : Heap} {out : AV} {bs : B} (h : OutAt L0 H out bs) (hl : L1 ≤ L0) : OutAt L1 H out bs := by
  rcases h with h | ⟨i, h1, h2⟩
  · exact .inl h
  · exact .inr ⟨i, by omega, h2⟩
theorem Kp.wt {H H1 H2 : Heap} (h : Kp H H1) (k : WKeep H.length H1 H2) : Kp H H2 := ⟨Nat.le_trans h.1 k.len, fun i hi => by rw [k.at_ i (by omega), h.2 i hi]⟩
end Go.Proofs.YtdanlkiojkimaaaDoor.Rd

