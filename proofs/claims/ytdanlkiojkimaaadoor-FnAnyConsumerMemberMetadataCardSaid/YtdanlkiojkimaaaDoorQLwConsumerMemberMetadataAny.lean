/-
  THE LAW FnAnyConsumerMemberMetadata: its run in the abstract machine ends with true.
-/
import Derived.Test.YtdanlkiojkimaaaDoorQLwConsumerMemberMetadata
import Derived.Test.YtdanlkiojkimaaaDoorQLwSpConsumerMemberMetadata
import Derived.Test.YtdanlkiojkimaaaDoorQLwKept
import Derived.Test.YtdanlkiojkimaaaDoorQLwSame
set_option linter.constructorNameAsVariable false
set_option linter.unusedVariables false
set_option linter.unusedSimpArgs false
namespace Go.Proofs.YtdanlkiojkimaaaDoor.Rd.mConsumerMemberMetadata
open Go Go.Proofs.YtdanlkiojkimaaaDoor.Ax Go.Proofs.YtdanlkiojkimaaaDoor.Wire Go.Proofs.YtdanlkiojkimaaaDoor.Rd
set_option maxRecDepth 100000
set_option maxHeartbeats 2000000
theorem can0 : ∃ x r, dec false (nodes (plOf (-32768) 0 false)) (keptB 0 false fd_ConsumerMemberMetadata .zero) = some (x, r) := by
  have h : (dec false (nodes (plOf (-32768) 0 false)) (keptB 0 false fd_ConsumerMemberMetadata .zero)).isSome = true := by kernel_rfl
  obtain ⟨⟨x, r⟩, h⟩ := Option.isSome_iff_exists.1 h
  exact ⟨x, r, h⟩
theorem fl0 : flexAt (-1) 0 = false := by decide +kernel
theorem versA : ∀ v : Int, -32768 ≤ v ∧ v ≤ 32767 → ∃ (lo hi : Int) (fl : Bool) (f : F), VerIn lo hi fl f ∧ lo ≤ v ∧ v ≤ hi := by
  intro v hv
  by_cases h0 : v ≤ 0
  · exact ⟨_, _, _, _, ver_m32768, by omega, by omega⟩
  by_cases h1 : v ≤ 1
  · exact ⟨_, _, _, _, ver_1, by omega, by omega⟩
  by_cases h2 : v ≤ 2
  · exact ⟨_, _, _, _, ver_2, by omega, by omega⟩
  exact ⟨_, _, _, _, ver_3, by omega, by omega⟩
theorem law_x {H : Heap} {rb0 : Nat} {data : AV} {bs : B} (G : Globs H rb0) (hb : BytesAt (fun i => i < H.length) H data bs) : ∃ H', CA P NS 4 [data] H (.b true, H') := by
  have key : ∃ v H', CA P NS 4 [data] H (v, H') ∧ v = .b true := by
    have hl := hb.len bty
    by_cases h1 : (2147483647 : Int) < (bs.length : Nat)
    · have g1 := gtrT _ _ h1
      refine CA.wp (fn := Tryd.f4) (R := fun v _ => v = .b true) (by kernel_rfl) rfl ?_
      dsimp only [Tryd.f4]
      dsimp only [List.length_cons, List.length_nil, List.cons_append, List.nil_append, Nat.reduceSub, Nat.reduceAdd, List.replicate]
      ((repeat with_reducible refine WP.seqs ?_); refine WP.rg ?_)
      ((repeat with_reducible refine WP.seqs ?_); refine WP.rg ?_)
      ((repeat with_reducible refine WP.seqs ?_); first | refine WP.seq (WP.condT rfl ?_) | refine WP.condT rfl ?_)
      ((repeat with_reducible refine WP.seqs ?_); refine WP.rg ?_)
      refine WP.ret ?_; repeat (first | with_reducible refine Sq.n ?_ | with_reducible refine Sq.ret ?_ | with_reducible refine Sq.exit ?_ | with_reducible refine Bk.n ?_ | with_reducible refine Bk.ret ?_ | with_reducible refine Bk.exit ?_ | with_reducible refine Bk.ex' (by decide) ?_ | with_reducible refine Lp.ret ?_ | with_reducible refine Lp.exit ?_ | with_reducible refine Lx.exit ?_)
      exact Fe.r1 rfl rfl
    have g1 := gtrI _ _ h1
    by_cases h2 : (1000 : Int) < (bs.length : Nat)
    · have g2 := gtrT _ _ h2
      refine CA.wp (fn := Tryd.f4) (R := fun v _ => v = .b true) (by kernel_rfl) rfl ?_
      dsimp only [Tryd.f4]
      dsimp only [List.length_cons, List.length_nil, List.cons_append, List.nil_append, Nat.reduceSub, Nat.reduceAdd, List.replicate]
      ((repeat with_reducible refine WP.seqs ?_); refine WP.rg ?_)
      ((repeat with_reducible refine WP.seqs ?_); refine WP.rg ?_)
      ((repeat with_reducible refine WP.seqs ?_); first | refine WP.seq (WP.condF rfl ?_) | refine WP.condF rfl ?_)
      refine WP.skip ?_; repeat (first | with_reducible refine Sq.n ?_ | with_reducible refine Sq.ret ?_ | with_reducible refine Sq.exit ?_ | with_reducible refine Bk.n ?_ | with_reducible refine Bk.ret ?_ | with_reducible refine Bk.exit ?_ | with_reducible refine Bk.ex' (by decide) ?_ | with_reducible refine Lp.ret ?_ | with_reducible refine Lp.exit ?_ | with_reducible refine Lx.exit ?_)
      ((repeat with_reducible refine WP.seqs ?_); refine WP.rg ?_)
      ((repeat with_reducible refine WP.seqs ?_); first | refine WP.seq (WP.condT rfl ?_) | refine WP.condT rfl ?_)
      ((repeat with_reducible refine WP.seqs ?_); refine WP.rg ?_)
      refine WP.ret ?_; repeat (first | with_reducible refine Sq.n ?_ | with_reducible refine Sq.ret ?_ | with_reducible refine Sq.exit ?_ | with_reducible refine Bk.n ?_ | with_reducible refine Bk.ret ?_ | with_reducible refine Bk.exit ?_ | with_reducible refine Bk.ex' (by decide) ?_ | with_reducible refine Lp.ret ?_ | with_reducible refine Lp.exit ?_ | with_reducible refine Lx.exit ?_)
      exact Fe.r1 rfl rfl
    have g2 := gtrI _ _ h2
    obtain ⟨wv, H4, hsp, ⟨i, rfl, hfd⟩, k4⟩ := sp_ConsumerMemberMetadata H
    obtain ⟨x0, r0, hdec⟩ := can0
    have hver := ver_m32768
    have hle := partS_le 0 (flexAt (-1) 0) fd_ConsumerMemberMetadata Tr.Fine.zero
    have hcost := sp_cost
    have hlen : (keptB 0 (flexAt (-1) 0) fd_ConsumerMemberMetadata .zero).length ≤ 1099511627000 / 2 := by
      rw [keptB_len]
      have hz : Tr.bulk .zero ≤ 1048576 := by decide +kernel
      have : (fd_ConsumerMemberMetadata.cost + 15) * Tr.bulk .zero ≤ 100015 * 1048576 := Nat.mul_le_mul (by omega) hz
      omega
    obtain ⟨out, H5, hwr, ho, k5⟩ := kept_x (fx := (-1)) (ver := 0) hfd sp_plain sp_len (TrAt.zero _) Tr.Fine.zero (by omega) (by omega)
    have hvk := verOf_kept (flex := flexAt (-1) 0) (fd := fd_ConsumerMemberMetadata) (t := .zero) (show 0 < 32768 by omega)
    rw [fl0] at ho hvk hlen
    have k05 := k4.trans k5
    have G5 := G.keep k05.1 (fun i b hi hb => k05.at_ hb)
    obtain ⟨_, _, hagain⟩ := hver
    obtain ⟨_, hgood⟩ := hagain G5 (BytesAt.dat ho.below) (by omega) (by omega) (by omega)
    obtain ⟨out2, H6, hag, ho2, l6, q6⟩ := hgood _ _ hdec
    have k56 : Kp H5 H6 := ⟨l6, fun i hi => by
      have h1 : H5[i]? = some H5[i] := by simp [hi]
      rw [h1]; exact q6 i _ hi h1⟩
    have k06 := k05.trans k56
    have G6 := G.keep k06.1 (fun i b hi hb => k06.at_ hb)
    have hb6 := k06.bytes hb
    obtain ⟨lo2, hi2, fl, f2, hver2, hlo2, hhi2⟩ := versA (verOf bs) (verOf_in bs)
    obtain ⟨good, ⟨gf, rfl⟩, again⟩ := hver2
    obtain ⟨a1, a2⟩ := again G6 (BytesAt.dat hb6) (by omega) hlo2 hhi2
    have hwr : CA P NS 10 [.g [.sl i 0 5, .i .i64 (-1)], .i .i64 0, .g [.i .i64 0, .s0, .b false, .s0, .s0]] H4 (out, H5) := hwr
    have hbd : buildA P 26 [] = some (.g [.i .i64 0, .s0, .b false, .s0, .s0]) := by kernel_rfl
    cases hd : dec fl (.leaf 0 .i16 false gf) bs with
    | none =>
      obtain ⟨H7, c1⟩ := a1 hd
      refine CA.wp (fn := Tryd.f4) (R := fun v _ => v = .b true) (by kernel_rfl) rfl ?_
      dsimp only [Tryd.f4]
      dsimp only [List.length_cons, List.length_nil, List.cons_append, List.nil_append, Nat.reduceSub, Nat.reduceAdd, List.replicate]
      ((repeat with_reducible refine WP.seqs ?_); refine WP.rg ?_)
      ((repeat with_reducible refine WP.seqs ?_); refine WP.rg ?_)
      ((repeat with_reducible refine WP.seqs ?_); first | refine WP.seq (WP.condF rfl ?_) | refine WP.condF rfl ?_)
      refine WP.skip ?_; repeat (first | with_reducible refine Sq.n ?_ | with_reducible refine Sq.ret ?_ | with_reducible refine Sq.exit ?_ | with_reducible refine Bk.n ?_ | with_reducible refine Bk.ret ?_ | with_reducible refine Bk.exit ?_ | with_reducible refine Bk.ex' (by decide) ?_ | with_reducible refine Lp.ret ?_ | with_reducible refine Lp.exit ?_ | with_reducible refine Lx.exit ?_)
      ((repeat with_reducible refine WP.seqs ?_); refine WP.rg ?_)
      ((repeat with_reducible refine WP.seqs ?_); first | refine WP.seq (WP.condF rfl ?_) | refine WP.condF rfl ?_)
      refine WP.skip ?_; repeat (first | with_reducible refine Sq.n ?_ | with_reducible refine Sq.ret ?_ | with_reducible refine Sq.exit ?_ | with_reducible refine Bk.n ?_ | with_reducible refine Bk.ret ?_ | with_reducible refine Bk.exit ?_ | with_reducible refine Bk.ex' (by decide) ?_ | with_reducible refine Lp.ret ?_ | with_reducible refine Lp.exit ?_ | with_reducible refine Lx.exit ?_)
      ((repeat with_reducible refine WP.seqs ?_); refine WP.rg ?_)
      ((repeat with_reducible refine WP.seqs ?_); refine WP.rg ?_)
      ((repeat with_reducible refine WP.seqs ?_); refine WP.rg ?_)
      ((repeat with_reducible refine WP.seqs ?_); first | refine WP.seq (WP.condT rfl ?_) | refine WP.condT rfl ?_)
      ((repeat with_reducible refine WP.seqs ?_); refine WP.rg ?_)
      refine WP.ret ?_; repeat (first | with_reducible refine Sq.n ?_ | with_reducible refine Sq.ret ?_ | with_reducible refine Sq.exit ?_ | with_reducible refine Bk.n ?_ | with_reducible refine Bk.ret ?_ | with_reducible refine Bk.exit ?_ | with_reducible refine Bk.ex' (by decide) ?_ | with_reducible refine Lp.ret ?_ | with_reducible refine Lp.exit ?_ | with_reducible refine Lx.exit ?_)
      exact Fe.r1 rfl rfl
    | some p =>
      obtain ⟨x, r⟩ := p
      obtain ⟨a, H7, c1, o1, l1, q1⟩ := a2 x r hd
      have hle2 := dec_len hd
      have hve := verOf_enc hd
      have hde := dec_enc good (dec_ok hd) []
      rw [List.append_nil] at hde
      obtain ⟨_, b2⟩ := again (G6.keep l1 q1) (BytesAt.dat o1.below) (by omega) (by omega) (by omega)
      obtain ⟨b, H8, c2, o2, l2, q2⟩ := b2 x [] hde
      have hb8 : BytesAt (fun i => i < H8.length) H8 a (enc fl (.leaf 0 .i16 false gf) x) := BytesAt.kt o1.below ⟨l2, fun i b hi hx => ⟨by omega, q2 i b hi hx⟩⟩
      have hsm := same_x hb8 o2.below (by omega)
      refine CA.wp (fn := Tryd.f4) (R := fun v _ => v = .b true) (by kernel_rfl) rfl ?_
      dsimp only [Tryd.f4]
      dsimp only [List.length_cons, List.length_nil, List.cons_append, List.nil_append, Nat.reduceSub, Nat.reduceAdd, List.replicate]
      ((repeat with_reducible refine WP.seqs ?_); refine WP.rg ?_)
      ((repeat with_reducible refine WP.seqs ?_); refine WP.rg ?_)
      ((repeat with_reducible refine WP.seqs ?_); first | refine WP.seq (WP.condF rfl ?_) | refine WP.condF rfl ?_)
      refine WP.skip ?_; repeat (first | with_reducible refine Sq.n ?_ | with_reducible refine Sq.ret ?_ | with_reducible refine Sq.exit ?_ | with_reducible refine Bk.n ?_ | with_reducible refine Bk.ret ?_ | with_reducible refine Bk.exit ?_ | with_reducible refine Bk.ex' (by decide) ?_ | with_reducible refine Lp.ret ?_ | with_reducible refine Lp.exit ?_ | with_reducible refine Lx.exit ?_)
      ((repeat with_reducible refine WP.seqs ?_); refine WP.rg ?_)
      ((repeat with_reducible refine WP.seqs ?_); first | refine WP.seq (WP.condF rfl ?_) | refine WP.condF rfl ?_)
      refine WP.skip ?_; repeat (first | with_reducible refine Sq.n ?_ | with_reducible refine Sq.ret ?_ | with_reducible refine Sq.exit ?_ | with_reducible refine Bk.n ?_ | with_reducible refine Bk.ret ?_ | with_reducible refine Bk.exit ?_ | with_reducible refine Bk.ex' (by decide) ?_ | with_reducible refine Lp.ret ?_ | with_reducible refine Lp.exit ?_ | with_reducible refine Lx.exit ?_)
      ((repeat with_reducible refine WP.seqs ?_); refine WP.rg ?_)
      ((repeat with_reducible refine WP.seqs ?_); refine WP.rg ?_)
      ((repeat with_reducible refine WP.seqs ?_); refine WP.rg ?_)
      ((repeat with_reducible refine WP.seqs ?_); first | refine WP.seq (WP.condF rfl ?_) | refine WP.condF rfl ?_)
      refine WP.skip ?_; repeat (first | with_reducible refine Sq.n ?_ | with_reducible refine Sq.ret ?_ | with_reducible refine Sq.exit ?_ | with_reducible refine Bk.n ?_ | with_reducible refine Bk.ret ?_ | with_reducible refine Bk.exit ?_ | with_reducible refine Bk.ex' (by decide) ?_ | with_reducible refine Lp.ret ?_ | with_reducible refine Lp.exit ?_ | with_reducible refine Lx.exit ?_)
      ((repeat with_reducible refine WP.seqs ?_); refine WP.rg ?_)
      ((repeat with_reducible refine WP.seqs ?_); refine WP.rg ?_)
      refine WP.ret ?_; repeat (first | with_reducible refine Sq.n ?_ | with_reducible refine Sq.ret ?_ | with_reducible refine Sq.exit ?_ | with_reducible refine Bk.n ?_ | with_reducible refine Bk.ret ?_ | with_reducible refine Bk.exit ?_ | with_reducible refine Bk.ex' (by decide) ?_ | with_reducible refine Lp.ret ?_ | with_reducible refine Lp.exit ?_ | with_reducible refine Lx.exit ?_)
      exact Fe.r1 rfl rfl
  obtain ⟨v, H', h, rfl⟩ := key
  exact ⟨H', h⟩
end Go.Proofs.YtdanlkiojkimaaaDoor.Rd.mConsumerMemberMetadata

