import Derived.Test.YtjncijimikfdnaaDoorQLwKit
import Derived.Test.YtjncijimikfdnaaDoorQLwSASLAuthenticateRequest
import Derived.Test.YtjncijimikfdnaaDoorQLwSpSASLAuthenticateRequest
import Derived.Test.YtjncijimikfdnaaDoorQTrDef
import Derived.ProofKit
import Derived.OpenShut
import Derived.ChangeSlices
import Derived.Stop.LaidErr
import Derived.Deep.DeepHandedRow
/-
  THE SAME OCTETS, as the reference compares them.
-/
namespace Go.Proofs.YtjncijimikfdnaaDoor.Rd
set_option linter.constructorNameAsVariable false
set_option linter.unusedVariables false
set_option linter.unusedSimpArgs false
open Go Go.Proofs.YtjncijimikfdnaaDoor.Ax Go.Proofs.YtjncijimikfdnaaDoor.Wire
set_option linter.unusedVariables false
set_option linter.unusedSimpArgs false
set_option maxRecDepth 100000
set_option maxHeartbeats 1000000

def loopOf : List Code → Code
  | .block _ (.loop b) :: _ => b
  | _ :: r => loopOf r
  | [] => .skip
theorem neqU (t : TypeId) (c : Bool) (a : AV) (n : Int) (h : a = .i .u8 n) : binA P .neq t c a a = some (.b false) := by
  subst h
  have e : binA P .neq t c (.i .u8 n) (.i .u8 n) = some (.b (!(n == n))) := by
    simp [binA, binOp, Op.intCmp, ofSem, ofV1]
    rfl
  rw [e]; simp
theorem addi (a : Int) (h : 0 ≤ a) (h1 : a < 4611686018427387904) : binA P .add 3 true (.i .i64 a) (.i .i64 1) = some (.i .i64 (a + 1)) := by
  rw [add]
  congr 2
  simp [IntKind.wrap, IntKind.signed, IntKind.bits]; omega
theorem same_loop {A : Nat → Prop} {H : Heap} {a b : AV} {bs : B} (ha : BytesAt A H a bs) (hb : BytesAt A H b bs) (hlen : bs.length < 4611686018427387904) :
    ∀ (k j : Nat) (x2 x3 x5 x6 x7 x8 x9 x10 x11 x14 x15 x16 x17 x18 x19 x20 x21 x22 x23 x24 x25 : AV), j + k = bs.length →
      ∃ fr1, RU P NS (.loop (loopOf (flat (Tryd.f14.body.getD .skip)))) [a, b, x2, x3, .b false, x5, x6, x7, x8, x9, x10, x11, .i .i64 (bs.length : Nat), .i .i64 (j : Nat), x14, x15, x16, x17, x18, x19, x20, x21, x22, x23, x24, x25] H (.exit 0, fr1, H) ∧ 4 < fr1.length
  | 0, j, x2, x3, x5, x6, x7, x8, x9, x10, x11, x14, x15, x16, x17, x18, x19, x20, x21, x22, x23, x24, x25, hj => by
    have hc : binA P .lss 3 false (.i .i64 (j : Nat)) (.i .i64 (bs.length : Nat)) = some (.b false) := by rw [lss]; simp; omega
    generalize ((j : Nat) : Int) = jj at hc
    generalize ((bs.length : Nat) : Int) = nn at hc
    apply Exists.intro
    apply And.intro
    · dsimp only [Tryd.f14, Option.getD_some, flat, loopOf, List.cons_append, List.nil_append]
      (apply RU.loopx; rotate_left; focus (simp))
      refine RU.seq RU.rg ?_
      (apply RU.seqx; rotate_left; focus (simp))
      apply RU.condF rfl
      exact RU.exit
    · simp
  | k + 1, j, x2, x3, x5, x6, x7, x8, x9, x10, x11, x14, x15, x16, x17, x18, x19, x20, x21, x22, x23, x24, x25, hj => by
    have hc : binA P .lss 3 false (.i .i64 (j : Nat)) (.i .i64 (bs.length : Nat)) = some (.b true) := by rw [lss]; simp; omega
    have hat : bs[j]? = some (bs[j]'(by omega)) := by simp
    obtain ⟨p1, i1, l1⟩ := ha.idx bty .i64 hat
    obtain ⟨p2, i2, l2⟩ := hb.idx bty .i64 hat
    have hne := neqU 5 false (U8 (bs[j]'(by omega))) _ rfl
    have hadd : binA P .add 3 true (.i .i64 (j : Nat)) (.i .i64 1) = some (.i .i64 ((j + 1 : Nat) : Int)) := by rw [addi _ (by omega) (by omega)]; simp
    obtain ⟨fr1, h1, h2⟩ := same_loop ha hb hlen k (j + 1) x2 x3 (.i .i64 (j : Nat)) x6 x7 x8 x9 x10 x11 (.b true) (.i .i64 (j : Nat)) a (.i .i64 (j : Nat)) p1 (U8 (bs[j]'(by omega))) b (.i .i64 (j : Nat)) p2 (U8 (bs[j]'(by omega))) (.b false) (.i .i64 ((j + 1 : Nat) : Int)) (by omega)
    refine ⟨fr1, ?_, h2⟩
    generalize ((j + 1 : Nat) : Int) = j1 at hadd h1
    generalize ((j : Nat) : Int) = jj at hc i1 i2 hadd h1 ⊢
    generalize ((bs.length : Nat) : Int) = nn at hc h1 ⊢
    generalize U8 (bs[j]'(by omega)) = c at l1 l2 hne h1
    dsimp only [Tryd.f14, Option.getD_some, flat, loopOf, List.cons_append, List.nil_append] at h1 ⊢
    apply RU.loop
    rotate_left
    · exact h1
    · refine RU.seq RU.rg ?_
      (apply RU.seq; focus (apply RU.condT rfl; exact RU.skip))
      (apply RU.seq; focus (apply RU.blockN; refine RU.seq RU.rg ?_; refine RU.seq RU.d0 ?_; apply RU.condF rfl; exact RU.skip))
      exact RU.rg
theorem neqI (n : Int) : binA P .neq 3 false (.i .i64 n) (.i .i64 n) = some (.b false) := by
  have e : binA P .neq 3 false (.i .i64 n) (.i .i64 n) = some (.b (!(n == n))) := by
    simp [binA, binOp, Op.intCmp, ofSem, ofV1]
    rfl
  rw [e]; simp
theorem same_x {A : Nat → Prop} {H : Heap} {a b : AV} {bs : B} (ha : BytesAt A H a bs) (hb : BytesAt A H b bs) (hlen : bs.length < 4611686018427387904) : CA P NS 14 [a, b] H (.b true, H) := by
  have la := ha.len bty
  have lb := hb.len bty
  have hn := neqI (bs.length : Nat)
  obtain ⟨fr1, h1, h2⟩ := same_loop ha hb hlen bs.length 0 (.t []) (.t []) (.t []) a (.i .i64 (bs.length : Nat)) b (.i .i64 (bs.length : Nat)) (.b false) a (.t []) (.t []) (.t []) (.t []) (.t []) (.t []) (.t []) (.t []) (.t []) (.t []) (.t []) (.t []) (by omega)
  have h1 : RU P NS (.loop (loopOf (flat (Tryd.f14.body.getD .skip)))) [a, b, .t [], .t [], .b false, .t [], a, .i .i64 (bs.length : Nat), b, .i .i64 (bs.length : Nat), .b false, a, .i .i64 (bs.length : Nat), .i .i64 0, .t [], .t [], .t [], .t [], .t [], .t [], .t [], .t [], .t [], .t [], .t [], .t []] H (.exit 0, fr1, H) := h1
  generalize ((bs.length : Nat) : Int) = nn at la lb hn h1
  refine CA.go (fn := Tryd.f14) (vs := [.b true]) (x := .ret) (by kernel_rfl) rfl (.inr rfl) ⟨fr1.set 4 (.b true), ?_, ?_⟩
  · dsimp only [Tryd.f14, Option.getD_some, flat, loopOf, List.cons_append, List.nil_append] at h1 ⊢
    dsimp only [List.length_cons, List.length_nil, List.cons_append, List.nil_append, Nat.reduceSub, Nat.reduceAdd, List.replicate]
    refine RU.seq RU.rg ?_
    refine RU.seq (RU.seq RU.rg (RU.condF rfl RU.skip)) ?_
    apply RU.seq
    · refine RU.seq RU.rg ?_
      apply RU.block0
      exact h1
    apply RU.seq
    · apply RU.region
      refine OS.op rfl rfl (op_assign rfl) ?_
      exact OS.nil
    exact RU.ret
  · dsimp only [Tryd.f14]
    simp [resultsA, h2]
end Go.Proofs.YtjncijimikfdnaaDoor.Rd

/-
  THE LAW FnAgainSASLAuthenticateRequest: its run in the abstract machine ends with true.
-/
namespace Go.Proofs.YtjncijimikfdnaaDoor.Rd.mSASLAuthenticateRequest
set_option linter.constructorNameAsVariable false
set_option linter.unusedVariables false
set_option linter.unusedSimpArgs false
open Go Go.Proofs.YtjncijimikfdnaaDoor.Ax Go.Proofs.YtjncijimikfdnaaDoor.Wire Go.Proofs.YtjncijimikfdnaaDoor.Rd
set_option linter.unusedVariables false
set_option linter.unusedSimpArgs false
set_option maxRecDepth 100000
set_option maxHeartbeats 2000000
theorem maxv_x (H : Heap) (q : AV) : CA P NS 45 [q] H (.i .i16 2, H) := by
  refine CA.go (fn := Tryd.f45) (vs := [_]) (by kernel_rfl) rfl (by first | exact .inr rfl | exact .inl rfl) ?_
  apply Exists.intro
  apply And.intro
  · dsimp only [Tryd.f45]
    dsimp only [List.length_cons, List.length_nil, List.cons_append, List.nil_append, Nat.reduceSub, Nat.reduceAdd, List.replicate]
    refine RU.seq RU.rg ?_
    refine RU.seq RU.rg ?_
    first | exact RU.ret | exact RU.skip
  · rfl
theorem max_x (H : Heap) : CA P NS 21 [] H (.i .i64 2, H ++ [.cells 90 .vr dX]) := by
  have c1 := new_x H
  generalize H ++ [Blk.cells 90 Kn.vr dX] = H1 at c1
  generalize AV.p H.length 0 = q at c1
  have c2 := maxv_x H1 q
  have hc : convA P 42 3 (.i .i16 2) = some (.i .i64 2) := by kernel_rfl
  refine CA.go (fn := Tryd.f21) (vs := [_]) (by kernel_rfl) rfl (by first | exact .inr rfl | exact .inl rfl) ?_
  apply Exists.intro
  apply And.intro
  · dsimp only [Tryd.f21]
    dsimp only [List.length_cons, List.length_nil, List.cons_append, List.nil_append, Nat.reduceSub, Nat.reduceAdd, List.replicate]
    refine RU.seq RU.rg ?_
    refine RU.seq RU.rg ?_
    first | exact RU.ret | exact RU.skip
  · rfl
theorem versS : ∀ k, k ≤ 2 → ∃ f, VerAt k (flexAt 2 k) f ∧ f.strip = (fmtP k (flexAt 2 k) fd_SASLAuthenticateRequest).strip ∧ (fmtP k (flexAt 2 k) fd_SASLAuthenticateRequest).good = true
  | 0, _ => by
    have e : flexAt 2 0 = false := by decide +kernel
    rw [e]
    exact ⟨nodes pl0, ver_0, by kernel_rfl, by kernel_rfl⟩
  | 1, _ => by
    have e : flexAt 2 1 = false := by decide +kernel
    rw [e]
    exact ⟨nodes pl1, ver_1, by kernel_rfl, by kernel_rfl⟩
  | 2, _ => by
    have e : flexAt 2 2 = true := by decide +kernel
    rw [e]
    exact ⟨nodes pl2, ver_2, by kernel_rfl, by kernel_rfl⟩
  | n + 3, h => by omega
/-- The law's run. -/
theorem agn_x {H : Heap} {rb0 : Nat} {c : List AV} {t : Tr} {n8 : Int} (hn8 : 0 ≤ n8 ∧ n8 < 256) (G : Globs H rb0) (ht : TrAt H c t) (htf : t.Fine) (hbk : t.bulk ≤ 1048576) : ∃ H', CA P NS 6 [.i .u8 n8, .g c] H (.b true, H') := by
  have key : ∃ v H', CA P NS 6 [.i .u8 n8, .g c] H (v, H') ∧ v = .b true := by
    obtain ⟨s, l, u, hcc, _, _, _, _, _, hone⟩ := ht.parts
    obtain ⟨b1, H1, hbx, k1, v1, _⟩ := box_new (H := H) (e := 26) hone
    obtain ⟨fv, H2, hcf, ⟨fb, rfl⟩, k2⟩ := fits_x (ht.kp k1)
    have hmx := max_x H2
    have k3 : Kp H2 (H2 ++ [.cells 90 .vr dX]) := Kp.app _ _
    generalize H2 ++ [Blk.cells 90 Kn.vr dX] = H3 at hmx k3
    have h0 : binA P .lss 3 true (.i .i64 2) (.i .i64 0) = some (.b false) := by kernel_rfl
    obtain ⟨k, hk, hv⟩ := ver_run (most := 2) (by omega) hn8
    obtain ⟨f, hver, hstr, hgd⟩ := versS k hk
    obtain ⟨wv, H4, hsp, ⟨i, rfl, hfd⟩, k4⟩ := sp_SASLAuthenticateRequest H3
    have k14 := ((k1.trans k2).trans k3).trans k4
    have hle := partS_le k (flexAt 2 k) fd_SASLAuthenticateRequest htf
    have hcost := sp_cost
    have hlen : (partS k (flexAt 2 k) fd_SASLAuthenticateRequest t).length ≤ 549755813888 := by
      have : (fd_SASLAuthenticateRequest.cost + 15) * t.bulk ≤ 100015 * 1048576 := Nat.mul_le_mul (by omega) hbk
      omega
    obtain ⟨out, H5, hwr, ho, k5⟩ := write_x (ver := k) hfd sp_plain sp_len (ht.kp k14) htf hlen
    have v2 := k2.at_ v1
    have v3 := k3.at_ v2
    have k34 := k4
    have k35 := k4.trans k5
    have hv4 : CA P NS 12 [.i .u8 n8, .i .i64 2] H4 (.i .i64 (k : Nat), H4) := hv H4
    have hv5 : CA P NS 12 [.i .u8 n8, .i .i64 2] H5 (.i .i64 (k : Nat), H5) := hv H5
    obtain ⟨hdec, henc⟩ := again_part htf hstr hgd
    have k05 := k14.trans k5
    have G5 := G.keep k05.1 (fun i b hi hb => k05.at_ hb)
    obtain ⟨_, hagain⟩ := hver
    obtain ⟨_, hgood⟩ := hagain G5 (BytesAt.dat ho.below) (by omega)
    obtain ⟨out2, H6, hag, ho2, l6, q6⟩ := hgood _ _ hdec
    rw [henc] at ho2
    have hb5 : BytesAt (fun i => i < H6.length) H6 out (partS k (flexAt 2 k) fd_SASLAuthenticateRequest t) := BytesAt.kt ho.below ⟨l6, fun i b hi hx => ⟨by omega, q6 i b hi hx⟩⟩
    have k56 : Kp H5 H6 := ⟨l6, fun i hi => by
      have h1 : H5[i]? = some H5[i] := by simp [hi]
      rw [h1]; exact q6 i _ hi h1⟩
    refine CA.wp (fn := Tryd.f6) (R := fun v _ => v = .b true) (by kernel_rfl) rfl ?_
    subst hcc
    cases fb with
    | false =>
      dsimp only [Tryd.f6]
      dsimp only [List.length_cons, List.length_nil, List.cons_append, List.nil_append, Nat.reduceSub, Nat.reduceAdd, List.replicate]
      ((repeat with_reducible refine WP.seqs ?_); refine WP.rg ?_)
      ((repeat with_reducible refine WP.seqs ?_); refine WP.rg ?_)
      ((repeat with_reducible refine WP.seqs ?_); first | refine WP.seq (WP.condT rfl ?_) | refine WP.condT rfl ?_)
      ((repeat with_reducible refine WP.seqs ?_); refine WP.rg ?_)
      refine WP.ret ?_; repeat (first | with_reducible refine Sq.n ?_ | with_reducible refine Sq.ret ?_ | with_reducible refine Sq.exit ?_ | with_reducible refine Bk.n ?_ | with_reducible refine Bk.ret ?_ | with_reducible refine Bk.exit ?_ | with_reducible refine Bk.ex' (by decide) ?_ | with_reducible refine Lp.ret ?_ | with_reducible refine Lp.exit ?_ | with_reducible refine Lx.exit ?_)
      exact Fe.r1 rfl rfl
    | true =>
      have hsm := same_x ho2.below hb5 (by omega)
      generalize ((k : Nat) : Int) = ki at hv4 hv5 hwr hag
      obtain ⟨n1, hsp⟩ := hsp
      obtain ⟨n2, hv4⟩ := hv4
      obtain ⟨n3, hwr⟩ := hwr
      have r3 := Kp.refl H3
      dsimp only [Tryd.f6]
      dsimp only [List.length_cons, List.length_nil, List.cons_append, List.nil_append, Nat.reduceSub, Nat.reduceAdd, List.replicate]
      ((repeat with_reducible refine WP.seqs ?_); refine WP.rg ?_)
      ((repeat with_reducible refine WP.seqs ?_); refine WP.rg ?_)
      ((repeat with_reducible refine WP.seqs ?_); first | refine WP.seq (WP.condF rfl ?_) | refine WP.condF rfl ?_)
      refine WP.skip ?_; repeat (first | with_reducible refine Sq.n ?_ | with_reducible refine Sq.ret ?_ | with_reducible refine Sq.exit ?_ | with_reducible refine Bk.n ?_ | with_reducible refine Bk.ret ?_ | with_reducible refine Bk.exit ?_ | with_reducible refine Bk.ex' (by decide) ?_ | with_reducible refine Lp.ret ?_ | with_reducible refine Lp.exit ?_ | with_reducible refine Lx.exit ?_)
      ((repeat with_reducible refine WP.seqs ?_); refine WP.rg ?_)
      ((repeat with_reducible refine WP.seqs ?_); refine WP.rg ?_)
      ((repeat with_reducible refine WP.seqs ?_); first | refine WP.seq (WP.condF rfl ?_) | refine WP.condF rfl ?_)
      refine WP.skip ?_; repeat (first | with_reducible refine Sq.n ?_ | with_reducible refine Sq.ret ?_ | with_reducible refine Sq.exit ?_ | with_reducible refine Bk.n ?_ | with_reducible refine Bk.ret ?_ | with_reducible refine Bk.exit ?_ | with_reducible refine Bk.ex' (by decide) ?_ | with_reducible refine Lp.ret ?_ | with_reducible refine Lp.exit ?_ | with_reducible refine Lx.exit ?_)
      refine WP.rS (Kp H3) (n0 := max n1 (max n2 n3)) r3 ?_
      apply Exists.intro; apply Exists.intro; apply And.intro
      · intro n hn
        have hsp := hsp n (by omega)
        have hv4 := hv4 n (by omega)
        have hwr := hwr n (by omega)
        (refine OpsP.cl rfl rfl ?_; dsimp only [AV.cells, putA, List.set_cons_zero, List.set_cons_succ])
        (refine OpsP.pu rfl rfl (fun H2 hk => by (try have v1 := Kp.at_ hk v1); (try have v2 := Kp.at_ hk v2); (try have v3 := Kp.at_ hk v3); (try have hld := hld _ hk); exact ⟨_, opy⟩) ?_; dsimp only [AV.cells, putA, List.set_cons_zero, List.set_cons_succ])
        (refine OpsP.pu rfl rfl (fun H2 hk => by (try have v1 := Kp.at_ hk v1); (try have v2 := Kp.at_ hk v2); (try have v3 := Kp.at_ hk v3); (try have hld := hld _ hk); exact ⟨_, opy⟩) ?_; dsimp only [AV.cells, putA, List.set_cons_zero, List.set_cons_succ])
        (refine OpsP.cl rfl rfl ?_; dsimp only [AV.cells, putA, List.set_cons_zero, List.set_cons_succ])
        (refine OpsP.pu rfl rfl (fun H2 hk => by (try have v1 := Kp.at_ hk v1); (try have v2 := Kp.at_ hk v2); (try have v3 := Kp.at_ hk v3); (try have hld := hld _ hk); exact ⟨_, opy⟩) ?_; dsimp only [AV.cells, putA, List.set_cons_zero, List.set_cons_succ])
        (refine OpsP.cl rfl rfl ?_; dsimp only [AV.cells, putA, List.set_cons_zero, List.set_cons_succ])
        (refine OpsP.pu rfl rfl (fun H2 hk => by (try have v1 := Kp.at_ hk v1); (try have v2 := Kp.at_ hk v2); (try have v3 := Kp.at_ hk v3); (try have hld := hld _ hk); exact ⟨_, opy⟩) ?_; dsimp only [AV.cells, putA, List.set_cons_zero, List.set_cons_succ])
        exact OpsP.nil
      ((repeat with_reducible refine WP.seqs ?_); refine WP.rg ?_)
      ((repeat with_reducible refine WP.seqs ?_); refine WP.rg ?_)
      refine WP.ret ?_; repeat (first | with_reducible refine Sq.n ?_ | with_reducible refine Sq.ret ?_ | with_reducible refine Sq.exit ?_ | with_reducible refine Bk.n ?_ | with_reducible refine Bk.ret ?_ | with_reducible refine Bk.exit ?_ | with_reducible refine Bk.ex' (by decide) ?_ | with_reducible refine Lp.ret ?_ | with_reducible refine Lp.exit ?_ | with_reducible refine Lx.exit ?_)
      exact Fe.r1 rfl rfl
  obtain ⟨v, H', h, rfl⟩ := key
  exact ⟨H', h⟩
end Go.Proofs.YtjncijimikfdnaaDoor.Rd.mSASLAuthenticateRequest

/-
  FROM THE ABSTRACT MACHINE TO THE WORLD: a law of a number and of octets whose run the machine answers with true.
-/
namespace Go.Proofs.YtjncijimikfdnaaDoor.Rd
set_option linter.constructorNameAsVariable false
set_option linter.unusedVariables false
set_option linter.unusedSimpArgs false
open Go Go.RowKit Go.ChangeShapes Go.WideShapes Go.Proofs.YtjncijimikfdnaaDoor.Ax Go.Proofs.YtjncijimikfdnaaDoor.Wire
set_option linter.unusedVariables false
set_option linter.unusedSimpArgs false
set_option maxRecDepth 100000

theorem trod_iface {H : Type} {enc : TypeId × Value → H} {P : Program} {w : World} {base fuel : Nat} {sp : Nat → Bool} {t : TypeId} {ms : Array (String × TypeId)} {cs : List Value} {n : String} {x : DataW H} {p : List MemPlace} (hi : P.underlying t = some (.interface ms))
    (h : DataW.trod enc P w base sp false fuel t cs = some (.iface n x, p)) : ∃ u v, cs = [.iface u v] := by
  cases fuel with
  | zero => simp [DataW.trod] at h
  | succ fuel =>
    rcases cs with _ | ⟨c, _ | ⟨c', cs⟩⟩
    · simp [DataW.trod, hi] at h
    · cases c <;> first | exact ⟨_, _, rfl⟩ | (simp [DataW.trod, hi] at h)
    · simp [DataW.trod, hi] at h
theorem blk_of_var {P : Program} {W : World} {n : String} {g : Nat} {cs : Array Value} (hg : P.globalNamed n = some g) (h : W.var? P n = some cs) : ∃ ty fz, W.heap[g]? = some (.cells cs ty fz) := by
  unfold World.var? at h
  simp only [hg, Option.bind_some] at h
  split at h
  · rename_i c t f hh
    simp at h
    subst h
    exact ⟨_, _, hh⟩
  · cases h

def loc0 (n : Nat) : List Ax.Loc := (List.range (n + 1)).map fun i => ⟨i, 0, false⟩
theorem rng_at (n i : Nat) : (List.range n)[i]? = if i < n then some i else none := by
  by_cases h : i < n
  · rw [if_pos h, List.getElem?_range h]
  · rw [if_neg h, List.getElem?_eq_none (by simpa using h)]
theorem loc0_at {n i : Nat} {l : Ax.Loc} (h : (loc0 n)[i]? = some l) : l = ⟨i, 0, false⟩ := by
  simp only [loc0, List.getElem?_map, rng_at] at h
  by_cases hi : i < n + 1
  · rw [if_pos hi] at h; simp at h; exact h.symm
  · rw [if_neg hi] at h; simp at h
theorem loc0_some {n i : Nat} (h : i < n + 1) : (loc0 n)[i]? = some ⟨i, 0, false⟩ := by
  simp only [loc0, List.getElem?_map, rng_at, if_pos h]
  simp

/-- What is known of a value that came in. -/
def absV (n : Nat) : Value → AV
  | .bool b => .b b
  | .int k x => .i k x
  | .float k x => .f k x
  | .string s => .s s
  | .pointer none => .p0
  | .pointer (some ⟨b, o, none⟩) => if b < n then .p b o else .u
  | .slice none 0 0 => .s0
  | .slice (some a) l c => if l = 0 then .se else if a.spot = none ∧ a.block < n ∧ l ≤ c ∧ c ≤ maxLen then .sl a.block a.off l else .u
  | .map none => .m0
  | .nilIface => .n
  | .iface _ _ => .e
  | _ => .u
theorem absV_VR (ρ : Nat → Value) (n : Nat) (v : Value) : VR ρ (loc0 n) (absV n v) v := by
  unfold absV
  split
  · exact .b _
  · exact .i _ _
  · exact .f _ _
  · exact .s _
  · exact .p0
  · split
    · exact .p (l := ⟨_, 0, false⟩) (loc0_some (by omega))
    · exact .u _
  · exact .s0
  · split
    · rename_i h; subst h; exact .se _ _
    · split
      · rename_i a _ _ _ h
        obtain ⟨ab, ao, sp⟩ := a
        obtain ⟨h0, h1, h2, h3⟩ := h
        simp only at h0
        subst h0
        exact .sl (l := ⟨_, 0, false⟩) (loc0_some (show ab < n + 1 from Nat.lt_succ_of_lt h1)) h2 h3 (fun _ h => by cases h)
      · exact .u _
  · exact .m0
  · exact .n
  · exact .e _ _
  · exact .u _
def absB (n : Nat) : Obj → Blk
  | .cells cur ty _ => .cells ty .ro (cur.toList.map (absV n))
  | _ => .dead
/-- The machine's heap when the law is called: all that is there. -/
def heapOf (W : World) : Heap := W.heap.toList.map (absB W.heap.size) ++ [.dead]
theorem heapOf_len (W : World) : (heapOf W).length = W.heap.size + 1 := by simp [heapOf]
theorem lt_heap {W : World} {i : Nat} {b : Obj} (h : W.heap[i]? = some b) : i < W.heap.size := (Array.getElem?_eq_some_iff.1 h).1
theorem heapOf_at {W : World} {i : Nat} {cur : Array Value} {ty : TypeId} {fz : Nat × Nat} (h : W.heap[i]? = some (.cells cur ty fz)) : (heapOf W)[i]? = some (.cells ty .ro (cur.toList.map (absV W.heap.size))) := by
  have hlt := lt_heap h
  unfold heapOf
  rw [List.getElem?_append_left (by simpa using hlt), List.getElem?_map]
  simp [h, absB]
theorem heapOf_of {W : World} {i : Nat} {ty : TypeId} {kn : Kn} {cs : List AV} (h : (heapOf W)[i]? = some (.cells ty kn cs)) : ∃ cur fz, W.heap[i]? = some (.cells cur ty fz) ∧ kn = .ro ∧ cs = cur.toList.map (absV W.heap.size) := by
  unfold heapOf at h
  rcases at_last h with ⟨hlt, h⟩ | ⟨_, e⟩
  · rw [List.getElem?_map] at h
    obtain ⟨o, ho, hb⟩ := Option.map_eq_some_iff.1 h
    unfold absB at hb
    split at hb
    · simp at hb
      obtain ⟨rfl, rfl, rfl⟩ := hb
      exact ⟨_, _, by simpa using ho, rfl, rfl⟩
    · cases hb
  · cases e
theorem heapOf_nomap {W : World} {i : Nat} {kd : IntKind} {es : List (Int × AV)} (h : (heapOf W)[i]? = some (.map kd es)) : False := by
  unfold heapOf at h
  rcases at_last h with ⟨hlt, h⟩ | ⟨_, e⟩
  · rw [List.getElem?_map] at h
    obtain ⟨o, ho, hb⟩ := Option.map_eq_some_iff.1 h
    unfold absB at hb
    split at hb <;> cases hb
  · cases e

theorem hrW (ρ : Nat → Value) (W : World) : HR P ρ W.heap.size (loc0 W.heap.size) (heapOf W) W where
  len := by simp [loc0, heapOf]
  base_le := Nat.le_refl _
  live := fun i ty kn cs l hi hl => by
    obtain rfl := loc0_at hl
    obtain ⟨cur, fz, hb, rfl, rfl⟩ := heapOf_of hi
    refine ⟨cur, fz, hb, (fun h => by cases h), (fun _ => lt_heap hb), ⟨(fun h => by cases h), (fun h => by cases h)⟩, by simp, (fun h => by cases h), ⟨by simp, fun j x v hx hv => ?_⟩⟩
    rw [List.getElem?_map] at hx
    obtain ⟨y, hy, rfl⟩ := Option.map_eq_some_iff.1 hx
    have : y = v := by
      rw [List.getElem?_take] at hv
      split at hv
      · rw [hy] at hv; cases hv; rfl
      · cases hv
    subst this
    exact absV_VR ρ _ _
  same := fun i ty kn cs l hi _ hl => by rw [loc0_at hl]
  inj := fun i j ty kn cs ty' kn' cs' l l' hi ho => by
    obtain ⟨_, _, _, rfl, _⟩ := heapOf_of hi
    cases ho
  maps := fun i kd es l hi => (heapOf_nomap hi).elim
  injm := fun i j kd es kd' es' l l' hi => (heapOf_nomap hi).elim

theorem globsW {W : World} {tE : TypeId}
    {tB : TypeId} (hB : ∃ fz, W.heap[(0 : Nat)]? = some (.cells #[] tB fz))
    (hE : ∃ u v fz, W.heap[(1 : Nat)]? = some (.cells #[.iface u v] tE fz)) : Globs (heapOf W) W.heap.size where
  be := by
    obtain ⟨fz, hb⟩ := hB
    exact ⟨tB, heapOf_at hb⟩
  nbe := by
    obtain ⟨fz, hb⟩ := hB
    have := lt_heap hb
    omega
  err := by
    obtain ⟨u, v, fz, hb⟩ := hE
    exact ⟨tE, heapOf_at hb⟩
  nerr := by
    obtain ⟨u, v, fz, hb⟩ := hE
    have := lt_heap hb
    omega
  lt := by rw [heapOf_len]; omega

/-- Octets behind a slice, in the world. -/
def Octets (W : World) (v : Value) (zs : List Int) : Prop :=
  (v = .slice none 0 0 ∧ zs = []) ∨ ∃ (a : Addr) (len cap : Nat), v = .slice (some a) len cap ∧ len ≤ cap ∧ cap ≤ maxLen ∧ zs.length = len ∧ (∀ i, i < zs.length → W.cell? (a.add i) = some (.int .u8 (zs.getD i 0))) ∧ (∀ n ∈ zs, (Lit.int .u8 n).wf = true)
/-- A slice of octets that came in. -/
theorem octetsW {W : World} {v : Value} {zs : List Int} (hv : Octets W v zs) : BytesAt (fun i => i < (heapOf W).length) (heapOf W) (absV W.heap.size v) (zs.map fun n => UInt8.ofNat n.toNat) := by
  rcases hv with ⟨rfl, rfl⟩ | ⟨⟨ab, ao, spot⟩, len, cap, rfl, hl, hm, hz, hcell, hwz⟩
  · exact .z
  · by_cases h0 : len = 0
    · subst h0
      obtain rfl : zs = [] := List.eq_nil_of_length_eq_zero hz
      simp only [absV, if_true, List.map_nil]
      exact .e
    · have c0 := hcell 0 (by omega)
      have hspot : spot = none := by simpa [Addr.add] using World.cell?_spot c0
      subst hspot
      have hcell' : ∀ i, i < len → W.cell? ⟨ab, ao + i, none⟩ = some (.int .u8 (zs.getD i 0)) := fun i hi => by
        have := hcell i (by omega)
        rw [Addr.add_lit] at this
        exact this
      obtain ⟨cur, ty, fz, hb⟩ : ∃ cur ty fz, W.heap[ab]? = some (.cells cur ty fz) := by
        have := hcell' 0 (by omega)
        unfold World.cell? at this
        split at this
        · rename_i hh; exact ⟨_, _, _, hh⟩
        · cases this
      have hcur : ∀ i, i < len → cur.toList[ao + i]? = some (.int .u8 (zs.getD i 0)) := fun i hi => by
        have := hcell' i hi
        simp only [World.cell?, hb] at this
        simpa using this
      have hrng : ∀ i, i < len → zs.getD i 0 = ((UInt8.ofNat (zs.getD i 0).toNat).toNat : Nat) := fun i hi => by
        have hb := range_u8 hwz i
        rw [List.getD_eq_getElem?_getD]
        simp only [UInt8.toNat_ofNat']
        omega
      have hlt := lt_heap hb
      simp only [absV, if_neg h0]
      rw [if_pos ⟨by first | trivial | rfl, hlt, hl, hm⟩]
      have key := @BytesAt.s (fun i => i < (heapOf W).length) (heapOf W) ab ao ty .ro (cur.toList.map (absV W.heap.size)) (zs.map fun n => UInt8.ofNat n.toNat) (by rw [heapOf_len]; omega) (heapOf_at hb) (by simp; omega) (by
        apply List.ext_getElem?
        intro i
        simp only [u8s, List.getElem?_map, List.getElem?_take, List.getElem?_drop, List.length_map]
        by_cases hi : i < zs.length
        · rw [if_pos hi]
          have h1 := hcur i (by omega)
          simp only [List.getElem?_map, h1, Option.map_some, absV]
          rw [hrng i (by omega)]
          have : zs[i]? = some (zs.getD i 0) := by simp [List.getD, hi]
          rw [this]
          rfl
        · rw [if_neg hi, List.getElem?_eq_none (by omega)]
          rfl)
      simpa [hz] using key
end Go.Proofs.YtjncijimikfdnaaDoor.Rd

/-
  A LAW's CALL IN THE WORLD, out of its run in the machine.
-/
namespace Go.Proofs.YtjncijimikfdnaaDoor.Rd
set_option linter.constructorNameAsVariable false
set_option linter.unusedVariables false
set_option linter.unusedSimpArgs false
open Go Go.RowKit Go.ChangeShapes Go.WideShapes Go.Proofs.YtjncijimikfdnaaDoor.Ax Go.Proofs.YtjncijimikfdnaaDoor.Wire
set_option linter.unusedVariables false
set_option linter.unusedSimpArgs false
set_option maxRecDepth 100000

theorem noc : noCount P = true := by kernel_rfl
theorem be_laid : ((begin P (fun _ _ => 0) default).world.heap[(0 : Nat)]?).bind Obj.row? = some (#[], 118) := by kernel_rfl
theorem be_at {W : World} (h : W.ShapedOpen P) : ∃ fz, W.heap[(0 : Nat)]? = some (.cells #[] 118 fz) := by
  obtain ⟨cs, hc, hs, _⟩ := h.1 0 #[] 118 (of_decide_eq_true (by kernel_rfl)) be_laid
  obtain rfl : cs = #[] := by simpa using hs
  exact ⟨_, hc⟩
theorem err_named : P.globalNamed "pub-kmsg/pub/kmsg/inner/kbin.ErrNotEnoughData" = some 1 := by kernel_rfl
theorem err_type : (P.globals[(1 : Nat)]?).map (·.type) = some 51 := by kernel_rfl
theorem err_at {W : World} {nm : String} {x : DataW Unit} {r : List (String × DataW Unit)} (h : laidMet P (("pub-kmsg/pub/kmsg/inner/kbin.ErrNotEnoughData", .iface nm x) :: r) W) :
    ∃ tE u v fz, W.heap[(1 : Nat)]? = some (.cells #[.iface u v] tE fz) := by
  obtain ⟨ps, ⟨g0, t0, cs0, f0, p0, q0, hg0, ht0, hv0, hd0, _, e0⟩, _, hrows⟩ := h
  obtain rfl := Option.some.inj (err_named.symm.trans hg0)
  obtain rfl := Option.some.inj (err_type.symm.trans ht0)
  obtain ⟨u, v, e⟩ := trod_iface Tryd.underlying51 hd0
  obtain ⟨l0⟩ := cs0
  simp only at e
  subst e
  obtain ⟨ty, fz, hb⟩ := blk_of_var err_named hv0
  exact ⟨ty, u, v, fz, hb⟩

theorem law_world {law : FuncId} {S : CallA} (hS : ∀ base, CallSound P (fun _ => .bool true) base S) {aA : List AV} {aV : List Value} {W : World} (hav : VRs (fun _ => .bool true) (loc0 W.heap.size) aA aV)
    (hCA : ∀ {rb0 : Nat}, Globs (heapOf W) rb0 → ∃ H', CA P S law aA (heapOf W) (.b true, H'))
    (hsh : W.ShapedOpen P) {nm : String} {x : DataW Unit} {r : List (String × DataW Unit)} (hL : laidMet P (("pub-kmsg/pub/kmsg/inner/kbin.ErrNotEnoughData", .iface nm x) :: r) W) :
    Calls P law aV.toArray W fun e w' => e = .returned (.bool true) ∧ Below W.heap.size W w' := by
  obtain ⟨tE, hE⟩ := err_at hL
  obtain ⟨H', n, hn⟩ := hCA (globsW
    (be_at hsh)
    hE)
  have hr := hn n (Nat.le_refl _)
  have hc := run_sound (fun _ => rfl) (noCount_iff noc) (hS W.heap.size) (drawA_sound (fun _ => rfl) (noCount_iff noc)) n law aA _ _ _ hr
  refine (hc.2 (loc0 W.heap.size) W _ (hrW _ W) hav).mono fun e w' hm => ?_
  obtain ⟨v', μ', rfl, _, hv', _, hbel⟩ := hm
  cases hv'
  exact ⟨rfl, hbel⟩

/-- What a slice of octets that was opened is. -/
theorem octets_open {H : Type} {enc : TypeId × Value → H} {W : World} {base : Nat} {v1 : Value} {d1 : DataW H} {p1 : List MemPlace} (hval : Value.okWide P W .any base 22 v1) (h1 : DataW.Trod enc P W 0 (fun _ => true) true 22 v1 d1 p1) :
    ∃ zs, Octets W v1 zs := by
  obtain ⟨a1, len, cap, rfl⟩ := okWide_slice Tryd.underlying22 hval
  obtain ⟨fuel, hf⟩ := h1
  rcases open_ints Tryd.underlying22 Tryd.underlying5 (show P.cellsOf 5 = 1 by kernel_rfl) hf with ⟨hcs, hx⟩ | ⟨a, len', cap', zs, hcs, _, hl, hm, hz, hx, hcell, hwz⟩
  · simp [Value.cells] at hcs
    obtain ⟨rfl, rfl, rfl⟩ := hcs
    exact ⟨[], .inl ⟨rfl, rfl⟩⟩
  · simp [Value.cells] at hcs
    obtain ⟨rfl, rfl, rfl⟩ := hcs
    simp only [if_true] at hz
    refine ⟨zs.take len, .inr ⟨a, len, cap, rfl, hl, hm, by simp; omega, fun i hi => ?_, fun n hn => hwz n (List.mem_of_mem_take hn)⟩⟩
    have hi' : i < len := by simp at hi; omega
    have := hcell i (by omega)
    rw [this]
    simp [List.getD_eq_getElem?_getD, List.getElem?_take, hi']
theorem octets_stay {H : Type} {enc : TypeId × Value → H} {W W' : World} {v1 : Value} {d1 : DataW H} {p1 : List MemPlace} (h1 : DataW.Trod enc P W 0 (fun _ => true) true 22 v1 d1 p1) (hb : Below W.heap.size W W') (hlt : ∀ p ∈ p1, p.block < W.heap.size) {sp : Nat → Bool} (hs : ∀ p ∈ p1, sp p.block = true) :
    DataW.Trod enc P W' 0 sp true 22 v1 d1 p1 :=
  WideElems.Trod_stays (P := P) (show laidOutB P = true by kernel_rfl) (by kernel_rfl) (of_decide_eq_true (by kernel_rfl)) h1 (fun p hp => hb.same (hlt p hp)) hs
end Go.Proofs.YtjncijimikfdnaaDoor.Rd

