/-
  WHAT THE REFERENCE WRITES OF A VALUE.
-/
import Derived.Test.YtiifcfngbbhgoaaGreatDoorQTrLeafD
set_option linter.constructorNameAsVariable false
set_option linter.unusedVariables false
set_option linter.unusedSimpArgs false
namespace Go.Proofs.YtiifcfngbbhgoaaGreatDoor.Rd
open Go Go.Proofs.YtiifcfngbbhgoaaGreatDoor.Ax Go.Proofs.YtiifcfngbbhgoaaGreatDoor.Wire
set_option maxRecDepth 100000
set_option maxHeartbeats 1000000
def PartOK (fd : Fdl) : Prop := ∀ {H : Heap} {av : AV} {c : List AV} {t : Tr} (ver : Nat) (flex : Bool), FdAt H av fd → TrAt H c t → t.Fine → (partS ver flex fd t).length ≤ 549755813888 →
  ∃ out H', CA P NS 13 [av, .i .i64 (ver : Nat), .b flex, .g c] H (out, H') ∧ OutAt H.length H' out (partS ver flex fd t) ∧ Kp H H'
def valueS (kind : Nat) (sub : Fdl) (null : Bool) (ver : Nat) (flex : Bool) (t : Tr) : B := if kind = 10 then partS ver flex sub t else leafS flex (kindK kind) null t
theorem and1 (t : TypeId) (c : Bool) (n : Int) (h : -9223372036854775808 ≤ n ∧ n ≤ 9223372036854775807) : binA P .and t c (.i .i64 n) (.i .i64 1) = some (.i .i64 (n % 2)) := by
  show ofSem (Op.intBits .and .i64 n 1) = _
  have e : (BitVec.ofInt 64 n &&& BitVec.ofInt 64 1).toNat = (n % 2).toNat := by
    have h2 : BitVec.ofInt 64 1 = BitVec.ofNat 64 1 := rfl
    rw [h2, BitVec.toNat_and, BitVec.toNat_ofInt, BitVec.toNat_ofNat]
    have e2 : ∀ m : Nat, m &&& (1 % 2 ^ 64) = m % 2 := fun m => by
      rw [show (1 % 2 ^ 64) = 2 ^ 1 - 1 from rfl]
      exact Nat.and_two_pow_sub_one_eq_mod m 1
    rw [e2]
    omega
  rw [show Op.intBits .and .i64 n 1 = pure (.int .i64 (IntKind.i64.wrap ((BitVec.ofInt 64 n &&& BitVec.ofInt 64 1).toNat : Int))) from rfl, e]
  have : IntKind.i64.wrap (((n % 2).toNat : Nat) : Int) = n % 2 := by simp [IntKind.wrap, IntKind.signed, IntKind.bits]; omega
  rw [this]; rfl
theorem zeros_u8 : ∀ n : Nat, zerosA [.i .u8 0] n = u8s (List.replicate n 0)
  | 0 => rfl
  | n + 1 => by
    have := zeros_u8 n
    simp only [zerosA, this, List.replicate_succ, u8s, List.map_cons, List.cons_append, List.nil_append]
    rfl
theorem uuid_copy {H : Heap} {s : AV} {bs : B} (hs : BytesAt (Lt H) H s bs) : ∃ sl H1 v H2, makeSliceA P H 22 (.i .i64 16) (.i .i64 16) = some (sl, H1) ∧ copyA P H1 22 sl s = some (v, H2) ∧ OutAt H.length H2 sl ((bs ++ List.replicate 16 0).take 16) ∧ Kp H H1 ∧ Kp H H2 := by
  have hf := ((Kp.app H [.cells 5 .row (u8s (List.replicate 16 0))]).bytes hs).first
  have hm : makeSliceA P H 22 (.i .i64 16) (.i .i64 16) = some (.sl H.length 0 16, H ++ [.cells 5 .row (u8s (List.replicate 16 0))]) := by
    have hz : (AV.i IntKind.u8 0).cells = [.i .u8 0] := rfl
    have hall : (u8s (List.replicate 16 0)).all AV.one = true := u8s_one _
    simp only [makeSliceA, elemB, sizeU, bytesU, zeroU]
    rw [if_pos (by refine ⟨?_, ?_, ?_, ?_, ?_, ?_, ?_⟩ <;> first | trivial | rfl | omega)]
    rw [hz, show (16 : Int).toNat = 16 from rfl, zeros_u8]
    simp only [newBlk, hall, if_true, Option.map_some]
  have hat : (H ++ [Blk.cells 5 .row (u8s (List.replicate 16 0))])[H.length]? = some (.cells 5 .row (u8s (List.replicate 16 0))) := by simp
  have hov : over (u8s (List.replicate 16 0)) ((u8s bs).take (min bs.length 16)) 0 = u8s ((bs ++ List.replicate 16 0).take 16) := by
    unfold over
    rw [List.take_zero, List.nil_append, Nat.zero_add]
    simp only [u8s, ← List.map_take, ← List.map_drop, ← List.map_append]
    congr 1
    rw [List.length_map, List.length_take, List.take_append, List.drop_replicate, List.take_replicate]
    by_cases hc : bs.length ≤ 16
    · rw [Nat.min_eq_left hc, List.take_length, List.take_of_length_le hc]
      congr 1
      congr 1
      omega
    · rw [Nat.min_eq_right (by omega)]
      have e1 : 16 - min 16 bs.length = 0 := by omega
      have e2 : min (16 - bs.length) 16 = 0 := by omega
      rw [e1, e2]
  refine ⟨_, _, .i .i64 (min bs.length 16 : Nat), H ++ [.cells 5 .row (u8s ((bs ++ List.replicate 16 0).take 16))], hm, ?_, .inr ⟨H.length, Nat.le_refl _, ?_, by simp, ?_⟩, Kp.app _ _, Kp.app _ _⟩
  · simp only [copyA, elemB, sizeU, hf, hat]
    rw [if_pos ⟨rfl, by rw [u8s_length]; simp⟩, hov]
    simp
  · have : ((bs ++ List.replicate 16 0).take 16).length = 16 := by simp
    rw [this]
  · simp
theorem leafS_num (flex null : Bool) (t : Tr) {kind : Nat} (h : kind ≤ 10) (h0 : kind ≠ 0) (h7 : kind ≠ 7) (h8 : kind ≠ 8) (h9 : kind ≠ 9) : leafS flex (kindK kind) null t = be (if kind = 1 then 1 else if kind = 2 ∨ kind = 5 then 2 else if kind = 3 then 4 else 8) t.n := by
  match kind, h, h0, h7, h8, h9 with
  | 1, _, _, _, _, _ => rfl
  | 2, _, _, _, _, _ => rfl
  | 3, _, _, _, _, _ => rfl
  | 4, _, _, _, _, _ => rfl
  | 5, _, _, _, _, _ => rfl
  | 6, _, _, _, _, _ => rfl
  | 10, _, _, _, _, _ => rfl
  | n + 11, h, _, _, _, _ => omega
theorem text_x {H : Heap} {s : AV} {bs : B} (hs : BytesAt (Lt H) H s bs) (flex null : Bool) {size : Nat} (hsz : size ≤ 8) (hb : (cntS flex null size (if null then [] else whole bs).length ++ (if null then [] else whole bs)).length ≤ 549755813888) :
    ∃ s1 s2 o1 H1 o2 H2, CA P NS 27 [s] H (s1, H) ∧ s2 = (if null then .s0 else s1) ∧ lenA P 22 s2 = some (.i .i64 ((if null then [] else whole bs).length : Nat)) ∧
      CA P NS 44 [.b flex, .b null, .i .i64 ((if null then [] else whole bs).length : Nat), .i .i64 (size : Nat)] H (o1, H1) ∧ s2.isS = false ∧ appendA P H1 22 false o1 s2 = some (o2, H2) ∧
      OutAt H.length H2 o2 (cntS flex null size (if null then [] else whole bs).length ++ (if null then [] else whole bs)) ∧ Kp H H1 ∧ Kp H H2 := by
  obtain ⟨s1, hw, hb1⟩ := whole_x hs
  have hb2 : BytesAt (Lt H) H (if null then .s0 else s1) (if null then [] else whole bs) := by
    cases null with
    | true => exact .z
    | false => exact hb1
  have hwl : (if null then [] else whole bs : B).length ≤ 32767 := by
    split
    · simp
    · exact whole_len bs
  generalize hbs : (if null then [] else whole bs : B) = ws at hb hb2 hwl ⊢
  generalize hss : (if null then AV.s0 else s1) = s2 at hb2 ⊢
  obtain ⟨o1, H1, hc, ho, hk⟩ := cntd_x (flex := flex) (null := null) (n := ws.length) (size := size) hsz (by omega) H
  rw [List.length_append] at hb
  obtain ⟨o2, H2, ha, ho2, hk2⟩ := ap_bytes (str := false) hk.1 ho (hk.bytes hb2).first (by omega)
  exact ⟨s1, s2, o1, H1, o2, H2, hw, hss.symm, hb2.len bty, hc, BytesAt.noS hb2, ha, ho2, hk, hk.wt hk2⟩
theorem value_x {kind : Nat} {sub : Fdl} {sv : AV} {null : Bool} {ver : Nat} {flex : Bool} {H : Heap} {c : List AV} {t : Tr} (hk : kind ≤ 10) (hsub : FdAt H sv sub) (hpo : PartOK sub) (ht : TrAt H c t) (hf : t.Fine) (hb : (valueS kind sub null ver flex t).length ≤ 549755813888) :
    ∃ out H', CA P NS 45 [.i .i64 (kind : Nat), sv, .b null, .i .i64 (ver : Nat), .b flex, .g c] H (out, H') ∧ OutAt H.length H' out (valueS kind sub null ver flex t) ∧ Kp H H' := by
  obtain ⟨s, l, u, rfl, hn, hs, hu, hl, hx, hone⟩ := ht.parts
  obtain ⟨b1, H1, hbx, k1, v1, _⟩ := box_new (H := H) (e := 26) hone
  refine CA.wp (fn := Tryz.f45) (R := fun out H' => OutAt H.length H' out (valueS kind sub null ver flex t) ∧ Kp H H') (by kernel_rfl) rfl ?_
  have q0 := eqlI 3 true (kind : Nat) 0
  have q7 := eqlI 3 true (kind : Nat) 7
  have q8 := eqlI 3 true (kind : Nat) 8
  have q9 := eqlI 3 true (kind : Nat) 9
  have q10 := eqlI 3 true (kind : Nat) 10
  have hsz : sizeA P 2 = some 1 := by kernel_rfl
  by_cases c0 : kind = 0
  · have q0 : binA P .eql 3 true (.i .i64 (kind : Nat)) (.i .i64 0) = some (.b true) := by rw [q0]; simp; omega
    have ha := and1 2 true t.n hn
    have hcv := cvi64_8 (t.n % 2)
    obtain ⟨out, H2, hbl, ho, hk'⟩ := push0 H1 (UInt8.ofNat ((t.n % 2) % 256).toNat)
    have hv : valueS kind sub null ver flex t = [UInt8.ofNat ((t.n % 2) % 256).toNat] := by
      subst c0
      show [if t.n % 2 = 1 then (1 : UInt8) else 0] = _
      rcases Int.emod_two_eq t.n with h | h <;> rw [h] <;> rfl
    rw [← hv] at ho
    generalize U8 (UInt8.ofNat ((t.n % 2) % 256).toNat) = y at hcv hbl
    generalize t.n % 2 = n2 at ha hcv
    generalize ((kind : Nat) : Int) = kk at q0 ⊢
    dsimp only [Tryz.f45]
    dsimp only [List.length_cons, List.length_nil, List.cons_append, List.nil_append, Nat.reduceSub, Nat.reduceAdd, List.replicate]
    ((repeat with_reducible refine WP.seqs ?_); refine WP.rg ?_)
    ((repeat with_reducible refine WP.seqs ?_); refine WP.rg ?_)
    ((repeat with_reducible refine WP.seqs ?_); first | refine WP.seq (WP.block ?_) | refine WP.block ?_)
    ((repeat with_reducible refine WP.seqs ?_); refine WP.rg ?_)
    ((repeat with_reducible refine WP.seqs ?_); first | refine WP.seq (WP.condT rfl ?_) | refine WP.condT rfl ?_)
    ((repeat with_reducible refine WP.seqs ?_); refine WP.rg ?_)
    refine WP.ret ?_; repeat (first | with_reducible refine Sq.n ?_ | with_reducible refine Sq.ret ?_ | with_reducible refine Sq.exit ?_ | with_reducible refine Bk.n ?_ | with_reducible refine Bk.ret ?_ | with_reducible refine Bk.exit ?_ | with_reducible refine Bk.ex' (by decide) ?_ | with_reducible refine Lp.ret ?_ | with_reducible refine Lp.exit ?_ | with_reducible refine Lx.exit ?_)
    exact Fe.r1 rfl ⟨ho.mono k1.1, k1.trans hk'⟩
  have q0 : binA P .eql 3 true (.i .i64 (kind : Nat)) (.i .i64 0) = some (.b false) := by rw [q0]; simp; omega
  by_cases c7 : kind = 7
  · have q7 : binA P .eql 3 true (.i .i64 (kind : Nat)) (.i .i64 7) = some (.b true) := by rw [q7]; simp; omega
    obtain ⟨sl, H2, w, H3, hmk, hcp, ho, k2, k3⟩ := uuid_copy (k1.bytes hs)
    have v1 := k2.at_ v1
    have hv : valueS kind sub null ver flex t = (t.s ++ List.replicate 16 0).take 16 := by subst c7; rfl
    rw [← hv] at ho
    generalize ((kind : Nat) : Int) = kk at q0 q7 ⊢
    dsimp only [Tryz.f45]
    dsimp only [List.length_cons, List.length_nil, List.cons_append, List.nil_append, Nat.reduceSub, Nat.reduceAdd, List.replicate]
    ((repeat with_reducible refine WP.seqs ?_); refine WP.rg ?_)
    ((repeat with_reducible refine WP.seqs ?_); refine WP.rg ?_)
    ((repeat with_reducible refine WP.seqs ?_); first | refine WP.seq (WP.block ?_) | refine WP.block ?_)
    ((repeat with_reducible refine WP.seqs ?_); refine WP.rg ?_)
    ((repeat with_reducible refine WP.seqs ?_); first | refine WP.seq (WP.condF rfl ?_) | refine WP.condF rfl ?_)
    ((repeat with_reducible refine WP.seqs ?_); refine WP.rg ?_)
    ((repeat with_reducible refine WP.seqs ?_); first | refine WP.seq (WP.condT rfl ?_) | refine WP.condT rfl ?_)
    ((repeat with_reducible refine WP.seqs ?_); refine WP.rg ?_)
    ((repeat with_reducible refine WP.seqs ?_); refine WP.rg ?_)
    ((repeat with_reducible refine WP.seqs ?_); refine WP.rg ?_)
    refine WP.ret ?_; repeat (first | with_reducible refine Sq.n ?_ | with_reducible refine Sq.ret ?_ | with_reducible refine Sq.exit ?_ | with_reducible refine Bk.n ?_ | with_reducible refine Bk.ret ?_ | with_reducible refine Bk.exit ?_ | with_reducible refine Bk.ex' (by decide) ?_ | with_reducible refine Lp.ret ?_ | with_reducible refine Lp.exit ?_ | with_reducible refine Lx.exit ?_)
    exact Fe.r1 rfl ⟨ho.mono k1.1, k1.trans k3⟩
  have q7 : binA P .eql 3 true (.i .i64 (kind : Nat)) (.i .i64 7) = some (.b false) := by rw [q7]; simp; omega
  by_cases c8 : kind = 8
  · have q8 : binA P .eql 3 true (.i .i64 (kind : Nat)) (.i .i64 8) = some (.b true) := by rw [q8]; simp; omega
    have hv : valueS kind sub null ver flex t = cntS flex null 2 (if null then [] else whole t.s).length ++ (if null then [] else whole t.s) := by
      subst c8
      cases null <;> simp [valueS, leafS, kindK, cntS]
    rw [hv] at hb ⊢
    obtain ⟨s1, s2, o1, H2, o2, H3, hw, hs2, hln, hcn, hns, hap, ho, k2, k3⟩ := text_x (k1.bytes hs) flex null (size := 2) (by omega) hb
    generalize ((kind : Nat) : Int) = kk at q0 q7 q8 ⊢
    generalize (((if null then [] else whole t.s : B).length : Nat) : Int) = wl at hln hcn
    have hcn : CA P NS 44 [.b flex, .b null, .i .i64 wl, .i .i64 2] H1 (o1, H2) := hcn
    cases null with
    | true =>
      obtain rfl : s2 = .s0 := hs2
      dsimp only [Tryz.f45]
      dsimp only [List.length_cons, List.length_nil, List.cons_append, List.nil_append, Nat.reduceSub, Nat.reduceAdd, List.replicate]
      ((repeat with_reducible refine WP.seqs ?_); refine WP.rg ?_)
      ((repeat with_reducible refine WP.seqs ?_); refine WP.rg ?_)
      ((repeat with_reducible refine WP.seqs ?_); first | refine WP.seq (WP.block ?_) | refine WP.block ?_)
      ((repeat with_reducible refine WP.seqs ?_); refine WP.rg ?_)
      ((repeat with_reducible refine WP.seqs ?_); first | refine WP.seq (WP.condF rfl ?_) | refine WP.condF rfl ?_)
      ((repeat with_reducible refine WP.seqs ?_); refine WP.rg ?_)
      ((repeat with_reducible refine WP.seqs ?_); first | refine WP.seq (WP.condF rfl ?_) | refine WP.condF rfl ?_)
      ((repeat with_reducible refine WP.seqs ?_); refine WP.rg ?_)
      ((repeat with_reducible refine WP.seqs ?_); first | refine WP.seq (WP.condT rfl ?_) | refine WP.condT rfl ?_)
      ((repeat with_reducible refine WP.seqs ?_); refine WP.rg ?_)
      ((repeat with_reducible refine WP.seqs ?_); refine WP.rg ?_)
      ((repeat with_reducible refine WP.seqs ?_); first | refine WP.seq (WP.condT rfl ?_) | refine WP.condT rfl ?_)
      refine WP.re ?_; repeat (first | with_reducible refine Sq.n ?_ | with_reducible refine Sq.ret ?_ | with_reducible refine Sq.exit ?_ | with_reducible refine Bk.n ?_ | with_reducible refine Bk.ret ?_ | with_reducible refine Bk.exit ?_ | with_reducible refine Bk.ex' (by decide) ?_ | with_reducible refine Lp.ret ?_ | with_reducible refine Lp.exit ?_ | with_reducible refine Lx.exit ?_)
      ((repeat with_reducible refine WP.seqs ?_); refine WP.rg ?_)
      refine WP.ret ?_; repeat (first | with_reducible refine Sq.n ?_ | with_reducible refine Sq.ret ?_ | with_reducible refine Sq.exit ?_ | with_reducible refine Bk.n ?_ | with_reducible refine Bk.ret ?_ | with_reducible refine Bk.exit ?_ | with_reducible refine Bk.ex' (by decide) ?_ | with_reducible refine Lp.ret ?_ | with_reducible refine Lp.exit ?_ | with_reducible refine Lx.exit ?_)
      exact Fe.r1 rfl ⟨ho.mono k1.1, k1.trans k3⟩
    | false =>
      obtain rfl : s2 = s1 := hs2
      dsimp only [Tryz.f45]
      dsimp only [List.length_cons, List.length_nil, List.cons_append, List.nil_append, Nat.reduceSub, Nat.reduceAdd, List.replicate]
      ((repeat with_reducible refine WP.seqs ?_); refine WP.rg ?_)
      ((repeat with_reducible refine WP.seqs ?_); refine WP.rg ?_)
      ((repeat with_reducible refine WP.seqs ?_); first | refine WP.seq (WP.block ?_) | refine WP.block ?_)
      ((repeat with_reducible refine WP.seqs ?_); refine WP.rg ?_)
      ((repeat with_reducible refine WP.seqs ?_); first | refine WP.seq (WP.condF rfl ?_) | refine WP.condF rfl ?_)
      ((repeat with_reducible refine WP.seqs ?_); refine WP.rg ?_)
      ((repeat with_reducible refine WP.seqs ?_); first | refine WP.seq (WP.condF rfl ?_) | refine WP.condF rfl ?_)
      ((repeat with_reducible refine WP.seqs ?_); refine WP.rg ?_)
      ((repeat with_reducible refine WP.seqs ?_); first | refine WP.seq (WP.condT rfl ?_) | refine WP.condT rfl ?_)
      ((repeat with_reducible refine WP.seqs ?_); refine WP.rg ?_)
      ((repeat with_reducible refine WP.seqs ?_); refine WP.rg ?_)
      ((repeat with_reducible refine WP.seqs ?_); first | refine WP.seq (WP.condF rfl ?_) | refine WP.condF rfl ?_)
      refine WP.skip ?_; repeat (first | with_reducible refine Sq.n ?_ | with_reducible refine Sq.ret ?_ | with_reducible refine Sq.exit ?_ | with_reducible refine Bk.n ?_ | with_reducible refine Bk.ret ?_ | with_reducible refine Bk.exit ?_ | with_reducible refine Bk.ex' (by decide) ?_ | with_reducible refine Lp.ret ?_ | with_reducible refine Lp.exit ?_ | with_reducible refine Lx.exit ?_)
      ((repeat with_reducible refine WP.seqs ?_); refine WP.rg ?_)
      refine WP.ret ?_; repeat (first | with_reducible refine Sq.n ?_ | with_reducible refine Sq.ret ?_ | with_reducible refine Sq.exit ?_ | with_reducible refine Bk.n ?_ | with_reducible refine Bk.ret ?_ | with_reducible refine Bk.exit ?_ | with_reducible refine Bk.ex' (by decide) ?_ | with_reducible refine Lp.ret ?_ | with_reducible refine Lp.exit ?_ | with_reducible refine Lx.exit ?_)
      exact Fe.r1 rfl ⟨ho.mono k1.1, k1.trans k3⟩
  have q8 : binA P .eql 3 true (.i .i64 (kind : Nat)) (.i .i64 8) = some (.b false) := by rw [q8]; simp; omega
  by_cases c9 : kind = 9
  · have q9 : binA P .eql 3 true (.i .i64 (kind : Nat)) (.i .i64 9) = some (.b true) := by rw [q9]; simp; omega
    have hv : valueS kind sub null ver flex t = cntS flex null 4 (if null then [] else whole t.s).length ++ (if null then [] else whole t.s) := by
      subst c9
      cases null <;> simp [valueS, leafS, kindK, cntS]
    rw [hv] at hb ⊢
    obtain ⟨s1, s2, o1, H2, o2, H3, hw, hs2, hln, hcn, hns, hap, ho, k2, k3⟩ := text_x (k1.bytes hs) flex null (size := 4) (by omega) hb
    generalize ((kind : Nat) : Int) = kk at q0 q7 q8 q9 ⊢
    generalize (((if null then [] else whole t.s : B).length : Nat) : Int) = wl at hln hcn
    have hcn : CA P NS 44 [.b flex, .b null, .i .i64 wl, .i .i64 4] H1 (o1, H2) := hcn
    cases null with
    | true =>
      obtain rfl : s2 = .s0 := hs2
      dsimp only [Tryz.f45]
      dsimp only [List.length_cons, List.length_nil, List.cons_append, List.nil_append, Nat.reduceSub, Nat.reduceAdd, List.replicate]
      ((repeat with_reducible refine WP.seqs ?_); refine WP.rg ?_)
      ((repeat with_reducible refine WP.seqs ?_); refine WP.rg ?_)
      ((repeat with_reducible refine WP.seqs ?_); first | refine WP.seq (WP.block ?_) | refine WP.block ?_)
      ((repeat with_reducible refine WP.seqs ?_); refine WP.rg ?_)
      ((repeat with_reducible refine WP.seqs ?_); first | refine WP.seq (WP.condF rfl ?_) | refine WP.condF rfl ?_)
      ((repeat with_reducible refine WP.seqs ?_); refine WP.rg ?_)
      ((repeat with_reducible refine WP.seqs ?_); first | refine WP.seq (WP.condF rfl ?_) | refine WP.condF rfl ?_)
      ((repeat with_reducible refine WP.seqs ?_); refine WP.rg ?_)
      ((repeat with_reducible refine WP.seqs ?_); first | refine WP.seq (WP.condF rfl ?_) | refine WP.condF rfl ?_)
      ((repeat with_reducible refine WP.seqs ?_); refine WP.rg ?_)
      ((repeat with_reducible refine WP.seqs ?_); first | refine WP.seq (WP.condT rfl ?_) | refine WP.condT rfl ?_)
      ((repeat with_reducible refine WP.seqs ?_); refine WP.rg ?_)
      ((repeat with_reducible refine WP.seqs ?_); refine WP.rg ?_)
      ((repeat with_reducible refine WP.seqs ?_); first | refine WP.seq (WP.condT rfl ?_) | refine WP.condT rfl ?_)
      refine WP.re ?_; repeat (first | with_reducible refine Sq.n ?_ | with_reducible refine Sq.ret ?_ | with_reducible refine Sq.exit ?_ | with_reducible refine Bk.n ?_ | with_reducible refine Bk.ret ?_ | with_reducible refine Bk.exit ?_ | with_reducible refine Bk.ex' (by decide) ?_ | with_reducible refine Lp.ret ?_ | with_reducible refine Lp.exit ?_ | with_reducible refine Lx.exit ?_)
      ((repeat with_reducible refine WP.seqs ?_); refine WP.rg ?_)
      refine WP.ret ?_; repeat (first | with_reducible refine Sq.n ?_ | with_reducible refine Sq.ret ?_ | with_reducible refine Sq.exit ?_ | with_reducible refine Bk.n ?_ | with_reducible refine Bk.ret ?_ | with_reducible refine Bk.exit ?_ | with_reducible refine Bk.ex' (by decide) ?_ | with_reducible refine Lp.ret ?_ | with_reducible refine Lp.exit ?_ | with_reducible refine Lx.exit ?_)
      exact Fe.r1 rfl ⟨ho.mono k1.1, k1.trans k3⟩
    | false =>
      obtain rfl : s2 = s1 := hs2
      dsimp only [Tryz.f45]
      dsimp only [List.length_cons, List.length_nil, List.cons_append, List.nil_append, Nat.reduceSub, Nat.reduceAdd, List.replicate]
      ((repeat with_reducible refine WP.seqs ?_); refine WP.rg ?_)
      ((repeat with_reducible refine WP.seqs ?_); refine WP.rg ?_)
      ((repeat with_reducible refine WP.seqs ?_); first | refine WP.seq (WP.block ?_) | refine WP.block ?_)
      ((repeat with_reducible refine WP.seqs ?_); refine WP.rg ?_)
      ((repeat with_reducible refine WP.seqs ?_); first | refine WP.seq (WP.condF rfl ?_) | refine WP.condF rfl ?_)
      ((repeat with_reducible refine WP.seqs ?_); refine WP.rg ?_)
      ((repeat with_reducible refine WP.seqs ?_); first | refine WP.seq (WP.condF rfl ?_) | refine WP.condF rfl ?_)
      ((repeat with_reducible refine WP.seqs ?_); refine WP.rg ?_)
      ((repeat with_reducible refine WP.seqs ?_); first | refine WP.seq (WP.condF rfl ?_) | refine WP.condF rfl ?_)
      ((repeat with_reducible refine WP.seqs ?_); refine WP.rg ?_)
      ((repeat with_reducible refine WP.seqs ?_); first | refine WP.seq (WP.condT rfl ?_) | refine WP.condT rfl ?_)
      ((repeat with_reducible refine WP.seqs ?_); refine WP.rg ?_)
      ((repeat with_reducible refine WP.seqs ?_); refine WP.rg ?_)
      ((repeat with_reducible refine WP.seqs ?_); first | refine WP.seq (WP.condF rfl ?_) | refine WP.condF rfl ?_)
      refine WP.skip ?_; repeat (first | with_reducible refine Sq.n ?_ | with_reducible refine Sq.ret ?_ | with_reducible refine Sq.exit ?_ | with_reducible refine Bk.n ?_ | with_reducible refine Bk.ret ?_ | with_reducible refine Bk.exit ?_ | with_reducible refine Bk.ex' (by decide) ?_ | with_reducible refine Lp.ret ?_ | with_reducible refine Lp.exit ?_ | with_reducible refine Lx.exit ?_)
      ((repeat with_reducible refine WP.seqs ?_); refine WP.rg ?_)
      refine WP.ret ?_; repeat (first | with_reducible refine Sq.n ?_ | with_reducible refine Sq.ret ?_ | with_reducible refine Sq.exit ?_ | with_reducible refine Bk.n ?_ | with_reducible refine Bk.ret ?_ | with_reducible refine Bk.exit ?_ | with_reducible refine Bk.ex' (by decide) ?_ | with_reducible refine Lp.ret ?_ | with_reducible refine Lp.exit ?_ | with_reducible refine Lx.exit ?_)
      exact Fe.r1 rfl ⟨ho.mono k1.1, k1.trans k3⟩
  have q9 : binA P .eql 3 true (.i .i64 (kind : Nat)) (.i .i64 9) = some (.b false) := by rw [q9]; simp; omega
  by_cases c10 : kind = 10
  · have q10 : binA P .eql 3 true (.i .i64 (kind : Nat)) (.i .i64 10) = some (.b true) := by rw [q10]; simp; omega
    have hv : valueS kind sub null ver flex t = partS ver flex sub t := by unfold valueS; rw [if_pos c10]
    rw [hv] at hb ⊢
    obtain ⟨out, H2, hcp, ho, k2⟩ := hpo ver flex (hsub.kp k1) (ht.kp k1) hf hb
    generalize ((kind : Nat) : Int) = kk at q0 q7 q8 q9 q10 ⊢
    generalize ((ver : Nat) : Int) = vv at hcp ⊢
    dsimp only [Tryz.f45]
    dsimp only [List.length_cons, List.length_nil, List.cons_append, List.nil_append, Nat.reduceSub, Nat.reduceAdd, List.replicate]
    ((repeat with_reducible refine WP.seqs ?_); refine WP.rg ?_)
    ((repeat with_reducible refine WP.seqs ?_); refine WP.rg ?_)
    ((repeat with_reducible refine WP.seqs ?_); first | refine WP.seq (WP.block ?_) | refine WP.block ?_)
    ((repeat with_reducible refine WP.seqs ?_); refine WP.rg ?_)
    ((repeat with_reducible refine WP.seqs ?_); first | refine WP.seq (WP.condF rfl ?_) | refine WP.condF rfl ?_)
    ((repeat with_reducible refine WP.seqs ?_); refine WP.rg ?_)
    ((repeat with_reducible refine WP.seqs ?_); first | refine WP.seq (WP.condF rfl ?_) | refine WP.condF rfl ?_)
    ((repeat with_reducible refine WP.seqs ?_); refine WP.rg ?_)
    ((repeat with_reducible refine WP.seqs ?_); first | refine WP.seq (WP.condF rfl ?_) | refine WP.condF rfl ?_)
    ((repeat with_reducible refine WP.seqs ?_); refine WP.rg ?_)
    ((repeat with_reducible refine WP.seqs ?_); first | refine WP.seq (WP.condF rfl ?_) | refine WP.condF rfl ?_)
    ((repeat with_reducible refine WP.seqs ?_); refine WP.rg ?_)
    ((repeat with_reducible refine WP.seqs ?_); first | refine WP.seq (WP.condT rfl ?_) | refine WP.condT rfl ?_)
    ((repeat with_reducible refine WP.seqs ?_); refine WP.rg ?_)
    refine WP.ret ?_; repeat (first | with_reducible refine Sq.n ?_ | with_reducible refine Sq.ret ?_ | with_reducible refine Sq.exit ?_ | with_reducible refine Bk.n ?_ | with_reducible refine Bk.ret ?_ | with_reducible refine Bk.exit ?_ | with_reducible refine Bk.ex' (by decide) ?_ | with_reducible refine Lp.ret ?_ | with_reducible refine Lp.exit ?_ | with_reducible refine Lx.exit ?_)
    exact Fe.r1 rfl ⟨ho.mono k1.1, k1.trans k2⟩
  have q10 : binA P .eql 3 true (.i .i64 (kind : Nat)) (.i .i64 10) = some (.b false) := by rw [q10]; simp; omega
  have hv : valueS kind sub null ver flex t = be (if kind = 1 then 1 else if kind = 2 ∨ kind = 5 then 2 else if kind = 3 then 4 else 8) t.n := by
    unfold valueS; rw [if_neg c10]; exact leafS_num flex null t hk c0 c7 c8 c9
  rw [hv]
  have hwd := width_x (kind := kind) H1
  generalize hsize : (if kind = 1 then 1 else if kind = 2 ∨ kind = 5 then 2 else if kind = 3 then 4 else 8) = size at hwd
  obtain ⟨out, H2, hfx, ho, k2⟩ := fix_x (n := t.n) (size := size) (by rw [← hsize]; split <;> first | omega | (split <;> first | omega | (split <;> omega))) H1
  generalize ((kind : Nat) : Int) = kk at q0 q7 q8 q9 q10 hwd ⊢
  generalize ((size : Nat) : Int) = sz at hwd hfx
  generalize ((ver : Nat) : Int) = vv
  obtain ⟨n1, hwd⟩ := hwd
  obtain ⟨n2, hfx⟩ := hfx
  dsimp only [Tryz.f45]
  dsimp only [List.length_cons, List.length_nil, List.cons_append, List.nil_append, Nat.reduceSub, Nat.reduceAdd, List.replicate]
  ((repeat with_reducible refine WP.seqs ?_); refine WP.rg ?_)
  ((repeat with_reducible refine WP.seqs ?_); refine WP.rg ?_)
  ((repeat with_reducible refine WP.seqs ?_); first | refine WP.seq (WP.block ?_) | refine WP.block ?_)
  ((repeat with_reducible refine WP.seqs ?_); refine WP.rg ?_)
  ((repeat with_reducible refine WP.seqs ?_); first | refine WP.seq (WP.condF rfl ?_) | refine WP.condF rfl ?_)
  ((repeat with_reducible refine WP.seqs ?_); refine WP.rg ?_)
  ((repeat with_reducible refine WP.seqs ?_); first | refine WP.seq (WP.condF rfl ?_) | refine WP.condF rfl ?_)
  ((repeat with_reducible refine WP.seqs ?_); refine WP.rg ?_)
  ((repeat with_reducible refine WP.seqs ?_); first | refine WP.seq (WP.condF rfl ?_) | refine WP.condF rfl ?_)
  ((repeat with_reducible refine WP.seqs ?_); refine WP.rg ?_)
  ((repeat with_reducible refine WP.seqs ?_); first | refine WP.seq (WP.condF rfl ?_) | refine WP.condF rfl ?_)
  ((repeat with_reducible refine WP.seqs ?_); refine WP.rg ?_)
  ((repeat with_reducible refine WP.seqs ?_); first | refine WP.seq (WP.condF rfl ?_) | refine WP.condF rfl ?_)
  refine WP.skip ?_; repeat (first | with_reducible refine Sq.n ?_ | with_reducible refine Sq.ret ?_ | with_reducible refine Sq.exit ?_ | with_reducible refine Bk.n ?_ | with_reducible refine Bk.ret ?_ | with_reducible refine Bk.exit ?_ | with_reducible refine Bk.ex' (by decide) ?_ | with_reducible refine Lp.ret ?_ | with_reducible refine Lp.exit ?_ | with_reducible refine Lx.exit ?_)
  refine WP.rS (Kp H1) (n0 := max n1 n2) (Kp.refl H1) ?_
  apply Exists.intro; apply Exists.intro; apply And.intro
  · intro n hn
    have hwd := hwd n (by omega)
    have hfx := hfx n (by omega)
    have r1 := Kp.refl H1
    (refine OpsP.pu rfl rfl (fun H2 hk => by (try have v1 := Kp.at_ hk v1); (try have v2 := Kp.at_ hk v2); (try have v3 := Kp.at_ hk v3); (try have hld := hld _ hk); exact ⟨_, opy⟩) ?_; dsimp only [AV.cells, putA, List.set_cons_zero, List.set_cons_succ])
    (refine OpsP.pu rfl rfl (fun H2 hk => by (try have v1 := Kp.at_ hk v1); (try have v2 := Kp.at_ hk v2); (try have v3 := Kp.at_ hk v3); (try have hld := hld _ hk); exact ⟨_, opy⟩) ?_; dsimp only [AV.cells, putA, List.set_cons_zero, List.set_cons_succ])
    (refine OpsP.pu rfl rfl (fun H2 hk => by (try have v1 := Kp.at_ hk v1); (try have v2 := Kp.at_ hk v2); (try have v3 := Kp.at_ hk v3); (try have hld := hld _ hk); exact ⟨_, opy⟩) ?_; dsimp only [AV.cells, putA, List.set_cons_zero, List.set_cons_succ])
    (refine OpsP.cl rfl rfl ?_; dsimp only [AV.cells, putA, List.set_cons_zero, List.set_cons_succ])
    (refine OpsP.cl rfl rfl ?_; dsimp only [AV.cells, putA, List.set_cons_zero, List.set_cons_succ])
    (refine OpsP.pu rfl rfl (fun H2 hk => by (try have v1 := Kp.at_ hk v1); (try have v2 := Kp.at_ hk v2); (try have v3 := Kp.at_ hk v3); (try have hld := hld _ hk); exact ⟨_, opy⟩) ?_; dsimp only [AV.cells, putA, List.set_cons_zero, List.set_cons_succ])
    exact OpsP.nil
  refine WP.ret ?_; repeat (first | with_reducible refine Sq.n ?_ | with_reducible refine Sq.ret ?_ | with_reducible refine Sq.exit ?_ | with_reducible refine Bk.n ?_ | with_reducible refine Bk.ret ?_ | with_reducible refine Bk.exit ?_ | with_reducible refine Bk.ex' (by decide) ?_ | with_reducible refine Lp.ret ?_ | with_reducible refine Lp.exit ?_ | with_reducible refine Lx.exit ?_)
  exact Fe.r1 rfl ⟨ho.mono k1.1, k1.trans k2⟩
end Go.Proofs.YtiifcfngbbhgoaaGreatDoor.Rd

