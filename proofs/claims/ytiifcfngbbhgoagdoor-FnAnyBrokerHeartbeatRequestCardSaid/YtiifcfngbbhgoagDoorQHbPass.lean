/-
  BrokerHeartbeatRequest: A KNOWN TAG WRITTEN: once to see how long it is, once behind that length.
-/
import Derived.Test.YtiifcfngbbhgoagDoorQRdEachC
set_option linter.constructorNameAsVariable false
set_option linter.unusedVariables false
set_option linter.unusedSimpArgs false
namespace Go.Proofs.YtiifcfngbbhgoagDoor.Rd
open Go Go.Proofs.YtiifcfngbbhgoagDoor.Ax Go.Proofs.YtiifcfngbbhgoagDoor.Wire
set_option maxRecDepth 100000
set_option maxHeartbeats 4000000
noncomputable def rest0 : Code := (findLabel (cd0 hbSc) 0).getD .skip
noncomputable def rest1 : Code := (findLabel (cd1 hbSc) 1).getD .skip
theorem eqS0 (i n : Nat) : binA P .eql 38 true (.sl i 0 n) .s0 = some (.b false) := by kernel_rfl
theorem eqSn : binA P .eql 38 true .sn .s0 = some (.b false) := by kernel_rfl
theorem cvLen (n : Nat) (h : n < 4294967296) : convA P 3 49 (.i .i64 (n : Nat)) = some (.i .u32 (n : Nat)) := by
  have e : convA P 3 49 (.i .i64 (n : Nat)) = some (.i .u32 (IntKind.u32.wrap (n : Nat))) := by kernel_rfl
  rw [e]; simp [IntKind.wrap, IntKind.signed, IntKind.bits]; omega
theorem OutAt.split {L : Nat} {H : Heap} {out : AV} {bs new : B} (h : OutAt L H out (bs ++ new)) (h0 : 0 < bs.length) (h1 : 0 < new.length) :
    ∃ a b, sliceA P 22 out none (some (.i .i64 (bs.length : Nat))) = some a ∧ sliceA P 22 out (some (.i .i64 (bs.length : Nat))) none = some b ∧ lenA P 22 b = some (.i .i64 (new.length : Nat)) ∧ OutP L H a bs := by
  rcases h with ⟨_, h⟩ | ⟨i, hi, rfl, h3, h4⟩
  · have := congrArg List.length h
    rw [List.length_append, List.length_nil] at this; omega
  · refine ⟨.sl i 0 bs.length, .sl i bs.length new.length, ?_, ?_, ?_, i, _, hi, rfl, h3, by rw [u8s_length, List.length_append]; omega, by simp [u8s]⟩
    · simp only [sliceA, bty.elem, bty.size]
      rw [if_pos ⟨by omega, by rw [List.length_append]; omega⟩]; simp
    · simp only [sliceA, bty.elem, bty.size]
      rw [if_pos ⟨by omega, by omega, by rw [List.length_append]; omega⟩, if_neg (by omega), if_neg (by rw [List.length_append]; omega)]
      simp
    · have hu : P.underlying 22 = some (.slice 5) := by kernel_rfl
      simp [lenA, hu]
theorem wpass0 (flag : Bool) {L : Nat} {us : List B} (ha : All16 us) (hn : us.length ≤ 1000) {w0 w12 w112 w113 w114 av : AV} {fr : List AV} {H : Heap} {out : AV} {bs : B} {la : Nat} (hL : L ≤ H.length) (hb0 : 0 < bs.length) (hbs : bs.length ≤ 100000) (hw : WU L H av us) (ho : OutAt L H out bs) (hla : flag = false → la = bs.length)
    (hfr : (fr.length = 216 ∧ fr[0]? = some (w0) ∧ fr[1]? = some (out) ∧ fr[6]? = some (.b true) ∧ fr[12]? = some (w12) ∧ fr[15]? = some (av) ∧ fr[16]? = some (.b flag) ∧ fr[17]? = some (.i .i64 (la : Nat)) ∧ fr[112]? = some (w112) ∧ fr[113]? = some (w113) ∧ fr[114]? = some (w114))) :
    WP NS rest0 fr H (fun x fr' H' => WKeep L H H' ∧ ∃ out', (fr'.length = 216 ∧ fr'[0]? = some (w0) ∧ fr'[1]? = some (out') ∧ fr'[6]? = some (.b true) ∧ fr'[12]? = some (w12) ∧ fr'[15]? = some (av) ∧ fr'[16]? = some (.b true) ∧ fr'[17]? = some (.i .i64 (la : Nat)) ∧ fr'[112]? = some (w112) ∧ fr'[113]? = some (w113) ∧ fr'[114]? = some (w114)) ∧
      ((flag = false ∧ x = .goto 0 ∧ OutAt L H' out' (bs ++ uv (encUs us).length)) ∨ (flag = true ∧ x = .normal ∧ OutAt L H' out' (bs ++ encUs us)))) := by
  obtain ⟨hfl, hf0, hf1, hf6, hf12, hf15, hf16, hf17, hf112, hf113, hf114⟩ := hfr
  obtain ⟨g, rfl⟩ := ex216 _ hfl; replace hf0 : g 0 = _ := Option.some.inj hf0; replace hf1 : g 1 = _ := Option.some.inj hf1; replace hf6 : g 6 = _ := Option.some.inj hf6; replace hf12 : g 12 = _ := Option.some.inj hf12; replace hf15 : g 15 = _ := Option.some.inj hf15; replace hf16 : g 16 = _ := Option.some.inj hf16; replace hf17 : g 17 = _ := Option.some.inj hf17; replace hf112 : g 112 = _ := Option.some.inj hf112; replace hf113 : g 113 = _ := Option.some.inj hf113; replace hf114 : g 114 = _ := Option.some.inj hf114; rw [hf0, hf1, hf6, hf12, hf15, hf16, hf17, hf112, hf113, hf114]; clear hfl hf0 hf1 hf6 hf12 hf15 hf16 hf17 hf112 hf113 hf114
  have hlen := hw.len
  have heu : (encUs us).length ≤ 16005 := by have := encUs_len ha (by omega); omega
  have heu1 : 0 < (encUs us).length := by unfold encUs; have := Wire.uv_pos (us.length + 1); rw [List.length_append]; omega
  obtain ⟨out1, H1, c1, ho1, w1⟩ := apl_carr.run L H out bs us.length false hL ho (by omega) (by omega)
  replace c1 : CA P NS 20 [out, .i .i64 (us.length : Nat)] H (out1, H1) := c1
  replace ho1 : OutAt L H1 out1 (bs ++ cnt true 4 us.length) := ho1
  rw [show cnt true 4 us.length = uv (us.length + 1) from rfl] at ho1
  have l5 := uv_le5 (n := us.length + 1) (by omega)
  generalize hni : ((us.length : Nat) : Int) = n at hlen c1
  dsimp only [rest0, hbSc, Tryd.f12, Option.getD_some, scopesOf, List.cons_append, List.nil_append, cd0, findLabel, beq_self_eq_true, if_true]
  refine WP.seq ?_
  refine WP.skip ?_; repeat (first | with_reducible refine Sq.n ?_ | with_reducible refine Sq.ret ?_ | with_reducible refine Sq.exit ?_ | with_reducible refine Bk.n ?_ | with_reducible refine Bk.ret ?_ | with_reducible refine Bk.exit ?_ | with_reducible refine Bk.ex' (by decide) ?_ | with_reducible refine Lp.ret ?_ | with_reducible refine Lp.exit ?_ | with_reducible refine Lx.exit ?_)
  ((repeat with_reducible refine WP.seqs ?_); refine WP.rg ?_)
  ((repeat with_reducible refine WP.seqs ?_); first | refine WP.seq (WP.condT rfl ?_) | refine WP.condT rfl ?_)
  refine WP.re ?_; repeat (first | with_reducible refine Sq.n ?_ | with_reducible refine Sq.ret ?_ | with_reducible refine Sq.exit ?_ | with_reducible refine Bk.n ?_ | with_reducible refine Bk.ret ?_ | with_reducible refine Bk.exit ?_ | with_reducible refine Bk.ex' (by decide) ?_ | with_reducible refine Lp.ret ?_ | with_reducible refine Lp.exit ?_ | with_reducible refine Lx.exit ?_)
  ((repeat with_reducible refine WP.seqs ?_); refine WP.rg ?_)
  ((repeat with_reducible refine WP.seqs ?_); first | refine WP.seq (WP.block ?_) | refine WP.block ?_)
  change WP NS (.loop (cd1 hbW)) _ _ _
  refine WP.mono (wuuids0 ha (by omega) (bs := bs ++ uv (us.length + 1)) (by have := w1.len; omega) (by rw [List.length_append]; omega) (hw.keep w1) ho1 ⟨rfl, rfl, rfl, rfl, rfl, rfl, rfl, rfl, rfl, rfl, rfl, by rw [hni]; rfl, rfl⟩) ?_
  rintro x fr' H2 ⟨rfl, out2, ⟨hfl, hf0, hf1, hf6, hf12, hf15, hf16, hf17, hf112, hf113, hf114⟩, ho2, w2⟩
  obtain ⟨g, rfl⟩ := ex216 _ hfl; replace hf0 : g 0 = _ := Option.some.inj hf0; replace hf1 : g 1 = _ := Option.some.inj hf1; replace hf6 : g 6 = _ := Option.some.inj hf6; replace hf12 : g 12 = _ := Option.some.inj hf12; replace hf15 : g 15 = _ := Option.some.inj hf15; replace hf16 : g 16 = _ := Option.some.inj hf16; replace hf17 : g 17 = _ := Option.some.inj hf17; replace hf112 : g 112 = _ := Option.some.inj hf112; replace hf113 : g 113 = _ := Option.some.inj hf113; replace hf114 : g 114 = _ := Option.some.inj hf114; rw [hf0, hf1, hf6, hf12, hf15, hf16, hf17, hf112, hf113, hf114]; clear hfl hf0 hf1 hf6 hf12 hf15 hf16 hf17 hf112 hf113 hf114
  repeat (first | with_reducible refine Sq.n ?_ | with_reducible refine Sq.ret ?_ | with_reducible refine Sq.exit ?_ | with_reducible refine Bk.n ?_ | with_reducible refine Bk.ret ?_ | with_reducible refine Bk.exit ?_ | with_reducible refine Bk.ex' (by decide) ?_ | with_reducible refine Lp.ret ?_ | with_reducible refine Lp.exit ?_ | with_reducible refine Lx.exit ?_)
  have w12 := w1.trans w2
  have ho3 : OutAt L H2 out2 (bs ++ encUs us) := by unfold encUs; rw [← List.append_assoc]; exact ho2
  cases flag with
  | true =>
    ((repeat with_reducible refine WP.seqs ?_); refine WP.rg ?_)
    ((repeat with_reducible refine WP.seqs ?_); first | refine WP.seq (WP.condF rfl ?_) | refine WP.condF rfl ?_)
    refine WP.skip ?_; repeat (first | with_reducible refine Sq.n ?_ | with_reducible refine Sq.ret ?_ | with_reducible refine Sq.exit ?_ | with_reducible refine Bk.n ?_ | with_reducible refine Bk.ret ?_ | with_reducible refine Bk.exit ?_ | with_reducible refine Bk.ex' (by decide) ?_ | with_reducible refine Lp.ret ?_ | with_reducible refine Lp.exit ?_ | with_reducible refine Lx.exit ?_)
    exact ⟨w12, out2, ⟨rfl, rfl, rfl, rfl, rfl, rfl, rfl, rfl, rfl, rfl, rfl⟩, .inr ⟨rfl, rfl, ho3⟩⟩
  | false =>
    obtain rfl : la = bs.length := hla rfl
    obtain ⟨a, b, hs1, hs2, hl2, hp⟩ := ho3.split hb0 heu1
    obtain ⟨out4, H4, c4, ho4, w4⟩ := uvP (n := (encUs us).length) (by have := w12.len; omega) hp (by omega) (by omega)
    have hcv := cvLen (encUs us).length (by omega)
    generalize (((encUs us).length : Nat) : Int) = en at hl2 c4 hcv
    generalize ((bs.length : Nat) : Int) = bn at hs1 hs2
    obtain ⟨n4, c4⟩ := c4
    ((repeat with_reducible refine WP.seqs ?_); refine WP.rg ?_)
    ((repeat with_reducible refine WP.seqs ?_); first | refine WP.seq (WP.condT rfl ?_) | refine WP.condT rfl ?_)
    (repeat with_reducible refine WP.seqs ?_)
    refine WP.rS (fun _ => True) (n0 := n4) trivial ?_
    apply Exists.intro; apply Exists.intro; apply And.intro
    · intro n hn
      have c4 := c4 n (by omega)
      have rT : True := trivial
      (refine OpsP.pu rfl rfl (fun H2 hk => by exact ⟨_, opy⟩) ?_; dsimp only [AV.cells, putA, List.set_cons_zero, List.set_cons_succ])
      (refine OpsP.pu rfl rfl (fun H2 hk => by exact ⟨_, opy⟩) ?_; dsimp only [AV.cells, putA, List.set_cons_zero, List.set_cons_succ])
      (refine OpsP.pu rfl rfl (fun H2 hk => by exact ⟨_, opy⟩) ?_; dsimp only [AV.cells, putA, List.set_cons_zero, List.set_cons_succ])
      (refine OpsP.pu rfl rfl (fun H2 hk => by exact ⟨_, opy⟩) ?_; dsimp only [AV.cells, putA, List.set_cons_zero, List.set_cons_succ])
      (refine OpsP.pu rfl rfl (fun H2 hk => by exact ⟨_, opy⟩) ?_; dsimp only [AV.cells, putA, List.set_cons_zero, List.set_cons_succ])
      (refine OpsP.pu rfl rfl (fun H2 hk => by exact ⟨_, opy⟩) ?_; dsimp only [AV.cells, putA, List.set_cons_zero, List.set_cons_succ])
      (refine OpsP.pu rfl rfl (fun H2 hk => by exact ⟨_, opy⟩) ?_; dsimp only [AV.cells, putA, List.set_cons_zero, List.set_cons_succ])
      (refine OpsP.pu rfl rfl (fun H2 hk => by exact ⟨_, opy⟩) ?_; dsimp only [AV.cells, putA, List.set_cons_zero, List.set_cons_succ])
      (refine OpsP.cl rfl rfl ?_; dsimp only [AV.cells, putA, List.set_cons_zero, List.set_cons_succ])
      (refine OpsP.pu rfl rfl (fun H2 hk => by exact ⟨_, opy⟩) ?_; dsimp only [AV.cells, putA, List.set_cons_zero, List.set_cons_succ])
      exact OpsP.nil
    ((repeat with_reducible refine WP.seqs ?_); refine WP.rg ?_)
    refine WP.goto ?_
    exact ⟨w12.trans w4, out4, ⟨rfl, rfl, rfl, rfl, rfl, rfl, rfl, rfl, rfl, rfl, rfl⟩, .inl ⟨rfl, rfl, ho4⟩⟩
theorem wpass1 (flag : Bool) {L : Nat} {us : List B} (ha : All16 us) (hn : us.length ≤ 1000) {w0 w12 w112 w113 w114 av : AV} {fr : List AV} {H : Heap} {out : AV} {bs : B} {la : Nat} (hL : L ≤ H.length) (hb0 : 0 < bs.length) (hbs : bs.length ≤ 100000) (hw : WU L H av us) (ho : OutAt L H out bs) (hla : flag = false → la = bs.length) (hnl : binA P .eql 38 true av .s0 = some (.b false))
    (hfr : (fr.length = 216 ∧ fr[0]? = some (w0) ∧ fr[1]? = some (out) ∧ fr[6]? = some (.b true) ∧ fr[12]? = some (w12) ∧ fr[20]? = some (av) ∧ fr[21]? = some (.b flag) ∧ fr[22]? = some (.i .i64 (la : Nat)) ∧ fr[112]? = some (w112) ∧ fr[113]? = some (w113) ∧ fr[114]? = some (w114))) :
    WP NS rest1 fr H (fun x fr' H' => WKeep L H H' ∧ ∃ out', (fr'.length = 216 ∧ fr'[0]? = some (w0) ∧ fr'[1]? = some (out') ∧ fr'[6]? = some (.b true) ∧ fr'[12]? = some (w12) ∧ fr'[20]? = some (av) ∧ fr'[21]? = some (.b true) ∧ fr'[22]? = some (.i .i64 (la : Nat)) ∧ fr'[112]? = some (w112) ∧ fr'[113]? = some (w113) ∧ fr'[114]? = some (w114)) ∧
      ((flag = false ∧ x = .goto 1 ∧ OutAt L H' out' (bs ++ uv (encUs us).length)) ∨ (flag = true ∧ x = .normal ∧ OutAt L H' out' (bs ++ encUs us)))) := by
  obtain ⟨hfl, hf0, hf1, hf6, hf12, hf20, hf21, hf22, hf112, hf113, hf114⟩ := hfr
  obtain ⟨g, rfl⟩ := ex216 _ hfl; replace hf0 : g 0 = _ := Option.some.inj hf0; replace hf1 : g 1 = _ := Option.some.inj hf1; replace hf6 : g 6 = _ := Option.some.inj hf6; replace hf12 : g 12 = _ := Option.some.inj hf12; replace hf20 : g 20 = _ := Option.some.inj hf20; replace hf21 : g 21 = _ := Option.some.inj hf21; replace hf22 : g 22 = _ := Option.some.inj hf22; replace hf112 : g 112 = _ := Option.some.inj hf112; replace hf113 : g 113 = _ := Option.some.inj hf113; replace hf114 : g 114 = _ := Option.some.inj hf114; rw [hf0, hf1, hf6, hf12, hf20, hf21, hf22, hf112, hf113, hf114]; clear hfl hf0 hf1 hf6 hf12 hf20 hf21 hf22 hf112 hf113 hf114
  have hlen := hw.len
  have heu : (encUs us).length ≤ 16005 := by have := encUs_len ha (by omega); omega
  have heu1 : 0 < (encUs us).length := by unfold encUs; have := Wire.uv_pos (us.length + 1); rw [List.length_append]; omega
  obtain ⟨out1, H1, c1, ho1, w1⟩ := apl_cnarr.run L H out bs us.length false hL ho (by omega) (by omega)
  replace c1 : CA P NS 23 [out, .i .i64 (us.length : Nat), .b false] H (out1, H1) := c1
  replace ho1 : OutAt L H1 out1 (bs ++ cnt true 4 us.length) := ho1
  rw [show cnt true 4 us.length = uv (us.length + 1) from rfl] at ho1
  have l5 := uv_le5 (n := us.length + 1) (by omega)
  generalize hni : ((us.length : Nat) : Int) = n at hlen c1
  dsimp only [rest1, hbSc, Tryd.f12, Option.getD_some, scopesOf, List.cons_append, List.nil_append, cd1, findLabel, beq_self_eq_true, if_true]
  refine WP.seq ?_
  refine WP.skip ?_; repeat (first | with_reducible refine Sq.n ?_ | with_reducible refine Sq.ret ?_ | with_reducible refine Sq.exit ?_ | with_reducible refine Bk.n ?_ | with_reducible refine Bk.ret ?_ | with_reducible refine Bk.exit ?_ | with_reducible refine Bk.ex' (by decide) ?_ | with_reducible refine Lp.ret ?_ | with_reducible refine Lp.exit ?_ | with_reducible refine Lx.exit ?_)
  ((repeat with_reducible refine WP.seqs ?_); refine WP.rg ?_)
  ((repeat with_reducible refine WP.seqs ?_); first | refine WP.seq (WP.condT rfl ?_) | refine WP.condT rfl ?_)
  refine WP.re ?_; repeat (first | with_reducible refine Sq.n ?_ | with_reducible refine Sq.ret ?_ | with_reducible refine Sq.exit ?_ | with_reducible refine Bk.n ?_ | with_reducible refine Bk.ret ?_ | with_reducible refine Bk.exit ?_ | with_reducible refine Bk.ex' (by decide) ?_ | with_reducible refine Lp.ret ?_ | with_reducible refine Lp.exit ?_ | with_reducible refine Lx.exit ?_)
  ((repeat with_reducible refine WP.seqs ?_); refine WP.rg ?_)
  ((repeat with_reducible refine WP.seqs ?_); first | refine WP.seq (WP.block ?_) | refine WP.block ?_)
  change WP NS (.loop (cd2 hbW)) _ _ _
  refine WP.mono (wuuids1 ha (by omega) (bs := bs ++ uv (us.length + 1)) (by have := w1.len; omega) (by rw [List.length_append]; omega) (hw.keep w1) ho1 ⟨rfl, rfl, rfl, rfl, rfl, rfl, rfl, rfl, rfl, rfl, rfl, by rw [hni]; rfl, rfl⟩) ?_
  rintro x fr' H2 ⟨rfl, out2, ⟨hfl, hf0, hf1, hf6, hf12, hf20, hf21, hf22, hf112, hf113, hf114⟩, ho2, w2⟩
  obtain ⟨g, rfl⟩ := ex216 _ hfl; replace hf0 : g 0 = _ := Option.some.inj hf0; replace hf1 : g 1 = _ := Option.some.inj hf1; replace hf6 : g 6 = _ := Option.some.inj hf6; replace hf12 : g 12 = _ := Option.some.inj hf12; replace hf20 : g 20 = _ := Option.some.inj hf20; replace hf21 : g 21 = _ := Option.some.inj hf21; replace hf22 : g 22 = _ := Option.some.inj hf22; replace hf112 : g 112 = _ := Option.some.inj hf112; replace hf113 : g 113 = _ := Option.some.inj hf113; replace hf114 : g 114 = _ := Option.some.inj hf114; rw [hf0, hf1, hf6, hf12, hf20, hf21, hf22, hf112, hf113, hf114]; clear hfl hf0 hf1 hf6 hf12 hf20 hf21 hf22 hf112 hf113 hf114
  repeat (first | with_reducible refine Sq.n ?_ | with_reducible refine Sq.ret ?_ | with_reducible refine Sq.exit ?_ | with_reducible refine Bk.n ?_ | with_reducible refine Bk.ret ?_ | with_reducible refine Bk.exit ?_ | with_reducible refine Bk.ex' (by decide) ?_ | with_reducible refine Lp.ret ?_ | with_reducible refine Lp.exit ?_ | with_reducible refine Lx.exit ?_)
  have w12 := w1.trans w2
  have ho3 : OutAt L H2 out2 (bs ++ encUs us) := by unfold encUs; rw [← List.append_assoc]; exact ho2
  cases flag with
  | true =>
    ((repeat with_reducible refine WP.seqs ?_); refine WP.rg ?_)
    ((repeat with_reducible refine WP.seqs ?_); first | refine WP.seq (WP.condF rfl ?_) | refine WP.condF rfl ?_)
    refine WP.skip ?_; repeat (first | with_reducible refine Sq.n ?_ | with_reducible refine Sq.ret ?_ | with_reducible refine Sq.exit ?_ | with_reducible refine Bk.n ?_ | with_reducible refine Bk.ret ?_ | with_reducible refine Bk.exit ?_ | with_reducible refine Bk.ex' (by decide) ?_ | with_reducible refine Lp.ret ?_ | with_reducible refine Lp.exit ?_ | with_reducible refine Lx.exit ?_)
    exact ⟨w12, out2, ⟨rfl, rfl, rfl, rfl, rfl, rfl, rfl, rfl, rfl, rfl, rfl⟩, .inr ⟨rfl, rfl, ho3⟩⟩
  | false =>
    obtain rfl : la = bs.length := hla rfl
    obtain ⟨a, b, hs1, hs2, hl2, hp⟩ := ho3.split hb0 heu1
    obtain ⟨out4, H4, c4, ho4, w4⟩ := uvP (n := (encUs us).length) (by have := w12.len; omega) hp (by omega) (by omega)
    have hcv := cvLen (encUs us).length (by omega)
    generalize (((encUs us).length : Nat) : Int) = en at hl2 c4 hcv
    generalize ((bs.length : Nat) : Int) = bn at hs1 hs2
    obtain ⟨n4, c4⟩ := c4
    ((repeat with_reducible refine WP.seqs ?_); refine WP.rg ?_)
    ((repeat with_reducible refine WP.seqs ?_); first | refine WP.seq (WP.condT rfl ?_) | refine WP.condT rfl ?_)
    (repeat with_reducible refine WP.seqs ?_)
    refine WP.rS (fun _ => True) (n0 := n4) trivial ?_
    apply Exists.intro; apply Exists.intro; apply And.intro
    · intro n hn
      have c4 := c4 n (by omega)
      have rT : True := trivial
      (refine OpsP.pu rfl rfl (fun H2 hk => by exact ⟨_, opy⟩) ?_; dsimp only [AV.cells, putA, List.set_cons_zero, List.set_cons_succ])
      (refine OpsP.pu rfl rfl (fun H2 hk => by exact ⟨_, opy⟩) ?_; dsimp only [AV.cells, putA, List.set_cons_zero, List.set_cons_succ])
      (refine OpsP.pu rfl rfl (fun H2 hk => by exact ⟨_, opy⟩) ?_; dsimp only [AV.cells, putA, List.set_cons_zero, List.set_cons_succ])
      (refine OpsP.pu rfl rfl (fun H2 hk => by exact ⟨_, opy⟩) ?_; dsimp only [AV.cells, putA, List.set_cons_zero, List.set_cons_succ])
      (refine OpsP.pu rfl rfl (fun H2 hk => by exact ⟨_, opy⟩) ?_; dsimp only [AV.cells, putA, List.set_cons_zero, List.set_cons_succ])
      (refine OpsP.pu rfl rfl (fun H2 hk => by exact ⟨_, opy⟩) ?_; dsimp only [AV.cells, putA, List.set_cons_zero, List.set_cons_succ])
      (refine OpsP.pu rfl rfl (fun H2 hk => by exact ⟨_, opy⟩) ?_; dsimp only [AV.cells, putA, List.set_cons_zero, List.set_cons_succ])
      (refine OpsP.pu rfl rfl (fun H2 hk => by exact ⟨_, opy⟩) ?_; dsimp only [AV.cells, putA, List.set_cons_zero, List.set_cons_succ])
      (refine OpsP.cl rfl rfl ?_; dsimp only [AV.cells, putA, List.set_cons_zero, List.set_cons_succ])
      (refine OpsP.pu rfl rfl (fun H2 hk => by exact ⟨_, opy⟩) ?_; dsimp only [AV.cells, putA, List.set_cons_zero, List.set_cons_succ])
      exact OpsP.nil
    ((repeat with_reducible refine WP.seqs ?_); refine WP.rg ?_)
    refine WP.goto ?_
    exact ⟨w12.trans w4, out4, ⟨rfl, rfl, rfl, rfl, rfl, rfl, rfl, rfl, rfl, rfl, rfl⟩, .inl ⟨rfl, rfl, ho4⟩⟩
end Go.Proofs.YtiifcfngbbhgoagDoor.Rd

namespace Go.Proofs.YtiifcfngbbhgoagDoor.Rd
open Go Go.Proofs.YtiifcfngbbhgoagDoor.Ax Go.Proofs.YtiifcfngbbhgoagDoor.Wire
set_option maxRecDepth 100000
set_option maxHeartbeats 4000000
theorem WP.unskip {S : CallA} {c : Code} {fr : List AV} {H : Heap} {Q : Ends} (h : WP S (.seq .skip c) fr H Q) : WP S c fr H Q := by
  obtain ⟨x, fr', H', ⟨n0, h1⟩, h2⟩ := h
  refine ⟨x, fr', H', ⟨n0 + 1, fun n hn => ?_⟩, h2⟩
  have := h1 (n + 1) (by omega)
  obtain ⟨m, rfl⟩ : ∃ m, n = m + 1 := ⟨n - 1, by omega⟩
  rw [exec] at this
  have e : exec P S (drawA P) (m + 1) .skip fr H = some (.normal, fr, H) := by rw [exec]
  simp only [e] at this
  exact this
theorem fl0 : findLabel (cd0 hbSc) 0 = some rest0 := by
  have : (findLabel (cd0 hbSc) 0).isSome = true := by kernel_rfl
  unfold rest0
  cases h : findLabel (cd0 hbSc) 0 with
  | none => rw [h] at this; cases this
  | some x => rfl
theorem fl1 : findLabel (cd1 hbSc) 1 = some rest1 := by
  have : (findLabel (cd1 hbSc) 1).isSome = true := by kernel_rfl
  unfold rest1
  cases h : findLabel (cd1 hbSc) 1 with
  | none => rw [h] at this; cases this
  | some x => rfl
theorem lenOut {L : Nat} {H : Heap} {out : AV} {bs : B} (h : OutAt L H out bs) : lenA P 22 out = some (.i .i64 (bs.length : Nat)) := by
  have hu : P.underlying 22 = some (.slice 5) := by kernel_rfl
  unfold lenA
  rcases h with ⟨rfl, rfl⟩ | ⟨i, _, rfl, _⟩ <;> simp [hu]
theorem wscope0 {L : Nat} {us : List B} (ha : All16 us) (hn : us.length ≤ 1000) {sb : Nat} {w12 w112 w113 w114 av : AV} {cs : List AV} {fr : List AV} {H : Heap} {out : AV} {bs : B} (hL : L ≤ H.length) (hbs : bs.length ≤ 90000) (hsb : H[sb]? = some (.cells 43 .vr cs)) (hc : cs[6]? = some av) (hw : WU L H av us) (ho : OutAt L H out bs)
    (hfr : (fr.length = 216 ∧ fr[0]? = some (.p sb 0) ∧ fr[1]? = some (out) ∧ fr[6]? = some (.b true) ∧ fr[12]? = some (w12) ∧ fr[112]? = some (w112) ∧ fr[113]? = some (w113) ∧ fr[114]? = some (w114))) :
    WP NS (.scope (cd0 hbSc)) fr H (fun x fr' H' => x = .normal ∧ WKeep L H H' ∧ ∃ out', (fr'.length = 216 ∧ fr'[0]? = some (.p sb 0) ∧ fr'[1]? = some (out') ∧ fr'[6]? = some (.b true) ∧ fr'[12]? = some (w12) ∧ fr'[112]? = some (w112) ∧ fr'[113]? = some (w113) ∧ fr'[114]? = some (w114)) ∧ OutAt L H' out' (bs ++ tagB 0 (encUs us))) := by
  obtain ⟨hfl, hf0, hf1, hf6, hf12, hf112, hf113, hf114⟩ := hfr
  obtain ⟨g, rfl⟩ := ex216 _ hfl; replace hf0 : g 0 = _ := Option.some.inj hf0; replace hf1 : g 1 = _ := Option.some.inj hf1; replace hf6 : g 6 = _ := Option.some.inj hf6; replace hf12 : g 12 = _ := Option.some.inj hf12; replace hf112 : g 112 = _ := Option.some.inj hf112; replace hf113 : g 113 = _ := Option.some.inj hf113; replace hf114 : g 114 = _ := Option.some.inj hf114; rw [hf0, hf1, hf6, hf12, hf112, hf113, hf114]; clear hfl hf0 hf1 hf6 hf12 hf112 hf113 hf114
  have xf := f6 sb
  have hld : loadA P H 38 (.p sb 6) = some av := ldc hsb aUs hc
  obtain ⟨out1, H1, c1, ho1, w1⟩ := apu_uv.run L H out bs 0 hL ho (by omega) (by omega)
  replace c1 : CA P NS 18 [out, .i .u32 0] H (out1, H1) := c1
  have l1 := uv_le5 (n := 0) (by omega)
  have l0 := Wire.uv_pos 0
  have hlo := lenOut ho1
  have hL1 := w1.len
  refine WP.scope1 fl0 ?_
  dsimp only [hbSc, Tryd.f12, Option.getD_some, scopesOf, List.cons_append, List.nil_append, cd0]
  ((repeat with_reducible refine WP.seqs ?_); refine WP.rg ?_)
  ((repeat with_reducible refine WP.seqs ?_); refine WP.rg ?_)
  ((repeat with_reducible refine WP.seqs ?_); refine WP.rg ?_)
  ((repeat with_reducible refine WP.seqs ?_); refine WP.rg ?_)
  refine WP.seq (WP.label ?_)
  repeat (first | with_reducible refine Sq.n ?_ | with_reducible refine Sq.ret ?_ | with_reducible refine Sq.exit ?_ | with_reducible refine Bk.n ?_ | with_reducible refine Bk.ret ?_ | with_reducible refine Bk.exit ?_ | with_reducible refine Bk.ex' (by decide) ?_ | with_reducible refine Lp.ret ?_ | with_reducible refine Lp.exit ?_ | with_reducible refine Lx.exit ?_)
  refine WP.unskip ?_
  change WP NS rest0 _ _ _
  refine WP.mono (wpass0 false ha hn (L := L) (bs := bs ++ uv 0) (la := (bs ++ uv 0).length) (by omega) (by rw [List.length_append]; omega) (by rw [List.length_append]; omega) (hw.keep w1) ho1 (fun _ => rfl) ⟨rfl, rfl, rfl, rfl, rfl, rfl, rfl, rfl, rfl, rfl, rfl⟩) ?_
  rintro x fr' H2 ⟨w2, out2, ⟨hfl, hf0, hf1, hf6, hf12, hf15, hf16, hf17, hf112, hf113, hf114⟩, ⟨_, rfl, ho2⟩ | ⟨h, _⟩⟩
  rotate_left
  · cases h
  refine ⟨rfl, ?_⟩
  have l2 := uv_le5 (n := (encUs us).length) (by have := encUs_len ha (by omega); omega)
  refine WP.mono (wpass0 true ha hn (L := L) (bs := bs ++ uv 0 ++ uv (encUs us).length) (la := (bs ++ uv 0).length) (by have := w2.len; omega) (by rw [List.length_append, List.length_append]; omega) (by rw [List.length_append, List.length_append]; omega) ((hw.keep w1).keep w2) ho2 (fun h => by cases h) ⟨hfl, hf0, hf1, hf6, hf12, hf15, hf16, hf17, hf112, hf113, hf114⟩) ?_
  rintro y fr2 H3 ⟨w3, out3, ⟨hfl3, p0, p1, p6, p12, _, _, _, p112, p113, p114⟩, ⟨h, _⟩ | ⟨_, rfl, ho3⟩⟩
  · cases h
  refine ⟨fun l e => (by cases e), rfl, (w1.trans w2).trans w3, out3, ⟨hfl3, p0, p1, p6, p12, p112, p113, p114⟩, ?_⟩
  have e : bs ++ tagB 0 (encUs us) = bs ++ uv 0 ++ uv (encUs us).length ++ encUs us := by simp [tagB, List.append_assoc]
  rw [e]; exact ho3
theorem wscope1 {L : Nat} {us : List B} (ha : All16 us) (hn : us.length ≤ 1000) {sb : Nat} {w12 w112 w113 w114 av : AV} {cs : List AV} {fr : List AV} {H : Heap} {out : AV} {bs : B} (hL : L ≤ H.length) (hbs : bs.length ≤ 90000) (hsb : H[sb]? = some (.cells 43 .vr cs)) (hc : cs[7]? = some av) (hw : WU L H av us) (ho : OutAt L H out bs) (hnl : binA P .eql 38 true av .s0 = some (.b false))
    (hfr : (fr.length = 216 ∧ fr[0]? = some (.p sb 0) ∧ fr[1]? = some (out) ∧ fr[6]? = some (.b true) ∧ fr[12]? = some (w12) ∧ fr[112]? = some (w112) ∧ fr[113]? = some (w113) ∧ fr[114]? = some (w114))) :
    WP NS (.scope (cd1 hbSc)) fr H (fun x fr' H' => x = .normal ∧ WKeep L H H' ∧ ∃ out', (fr'.length = 216 ∧ fr'[0]? = some (.p sb 0) ∧ fr'[1]? = some (out') ∧ fr'[6]? = some (.b true) ∧ fr'[12]? = some (w12) ∧ fr'[112]? = some (w112) ∧ fr'[113]? = some (w113) ∧ fr'[114]? = some (w114)) ∧ OutAt L H' out' (bs ++ tagB 1 (encUs us))) := by
  obtain ⟨hfl, hf0, hf1, hf6, hf12, hf112, hf113, hf114⟩ := hfr
  obtain ⟨g, rfl⟩ := ex216 _ hfl; replace hf0 : g 0 = _ := Option.some.inj hf0; replace hf1 : g 1 = _ := Option.some.inj hf1; replace hf6 : g 6 = _ := Option.some.inj hf6; replace hf12 : g 12 = _ := Option.some.inj hf12; replace hf112 : g 112 = _ := Option.some.inj hf112; replace hf113 : g 113 = _ := Option.some.inj hf113; replace hf114 : g 114 = _ := Option.some.inj hf114; rw [hf0, hf1, hf6, hf12, hf112, hf113, hf114]; clear hfl hf0 hf1 hf6 hf12 hf112 hf113 hf114
  have xf := f7 sb
  have hld : loadA P H 38 (.p sb 7) = some av := ldc hsb aUs hc
  obtain ⟨out1, H1, c1, ho1, w1⟩ := apu_uv.run L H out bs 1 hL ho (by omega) (by omega)
  replace c1 : CA P NS 18 [out, .i .u32 1] H (out1, H1) := c1
  have l1 := uv_le5 (n := 1) (by omega)
  have l0 := Wire.uv_pos 1
  have hlo := lenOut ho1
  have hL1 := w1.len
  refine WP.scope1 fl1 ?_
  dsimp only [hbSc, Tryd.f12, Option.getD_some, scopesOf, List.cons_append, List.nil_append, cd1]
  ((repeat with_reducible refine WP.seqs ?_); refine WP.rg ?_)
  ((repeat with_reducible refine WP.seqs ?_); refine WP.rg ?_)
  ((repeat with_reducible refine WP.seqs ?_); refine WP.rg ?_)
  ((repeat with_reducible refine WP.seqs ?_); refine WP.rg ?_)
  refine WP.seq (WP.label ?_)
  repeat (first | with_reducible refine Sq.n ?_ | with_reducible refine Sq.ret ?_ | with_reducible refine Sq.exit ?_ | with_reducible refine Bk.n ?_ | with_reducible refine Bk.ret ?_ | with_reducible refine Bk.exit ?_ | with_reducible refine Bk.ex' (by decide) ?_ | with_reducible refine Lp.ret ?_ | with_reducible refine Lp.exit ?_ | with_reducible refine Lx.exit ?_)
  refine WP.unskip ?_
  change WP NS rest1 _ _ _
  refine WP.mono (wpass1 false ha hn (L := L) (bs := bs ++ uv 1) (la := (bs ++ uv 1).length) (by omega) (by rw [List.length_append]; omega) (by rw [List.length_append]; omega) (hw.keep w1) ho1 (fun _ => rfl) hnl ⟨rfl, rfl, rfl, rfl, rfl, rfl, rfl, rfl, rfl, rfl, rfl⟩) ?_
  rintro x fr' H2 ⟨w2, out2, ⟨hfl, hf0, hf1, hf6, hf12, hf20, hf21, hf22, hf112, hf113, hf114⟩, ⟨_, rfl, ho2⟩ | ⟨h, _⟩⟩
  rotate_left
  · cases h
  refine ⟨rfl, ?_⟩
  have l2 := uv_le5 (n := (encUs us).length) (by have := encUs_len ha (by omega); omega)
  refine WP.mono (wpass1 true ha hn (L := L) (bs := bs ++ uv 1 ++ uv (encUs us).length) (la := (bs ++ uv 1).length) (by have := w2.len; omega) (by rw [List.length_append, List.length_append]; omega) (by rw [List.length_append, List.length_append]; omega) ((hw.keep w1).keep w2) ho2 (fun h => by cases h) hnl ⟨hfl, hf0, hf1, hf6, hf12, hf20, hf21, hf22, hf112, hf113, hf114⟩) ?_
  rintro y fr2 H3 ⟨w3, out3, ⟨hfl3, p0, p1, p6, p12, _, _, _, p112, p113, p114⟩, ⟨h, _⟩ | ⟨_, rfl, ho3⟩⟩
  · cases h
  refine ⟨fun l e => (by cases e), rfl, (w1.trans w2).trans w3, out3, ⟨hfl3, p0, p1, p6, p12, p112, p113, p114⟩, ?_⟩
  have e : bs ++ tagB 1 (encUs us) = bs ++ uv 1 ++ uv (encUs us).length ++ encUs us := by simp [tagB, List.append_assoc]
  rw [e]; exact ho3
end Go.Proofs.YtiifcfngbbhgoagDoor.Rd

