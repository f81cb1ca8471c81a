/-
  BrokerHeartbeatRequest: WHICH KNOWN TAGS ARE WRITTEN; the loop over them.
-/
import Derived.Test.YtiifcfngbbhgoagDoorQHbPass
set_option linter.constructorNameAsVariable false
set_option linter.unusedVariables false
set_option linter.unusedSimpArgs false
namespace Go.Proofs.YtiifcfngbbhgoagDoor.Rd
open Go Go.Proofs.YtiifcfngbbhgoagDoor.Ax Go.Proofs.YtiifcfngbbhgoagDoor.Wire
set_option maxRecDepth 100000
set_option maxHeartbeats 4000000
theorem elT : elemA P 48 = some 49 := by kernel_rfl
theorem szT : sizeA P 49 = some 1 := by kernel_rfl
theorem agT : aggA P 49 = some false := by kernel_rfl
theorem byT : bytesA P 49 = some 4 := by kernel_rfl
theorem zeT : zeroA P 49 = some (.i .u32 0) := by kernel_rfl
def teC (T : List Nat) : List AV := T.map fun q => .i .u32 (q : Nat)
theorem teC_one (T : List Nat) : (teC T).all AV.one = true := by
  rw [List.all_eq_true]
  intro x hx
  obtain ⟨q, _, rfl⟩ := List.mem_map.1 hx
  rfl
theorem teC_len (T : List Nat) : (teC T).length = T.length := by simp [teC]
def TE (lo hi : Nat) (H : Heap) (te : AV) (T : List Nat) : Prop := (te = .s0 ∧ T = []) ∨ ∃ i, lo ≤ i ∧ i < hi ∧ te = .sl i 0 T.length ∧ 0 < T.length ∧ H[i]? = some (.cells 49 .row (teC T))
theorem TE.len {lo hi : Nat} {H : Heap} {te : AV} {T : List Nat} (h : TE lo hi H te T) : lenA P 48 te = some (.i .i64 (T.length : Nat)) := by
  have hu : P.underlying 48 = some (.slice 49) := by kernel_rfl
  unfold lenA
  rcases h with ⟨rfl, rfl⟩ | ⟨i, _, _, rfl, _⟩ <;> simp [hu]
theorem TE.push {lo : Nat} {H : Heap} {te : AV} {T : List Nat} (h : TE lo H.length H te T) (hl : lo ≤ H.length) (hT : T.length ≤ 100) (q : Nat) :
    ∃ sl H1 te' H', buildSliceA P H 48 1 [(0, .i .u32 (q : Nat))] = some (sl, H1) ∧ appendA P H1 48 false te sl = some (te', H') ∧ sl.isS = false ∧ TE lo H'.length H' te' (T ++ [q]) ∧ WKeep lo H H' := by
  have hone : ([AV.i .u32 (q : Nat)]).all AV.one = true := rfl
  have hfi : firstA (H ++ [Blk.cells 49 .row [.i .u32 (q : Nat)]]) 1 (.sl H.length 0 1) = some (1, [.i .u32 (q : Nat)]) := by
    simp only [firstA, List.getElem?_concat_length]
    rw [if_pos ⟨by simp, rfl⟩]; rfl
  refine ⟨.sl H.length 0 1, H ++ [.cells 49 .row [.i .u32 (q : Nat)]], ?_⟩
  have hb : buildSliceA P H 48 1 [(0, .i .u32 (q : Nat))] = some (.sl H.length 0 1, H ++ [.cells 49 .row [.i .u32 (q : Nat)]]) := by
    unfold buildSliceA
    simp only [elT, szT, zeT]
    rw [if_neg (by omega), if_pos ⟨by omega, rfl, rfl, by omega, by omega⟩]
    have hf : fillA (fun i => some (i * 1, 1)) (zerosA (AV.i .u32 0).cells 1) [(0, .i .u32 (q : Nat))] = some [.i .u32 (q : Nat)] := by
      simp only [fillA]
      rw [if_pos ⟨rfl, by simp [zerosA, AV.cells], rfl⟩]
      simp [over, zerosA, AV.cells]
    rw [hf]
    simp only [newBlk, hone, if_true, Option.map_some]
  rcases h with ⟨rfl, rfl⟩ | ⟨i, hi, hi2, rfl, h0, hc⟩
  · refine ⟨.sl (H.length + 1) 0 1, H ++ [.cells 49 .row [.i .u32 (q : Nat)]] ++ [.cells 49 .row [.i .u32 (q : Nat)]], hb, ?_, rfl, .inr ⟨H.length + 1, by omega, by simp, rfl, by simp, by rw [show H.length + 1 = (H ++ [Blk.cells 49 .row [.i .u32 (q : Nat)]]).length by simp, List.getElem?_concat_length]; rfl⟩, ⟨fun k hk => by rw [List.getElem?_append_left (by simp; omega), List.getElem?_append_left (by omega)], by simp⟩⟩
    unfold appendA
    simp only [elT, szT, byT, zeT]
    rw [if_pos ⟨by omega, rfl, rfl, by simp⟩]
    simp only [hfi]
    rw [if_neg (by omega), if_pos ⟨by omega, by omega⟩]
    simp only [newBlk, hone, if_true, Option.map_some, List.length_append, List.length_singleton]
  · have hc1 : (H ++ [Blk.cells 49 .row [.i .u32 (q : Nat)]])[i]? = some (.cells 49 .row (teC T)) := by rw [List.getElem?_append_left hi2]; exact hc
    have hall : (teC T ++ [AV.i .u32 (q : Nat)]).all AV.one = true := by rw [List.all_append, teC_one]; rfl
    have htk : (teC T).take (T.length * 1) = teC T := by rw [Nat.mul_one, ← teC_len, List.take_length]
    refine ⟨.sl (H.length + 1) 0 (T.length + 1), (H ++ [Blk.cells 49 .row [.i .u32 (q : Nat)]]).set i .dead ++ [.cells 49 .row (teC T ++ [.i .u32 (q : Nat)])], hb, ?_, rfl, .inr ⟨H.length + 1, by omega, by simp, by simp, by simp, ?_⟩, ⟨fun k hk => ?_, by simp; omega⟩⟩
    · unfold appendA
      simp only [elT, szT, byT, zeT]
      rw [if_pos ⟨by omega, rfl, rfl, by simp⟩]
      simp only [hfi, hc1]
      rw [if_pos (by refine ⟨?_, ?_, ?_, ?_⟩ <;> first | trivial | rfl | omega | (rw [teC_len]; omega)), htk]
      simp only [newBlk, hall, if_true, Option.map_some, List.length_set, List.length_append, List.length_singleton]
    · have e : H.length + 1 = ((H ++ [Blk.cells 49 .row [.i .u32 (q : Nat)]]).set i .dead).length := by simp
      rw [e, List.getElem?_concat_length]; simp [teC]
    · rw [List.getElem?_append_left (by simp; omega), List.getElem?_set_ne (by omega), List.getElem?_append_left (by omega)]
def tbs (o k : List B) (q : Nat) : B := if q = 0 then tagB 0 (encUs o) else tagB 1 (encUs k)
theorem tbs_len {o k : List B} (ho : All16 o) (hk : All16 k) (h1 : o.length ≤ 1000) (h2 : k.length ≤ 1000) (q : Nat) : (tbs o k q).length ≤ 16020 := by
  unfold tbs
  split
  · have a := encUs_len ho (by omega)
    have b := tagB_len (k := 0) (h := encUs o) (by omega) (by omega)
    omega
  · have a := encUs_len hk (by omega)
    have b := tagB_len (k := 1) (h := encUs k) (by omega) (by omega)
    omega
theorem wtags {L : Nat} {uo uk : List B} (hao : All16 uo) (hak : All16 uk) (hno : uo.length ≤ 1000) (hnk : uk.length ≤ 1000) {sb : Nat} {o k : AV} {cs : List AV} {T : List Nat} (hT : ∀ q ∈ T, q = 0 ∨ (q = 1 ∧ binA P .eql 38 true k .s0 = some (.b false))) (hTl : T.length ≤ 2) {te : AV} {fr : List AV} {H : Heap} {out : AV} {bs : B} {lo : Nat} (hL : L ≤ H.length) (hbs : bs.length ≤ 10000) (hsbl : sb < L)
    (hsb : H[sb]? = some (.cells 43 .vr cs)) (hco : cs[6]? = some o) (hck : cs[7]? = some k) (hwo : WU L H o uo) (hwk : 1 ∈ T → WU L H k uk) (hte : TE lo L H te T) (ho : OutAt L H out bs)
    (hfr : (fr.length = 216 ∧ fr[0]? = some (.p sb 0) ∧ fr[1]? = some (out) ∧ fr[6]? = some (.b true) ∧ fr[12]? = some (te) ∧ fr[112]? = some (te) ∧ fr[113]? = some (.i .i64 (T.length : Nat)) ∧ fr[114]? = some (.i .i64 (0 : Nat)))) :
    WP NS (.loop (cd0 hbW)) fr H (fun x fr' H' => x = .exit 0 ∧ WKeep L H H' ∧ ∃ out', (fr'.length = 216 ∧ fr'[0]? = some (.p sb 0) ∧ fr'[1]? = some (out') ∧ fr'[6]? = some (.b true) ∧ fr'[12]? = some (te)) ∧ OutAt L H' out' (bs ++ T.flatMap (tbs uo uk))) := by
  dsimp only [hbW, Tryd.f12, Option.getD_some, loopsOf, List.cons_append, List.nil_append, cd0]
  generalize hni : ((T.length : Nat) : Int) = n at hfr
  refine WP.loop (Inv := fun j fr' H' => ∃ out', (fr'.length = 216 ∧ fr'[0]? = some (.p sb 0) ∧ fr'[1]? = some (out') ∧ fr'[6]? = some (.b true) ∧ fr'[12]? = some (te) ∧ fr'[112]? = some (te) ∧ fr'[113]? = some (.i .i64 n) ∧ fr'[114]? = some (.i .i64 (j : Nat))) ∧ OutAt L H' out' (bs ++ (T.take j).flatMap (tbs uo uk)) ∧ ((T.take j).flatMap (tbs uo uk)).length ≤ 16020 * j ∧ WKeep L H H') T.length ?_ T.length 0 fr H (by omega) ⟨out, hfr, by simpa using ho, by simp, .refl _ _⟩
  clear hfr ho
  intro j fr H1 hj ⟨out1, ⟨hfl, hf0, hf1, hf6, hf12, hf112, hf113, hf114⟩, ho, hol, hk⟩
  obtain ⟨g, rfl⟩ := ex216 _ hfl; replace hf0 : g 0 = _ := Option.some.inj hf0; replace hf1 : g 1 = _ := Option.some.inj hf1; replace hf6 : g 6 = _ := Option.some.inj hf6; replace hf12 : g 12 = _ := Option.some.inj hf12; replace hf112 : g 112 = _ := Option.some.inj hf112; replace hf113 : g 113 = _ := Option.some.inj hf113; replace hf114 : g 114 = _ := Option.some.inj hf114; rw [hf0, hf1, hf6, hf12, hf112, hf113, hf114]; clear hfl hf0 hf1 hf6 hf12 hf112 hf113 hf114
  have hlt := lssI64 3 false (j : Nat) (T.length : Nat)
  rw [hni] at hlt
  by_cases hjl : j < T.length
  rotate_left
  · replace hlt : binA P .lss 3 false (.i .i64 (j : Nat)) (.i .i64 n) = some (.b false) := by rw [hlt]; simp; omega
    rw [List.take_of_length_le (by omega)] at ho
    generalize ((j : Nat) : Int) = jj at hlt
    ((repeat with_reducible refine WP.seqs ?_); refine WP.rg ?_)
    ((repeat with_reducible refine WP.seqs ?_); first | refine WP.seq (WP.condF rfl ?_) | refine WP.condF rfl ?_)
    refine WP.exit ?_; repeat (first | with_reducible refine Sq.n ?_ | with_reducible refine Sq.ret ?_ | with_reducible refine Sq.exit ?_ | with_reducible refine Bk.n ?_ | with_reducible refine Bk.ret ?_ | with_reducible refine Bk.exit ?_ | with_reducible refine Bk.ex' (by decide) ?_ | with_reducible refine Lp.ret ?_ | with_reducible refine Lp.exit ?_ | with_reducible refine Lx.exit ?_)
    exact ⟨rfl, hk, out1, ⟨rfl, rfl, rfl, rfl, rfl⟩, ho⟩
  replace hlt : binA P .lss 3 false (.i .i64 (j : Nat)) (.i .i64 n) = some (.b true) := by rw [hlt]; simp; omega
  obtain ⟨i, hi, rfl, hc⟩ : ∃ i, i < L ∧ te = .sl i 0 T.length ∧ H[i]? = some (.cells 49 .row (teC T)) := by
    rcases hte with ⟨_, rfl⟩ | ⟨i, _, h2, h3, _, h5⟩
    · simp at hjl
    · exact ⟨i, h2, h3, h5⟩
  have hc1 : H1[i]? = some (.cells 49 .row (teC T)) := by rw [hk.at_ i hi]; exact hc
  have hix : indexAddrA P 48 (.sl i 0 T.length) (.i .i64 (j : Nat)) = some (.p i j) := by
    simp only [indexAddrA, elT, szT]
    rw [if_pos ⟨by omega, by omega⟩]; simp
  have hld : loadA P H1 49 (.p i j) = some (.i .u32 (T[j] : Nat)) := ldc hc1 agT (by simp [teC, hjl])
  have hadd := addI64 3 true (j : Nat) 1 (by omega)
  rw [show ((j : Nat) : Int) + 1 = ((j + 1 : Nat) : Int) by omega] at hadd
  have hsb1 : H1[sb]? = some (.cells 43 .vr cs) := by rw [hk.at_ sb hsbl]; exact hsb
  have hL1 := hk.len
  have htk : (T.take (j + 1)).flatMap (tbs uo uk) = (T.take j).flatMap (tbs uo uk) ++ tbs uo uk T[j] := by
    rw [List.take_add_one, List.getElem?_eq_getElem hjl, Option.toList_some, List.flatMap_append]; simp
  have htl := tbs_len hao hak hno hnk T[j]
  have hmem : T[j] ∈ T := List.getElem_mem _
  have e0 := eqU32 49 true (T[j] : Nat) 0
  have e1 := eqU32 49 true (T[j] : Nat) 1
  have hTj : tbs uo uk T[j] = tbs uo uk T[j] := rfl
  generalize hq : T[j] = q at *
  rcases hT q hmem with rfl | ⟨rfl, hnl⟩
  · replace e0 : binA P .eql 49 true (.i .u32 ((0 : Nat) : Int)) (.i .u32 0) = some (.b true) := by rw [e0]; rfl
    generalize ((0 : Nat) : Int) = zi at e0 hld
    generalize hj1 : ((j + 1 : Nat) : Int) = j1 at hadd
    generalize ((j : Nat) : Int) = jj at hlt hix hadd
    ((repeat with_reducible refine WP.seqs ?_); refine WP.rg ?_)
    ((repeat with_reducible refine WP.seqs ?_); first | refine WP.seq (WP.condT rfl ?_) | refine WP.condT rfl ?_)
    refine WP.skip ?_; repeat (first | with_reducible refine Sq.n ?_ | with_reducible refine Sq.ret ?_ | with_reducible refine Sq.exit ?_ | with_reducible refine Bk.n ?_ | with_reducible refine Bk.ret ?_ | with_reducible refine Bk.exit ?_ | with_reducible refine Bk.ex' (by decide) ?_ | with_reducible refine Lp.ret ?_ | with_reducible refine Lp.exit ?_ | with_reducible refine Lx.exit ?_)
    ((repeat with_reducible refine WP.seqs ?_); first | refine WP.seq (WP.block ?_) | refine WP.block ?_)
    ((repeat with_reducible refine WP.seqs ?_); refine WP.rg ?_)
    ((repeat with_reducible refine WP.seqs ?_); refine WP.rg ?_)
    ((repeat with_reducible refine WP.seqs ?_); first | refine WP.seq (WP.block ?_) | refine WP.block ?_)
    ((repeat with_reducible refine WP.seqs ?_); refine WP.rg ?_)
    ((repeat with_reducible refine WP.seqs ?_); first | refine WP.seq (WP.condT rfl ?_) | refine WP.condT rfl ?_)
    change WP NS (.scope (cd0 hbSc)) _ _ _
    refine WP.mono (wscope0 hao hno (L := L) (bs := bs ++ (T.take j).flatMap (tbs uo uk)) (by omega) (by rw [List.length_append]; omega) hsb1 hco (hwo.keep hk) ho ⟨rfl, rfl, rfl, rfl, rfl, rfl, rfl, rfl⟩) ?_
    rintro x fr' H2 ⟨rfl, w2, out2, ⟨hfl, hf0, hf1, hf6, hf12, hf112, hf113, hf114⟩, ho2⟩
    obtain ⟨g, rfl⟩ := ex216 _ hfl; replace hf0 : g 0 = _ := Option.some.inj hf0; replace hf1 : g 1 = _ := Option.some.inj hf1; replace hf6 : g 6 = _ := Option.some.inj hf6; replace hf12 : g 12 = _ := Option.some.inj hf12; replace hf112 : g 112 = _ := Option.some.inj hf112; replace hf113 : g 113 = _ := Option.some.inj hf113; replace hf114 : g 114 = _ := Option.some.inj hf114; rw [hf0, hf1, hf6, hf12, hf112, hf113, hf114]; clear hfl hf0 hf1 hf6 hf12 hf112 hf113 hf114
    repeat (first | with_reducible refine Sq.n ?_ | with_reducible refine Sq.ret ?_ | with_reducible refine Sq.exit ?_ | with_reducible refine Bk.n ?_ | with_reducible refine Bk.ret ?_ | with_reducible refine Bk.exit ?_ | with_reducible refine Bk.ex' (by decide) ?_ | with_reducible refine Lp.ret ?_ | with_reducible refine Lp.exit ?_ | with_reducible refine Lx.exit ?_)
    refine WP.re ?_; repeat (first | with_reducible refine Sq.n ?_ | with_reducible refine Sq.ret ?_ | with_reducible refine Sq.exit ?_ | with_reducible refine Bk.n ?_ | with_reducible refine Bk.ret ?_ | with_reducible refine Bk.exit ?_ | with_reducible refine Bk.ex' (by decide) ?_ | with_reducible refine Lp.ret ?_ | with_reducible refine Lp.exit ?_ | with_reducible refine Lx.exit ?_)
    refine Lp.n ⟨hjl, out2, ⟨rfl, rfl, rfl, rfl, rfl, rfl, rfl, rfl⟩, ?_, ?_, hk.trans w2⟩
    · rw [htk, ← List.append_assoc]; exact ho2
    · rw [htk, List.length_append]; omega
  · replace e0 : binA P .eql 49 true (.i .u32 ((1 : Nat) : Int)) (.i .u32 0) = some (.b false) := by rw [e0]; rfl
    replace e1 : binA P .eql 49 true (.i .u32 ((1 : Nat) : Int)) (.i .u32 1) = some (.b true) := by rw [e1]; rfl
    generalize ((1 : Nat) : Int) = zi at e0 e1 hld
    generalize hj1 : ((j + 1 : Nat) : Int) = j1 at hadd
    generalize ((j : Nat) : Int) = jj at hlt hix hadd
    ((repeat with_reducible refine WP.seqs ?_); refine WP.rg ?_)
    ((repeat with_reducible refine WP.seqs ?_); first | refine WP.seq (WP.condT rfl ?_) | refine WP.condT rfl ?_)
    refine WP.skip ?_; repeat (first | with_reducible refine Sq.n ?_ | with_reducible refine Sq.ret ?_ | with_reducible refine Sq.exit ?_ | with_reducible refine Bk.n ?_ | with_reducible refine Bk.ret ?_ | with_reducible refine Bk.exit ?_ | with_reducible refine Bk.ex' (by decide) ?_ | with_reducible refine Lp.ret ?_ | with_reducible refine Lp.exit ?_ | with_reducible refine Lx.exit ?_)
    ((repeat with_reducible refine WP.seqs ?_); first | refine WP.seq (WP.block ?_) | refine WP.block ?_)
    ((repeat with_reducible refine WP.seqs ?_); refine WP.rg ?_)
    ((repeat with_reducible refine WP.seqs ?_); refine WP.rg ?_)
    ((repeat with_reducible refine WP.seqs ?_); first | refine WP.seq (WP.block ?_) | refine WP.block ?_)
    ((repeat with_reducible refine WP.seqs ?_); refine WP.rg ?_)
    ((repeat with_reducible refine WP.seqs ?_); first | refine WP.seq (WP.condF rfl ?_) | refine WP.condF rfl ?_)
    ((repeat with_reducible refine WP.seqs ?_); refine WP.rg ?_)
    ((repeat with_reducible refine WP.seqs ?_); first | refine WP.seq (WP.condT rfl ?_) | refine WP.condT rfl ?_)
    change WP NS (.scope (cd1 hbSc)) _ _ _
    refine WP.mono (wscope1 hak hnk (L := L) (bs := bs ++ (T.take j).flatMap (tbs uo uk)) (by omega) (by rw [List.length_append]; omega) hsb1 hck ((hwk hmem).keep hk) ho hnl ⟨rfl, rfl, rfl, rfl, rfl, rfl, rfl, rfl⟩) ?_
    rintro x fr' H2 ⟨rfl, w2, out2, ⟨hfl, hf0, hf1, hf6, hf12, hf112, hf113, hf114⟩, ho2⟩
    obtain ⟨g, rfl⟩ := ex216 _ hfl; replace hf0 : g 0 = _ := Option.some.inj hf0; replace hf1 : g 1 = _ := Option.some.inj hf1; replace hf6 : g 6 = _ := Option.some.inj hf6; replace hf12 : g 12 = _ := Option.some.inj hf12; replace hf112 : g 112 = _ := Option.some.inj hf112; replace hf113 : g 113 = _ := Option.some.inj hf113; replace hf114 : g 114 = _ := Option.some.inj hf114; rw [hf0, hf1, hf6, hf12, hf112, hf113, hf114]; clear hfl hf0 hf1 hf6 hf12 hf112 hf113 hf114
    repeat (first | with_reducible refine Sq.n ?_ | with_reducible refine Sq.ret ?_ | with_reducible refine Sq.exit ?_ | with_reducible refine Bk.n ?_ | with_reducible refine Bk.ret ?_ | with_reducible refine Bk.exit ?_ | with_reducible refine Bk.ex' (by decide) ?_ | with_reducible refine Lp.ret ?_ | with_reducible refine Lp.exit ?_ | with_reducible refine Lx.exit ?_)
    refine WP.re ?_; repeat (first | with_reducible refine Sq.n ?_ | with_reducible refine Sq.ret ?_ | with_reducible refine Sq.exit ?_ | with_reducible refine Bk.n ?_ | with_reducible refine Bk.ret ?_ | with_reducible refine Bk.exit ?_ | with_reducible refine Bk.ex' (by decide) ?_ | with_reducible refine Lp.ret ?_ | with_reducible refine Lp.exit ?_ | with_reducible refine Lx.exit ?_)
    refine Lp.n ⟨hjl, out2, ⟨rfl, rfl, rfl, rfl, rfl, rfl, rfl, rfl⟩, ?_, ?_, hk.trans w2⟩
    · rw [htk, ← List.append_assoc]; exact ho2
    · rw [htk, List.length_append]; omega
end Go.Proofs.YtiifcfngbbhgoagDoor.Rd

