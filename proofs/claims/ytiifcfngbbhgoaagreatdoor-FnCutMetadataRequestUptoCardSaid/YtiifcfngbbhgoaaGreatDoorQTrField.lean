/-
  WHAT THE REFERENCE WRITES OF A FIELD.
-/
import Derived.Test.YtiifcfngbbhgoaaGreatDoorQTrVal
import Derived.Test.YtiifcfngbbhgoaaGreatDoorQTrLeafD
set_option linter.constructorNameAsVariable false
set_option linter.unusedVariables false
set_option linter.unusedSimpArgs false
namespace Go.Proofs.YtiifcfngbbhgoaaGreatDoor.Rd
open Go Go.Proofs.YtiifcfngbbhgoaaGreatDoor.Ax Go.Proofs.YtiifcfngbbhgoaaGreatDoor.Wire
set_option maxRecDepth 100000
set_option maxHeartbeats 2000000
theorem wk_at {L : Nat} {H H' : Heap} {b : Nat} {x : Blk} (k : WKeep L H H') (hb : b < L) (h : H[b]? = some x) : H'[b]? = some x := by rw [k.at_ b hb]; exact h
theorem WKeep.kp {L : Nat} {H H' : Heap} (k : Kp H H') (hL : L ≤ H.length) : WKeep L H H' := ⟨fun i hi => k.2 i (by omega), k.1⟩
theorem SlAt.idxk {H : Heap} {sz n : Nat} {av : AV} (h : SlAt H sz av n) {t e : TypeId} (ht : elemA P t = some e) (hz : sizeA P e = some sz) (ha : aggA P e = some true) {j : Nat} (hj : j < n) :
    ∃ p c, indexAddrA P t av (.i .i64 (j : Nat)) = some p ∧ (∀ H', Kp H H' → loadA P H' e p = some (.g c)) ∧ elAt H sz av j = some c ∧ c.length = sz := by
  obtain ⟨p, c, h1, h2, h3, h4⟩ := h.idx ht hz ha hj
  refine ⟨p, c, h1, fun H' k => ?_, h3, h4⟩
  obtain ⟨p', c', q1, q2, q3, _⟩ := (h.kp k).idx ht hz ha hj
  rw [h1] at q1; cases q1
  rw [h.el k hj, h3] at q3; cases q3
  exact q2
theorem exN : ∀ (n : Nat) (fr : List AV), fr.length = n → ∃ g : Nat → AV, fr = (List.range n).map g := fun n fr h => ⟨fun i => fr.getD i .u, by
  apply List.ext_getElem
  · simp [h]
  · intro i h1 h2
    simp [List.getD_eq_getElem?_getD, h1]⟩
theorem ex76 (fr : List AV) (h : fr.length = 76) : ∃ g : Nat → AV, fr = [g 0, g 1, g 2, g 3, g 4, g 5, g 6, g 7, g 8, g 9, g 10, g 11, g 12, g 13, g 14, g 15, g 16, g 17, g 18, g 19, g 20, g 21, g 22, g 23, g 24, g 25, g 26, g 27, g 28, g 29, g 30, g 31, g 32, g 33, g 34, g 35, g 36, g 37, g 38, g 39, g 40, g 41, g 42, g 43, g 44, g 45, g 46, g 47, g 48, g 49, g 50, g 51, g 52, g 53, g 54, g 55, g 56, g 57, g 58, g 59, g 60, g 61, g 62, g 63, g 64, g 65, g 66, g 67, g 68, g 69, g 70, g 71, g 72, g 73, g 74, g 75] := by
  obtain ⟨g, rfl⟩ := exN 76 fr h
  exact ⟨g, rfl⟩
def fieldS (kind : Nat) (null : Int) (of : Nat) (sub : Fdl) (ver : Nat) (flex : Bool) (t : Tr) : B :=
  if kind = 11 then cntS flex (t.null && nulS null ver) 4 (if t.null && nulS null ver then [] else t.l.take 32767 : List Tr).length ++ (if t.null && nulS null ver then [] else t.l.take 32767 : List Tr).flatMap (valueS of sub false ver flex)
  else valueS kind sub (t.null && nulS null ver) ver flex t
theorem field_x {kind : Nat} {frm to null tag dflt : Int} {of : Nat} {sub : Fdl} {sv : AV} {ver : Nat} {flex : Bool} {H : Heap} {c : List AV} {t : Tr} (hk : kind ≤ 11) (hof : of ≤ 10) (hnl : kind ≠ 10 ∨ null < 0) (h1 : sv.one = true) (hsub : FdAt H sv sub) (hpo : PartOK sub) (ht : TrAt H c t) (hf : t.Fine)
    (hb : (fieldS kind null of sub ver flex t).length ≤ 549755813888) :
    ∃ out H', CA P NS 21 [.g (fcs kind frm to null tag dflt of sv), .i .i64 (ver : Nat), .b flex, .g c] H (out, H') ∧ OutAt H.length H' out (fieldS kind null of sub ver flex t) ∧ Kp H H' := by
  obtain ⟨s, l, u, rfl, hn, hs, hu, hl, hx, hone⟩ := ht.parts
  obtain ⟨b1, H1, hbx1, k1, v1, _⟩ := box_new (H := H) (e := 47) (fcs_one (kind := kind) (frm := frm) (to := to) (null := null) (tag := tag) (dflt := dflt) (of := of) h1)
  obtain ⟨b2, H2, hbx2, k2, v2, _⟩ := box_new (H := H1) (e := 26) hone
  replace v1 := k2.at_ v1
  obtain ⟨nv, H3, hcn, hnv, k3⟩ := null_x (kind := kind) (frm := frm) (to := to) (null := null) (tag := tag) (dflt := dflt) (of := of) h1 ver (H := H2) hone
  subst hnv
  have w1 := v1
  have w2 := v2
  replace v1 := k3.at_ v1
  replace v2 := k3.at_ v2
  have k03 := (k1.trans k2).trans k3
  refine CA.wp (fn := Tryz.f21) (R := fun out H' => OutAt H.length H' out (fieldS kind null of sub ver flex t) ∧ Kp H H') (by kernel_rfl) rfl ?_
  have q11 := eqlI 3 true (kind : Nat) 11
  have q10 := eqlI 3 true (kind : Nat) 10
  have hb1 : b1 < H3.length := (List.getElem?_eq_some_iff.1 v1).1
  have hb2 : b2 < H3.length := (List.getElem?_eq_some_iff.1 v2).1
  have ht3 := ht.kp k03
  by_cases c11 : kind = 11
  · replace q11 : binA P .eql 3 true (.i .i64 (kind : Nat)) (.i .i64 11) = some (.b true) := by rw [q11]; simp; omega
    have hfs : fieldS kind null of sub ver flex t = cntS flex (t.null && nulS null ver) 4 (if t.null && nulS null ver then [] else t.l.take 32767 : List Tr).length ++ (if t.null && nulS null ver then [] else t.l.take 32767 : List Tr).flatMap (valueS of sub false ver flex) := by
      unfold fieldS; rw [if_pos c11]
    rw [hfs] at hb ⊢
    obtain ⟨l1, hth, hl1, hel1⟩ := things_x (hl.kp k03)
    generalize hnn : (t.null && nulS null ver) = nv at hb hcn hfs ⊢
    obtain ⟨l2, L, hL, hl2e, hl2, hL1, hx2⟩ : ∃ (l2 : AV) (L : List Tr), L = (if nv then [] else t.l.take 32767 : List Tr) ∧ l2 = (if nv then .s0 else l1) ∧ SlAt H3 5 l2 L.length ∧ (∀ x ∈ L, x.Fine) ∧ ∀ (j : Nat) (x : Tr), L[j]? = some x → ∀ c, elAt H3 5 l2 j = some c → TrAt H3 c x := by
      cases nv with
      | true => exact ⟨.s0, [], rfl, rfl, .inl ⟨.inl rfl, rfl⟩, by simp, fun j x hj => by simp at hj⟩
      | false =>
        refine ⟨l1, t.l.take 32767, rfl, rfl, ?_, fun x hxm => hf.l x (List.mem_of_mem_take hxm), fun j x hj c hc => ?_⟩
        · rw [List.length_take, Nat.min_comm]; exact hl1
        · rw [List.getElem?_take] at hj
          split at hj
          · rw [hel1, hl.el k03 (List.getElem?_eq_some_iff.1 hj).1] at hc
            exact (hx j x hj c hc).kp k03
          · cases hj
    rw [← hL] at hb ⊢
    have hLl : L.length ≤ 32767 := by
      rw [hL]; split
      · simp
      · rw [List.length_take]; omega
    have hlen2 := hl2.len (t := 23) (by rw [elT]; rfl)
    obtain ⟨o1, H4, hct, ho1, k4⟩ := cntd_x (flex := flex) (null := nv) (n := L.length) (size := 4) (by omega) (by omega) H3
    have hct : CA P NS 44 [.b flex, .b nv, .i .i64 (L.length : Nat), .i .i64 4] H3 (o1, H4) := hct
    generalize htot : cntS flex nv 4 L.length ++ L.flatMap (valueS of sub false ver flex) = tot at hb ⊢
    generalize hni : ((L.length : Nat) : Int) = ni at hlen2 hct
    generalize hvi : ((ver : Nat) : Int) = vi at hcn ⊢
    dsimp only [Tryz.f21]
    dsimp only [List.length_cons, List.length_nil, List.cons_append, List.nil_append, Nat.reduceSub, Nat.reduceAdd, List.replicate]
    ((repeat with_reducible refine WP.seqs ?_); refine WP.rg ?_)
    ((repeat with_reducible refine WP.seqs ?_); refine WP.rg ?_)
    ((repeat with_reducible refine WP.seqs ?_); refine WP.rg ?_)
    ((repeat with_reducible refine WP.seqs ?_); first | refine WP.seq (WP.condT rfl ?_) | refine WP.condT rfl ?_)
    ((repeat with_reducible refine WP.seqs ?_); refine WP.rg ?_)
    refine WP.seq (WP.mono (Q' := fun x fr' H' => x = .normal ∧ H3 = H' ∧ (fr'.length = 76 ∧ fr'[0]? = some (.g (fcs kind frm to null tag dflt of sv)) ∧ fr'[1]? = some (.i .i64 vi) ∧ fr'[2]? = some (.b flex) ∧ fr'[4]? = some (.p b1 0) ∧ fr'[7]? = some (.p b2 0) ∧ fr'[9]? = some (.b nv) ∧ fr'[10]? = some (l2))) ?_ ?_)
    · subst hl2e
      cases nv with
      | true =>
        ((repeat with_reducible refine WP.seqs ?_); refine WP.rg ?_)
        ((repeat with_reducible refine WP.seqs ?_); first | refine WP.seq (WP.condT rfl ?_) | refine WP.condT rfl ?_)
        refine WP.re ?_; repeat (first | with_reducible refine Sq.n ?_ | with_reducible refine Sq.ret ?_ | with_reducible refine Sq.exit ?_ | with_reducible refine Bk.n ?_ | with_reducible refine Bk.ret ?_ | with_reducible refine Bk.exit ?_ | with_reducible refine Bk.ex' (by decide) ?_ | with_reducible refine Lp.ret ?_ | with_reducible refine Lp.exit ?_ | with_reducible refine Lx.exit ?_)
        exact ⟨rfl, rfl, ⟨rfl, rfl, rfl, rfl, rfl, rfl, rfl, rfl⟩⟩
      | false =>
        ((repeat with_reducible refine WP.seqs ?_); refine WP.rg ?_)
        ((repeat with_reducible refine WP.seqs ?_); first | refine WP.seq (WP.condF rfl ?_) | refine WP.condF rfl ?_)
        refine WP.skip ?_; repeat (first | with_reducible refine Sq.n ?_ | with_reducible refine Sq.ret ?_ | with_reducible refine Sq.exit ?_ | with_reducible refine Bk.n ?_ | with_reducible refine Bk.ret ?_ | with_reducible refine Bk.exit ?_ | with_reducible refine Bk.ex' (by decide) ?_ | with_reducible refine Lp.ret ?_ | with_reducible refine Lp.exit ?_ | with_reducible refine Lx.exit ?_)
        exact ⟨rfl, rfl, ⟨rfl, rfl, rfl, rfl, rfl, rfl, rfl, rfl⟩⟩
    rintro x fr' H' ⟨rfl, rfl, hfl, hf0, hf1, hf2, hf4, hf7, hf9, hf10⟩
    obtain ⟨g, rfl⟩ := ex76 _ hfl; replace hf0 : g 0 = _ := Option.some.inj hf0; replace hf1 : g 1 = _ := Option.some.inj hf1; replace hf2 : g 2 = _ := Option.some.inj hf2; replace hf4 : g 4 = _ := Option.some.inj hf4; replace hf7 : g 7 = _ := Option.some.inj hf7; replace hf9 : g 9 = _ := Option.some.inj hf9; replace hf10 : g 10 = _ := Option.some.inj hf10; rw [hf0, hf1, hf2, hf4, hf7, hf9, hf10]; clear hfl hf0 hf1 hf2 hf4 hf7 hf9 hf10
    repeat (first | with_reducible refine Sq.n ?_ | with_reducible refine Sq.ret ?_ | with_reducible refine Sq.exit ?_ | with_reducible refine Bk.n ?_ | with_reducible refine Bk.ret ?_ | with_reducible refine Bk.exit ?_ | with_reducible refine Bk.ex' (by decide) ?_ | with_reducible refine Lp.ret ?_ | with_reducible refine Lp.exit ?_ | with_reducible refine Lx.exit ?_)
    ((repeat with_reducible refine WP.seqs ?_); refine WP.rg ?_)
    ((repeat with_reducible refine WP.seqs ?_); refine WP.rg ?_)
    ((repeat with_reducible refine WP.seqs ?_); first | refine WP.seq (WP.block ?_) | refine WP.block ?_)
    refine WP.loop (Inv := fun j fr H5 => ∃ (out : AV) (acc : B), (fr.length = 76 ∧ fr[0]? = some (.g (fcs kind frm to null tag dflt of sv)) ∧ fr[1]? = some (.i .i64 vi) ∧ fr[2]? = some (.b flex) ∧ fr[4]? = some (.p b1 0) ∧ fr[7]? = some (.p b2 0) ∧ fr[9]? = some (.b nv) ∧ fr[10]? = some (l2) ∧ fr[11]? = some (out) ∧ fr[29]? = some (l2) ∧ fr[30]? = some (.i .i64 ni) ∧ fr[31]? = some (.i .i64 (j : Nat))) ∧ acc ++ (L.drop j).flatMap (valueS of sub false ver flex) = tot ∧ OutAt H3.length H5 out acc ∧ Kp H3 H5) L.length ?_ L.length 0 _ _ (by omega) ?_
    rotate_left
    · exact ⟨o1, _, ⟨rfl, rfl, rfl, rfl, rfl, rfl, rfl, rfl, rfl, rfl, rfl, rfl⟩, by rw [List.drop_zero]; exact htot, ho1, k4⟩
    intro j fr H5 hj ⟨out, acc, ⟨hfl, hf0, hf1, hf2, hf4, hf7, hf9, hf10, hf11, hf29, hf30, hf31⟩, hacc, ho, hkk⟩
    obtain ⟨g, rfl⟩ := ex76 _ hfl; replace hf0 : g 0 = _ := Option.some.inj hf0; replace hf1 : g 1 = _ := Option.some.inj hf1; replace hf2 : g 2 = _ := Option.some.inj hf2; replace hf4 : g 4 = _ := Option.some.inj hf4; replace hf7 : g 7 = _ := Option.some.inj hf7; replace hf9 : g 9 = _ := Option.some.inj hf9; replace hf10 : g 10 = _ := Option.some.inj hf10; replace hf11 : g 11 = _ := Option.some.inj hf11; replace hf29 : g 29 = _ := Option.some.inj hf29; replace hf30 : g 30 = _ := Option.some.inj hf30; replace hf31 : g 31 = _ := Option.some.inj hf31; rw [hf0, hf1, hf2, hf4, hf7, hf9, hf10, hf11, hf29, hf30, hf31]; clear hfl hf0 hf1 hf2 hf4 hf7 hf9 hf10 hf11 hf29 hf30 hf31
    have hlt := lssI 3 false (j : Nat) (L.length : Nat)
    rw [hni] at hlt
    by_cases hjl : j < L.length
    · replace hlt : binA P .lss 3 false (.i .i64 (j : Nat)) (.i .i64 ni) = some (.b true) := by rw [hlt]; simp; omega
      obtain ⟨p, cj, hix, hld, helj, _⟩ := (hl2.kp hkk).idxk elT zT aT hjl
      have hxj : L[j]? = some L[j] := by simp
      have htj : TrAt H3 cj L[j] := hx2 j _ hxj cj (by rw [← hl2.el hkk hjl]; exact helj)
      have hdr : L.drop j = L[j] :: L.drop (j + 1) := List.drop_eq_getElem_cons hjl
      rw [hdr, List.flatMap_cons] at hacc
      have hlb : acc.length + ((valueS of sub false ver flex L[j]).length + ((L.drop (j + 1)).flatMap (valueS of sub false ver flex)).length) = tot.length := by rw [← hacc]; simp
      obtain ⟨ov, H6, hcv, hov, k6⟩ := value_x (kind := of) (null := false) (ver := ver) (flex := flex) hof (hsub.kp (k03.trans hkk)) hpo (htj.kp hkk) (hL1 _ (List.mem_of_getElem? hxj)) (by omega)
      have hb6 := (OutAt.bytes hov).first
      obtain ⟨o7, H7, hap, ho7, k7⟩ := ap_bytes (str := false) (Nat.le_trans hkk.1 k6.1) (ho.wk k6) hb6 (by omega)
      have hns : ov.isS = false := hov.cells
      have hadd := addJ 3 true (j : Nat) 1 (by omega)
      rw [show ((j : Nat) : Int) + 1 = ((j + 1 : Nat) : Int) by omega] at hadd
      have v1 := hkk.at_ v1
      have v2 := hkk.at_ v2
      have kw6 : WKeep H3.length H5 H6 := WKeep.kp k6 hkk.1
      have kw7 : WKeep H3.length H5 H7 := kw6.trans k7
      have hld : ∀ H', WKeep H3.length H5 H' → loadA P H' 26 p = some (.g cj) := fun H' k => by
        obtain ⟨p', c', q1, q2, q3, _⟩ := (hl2.kp (hkk.wt k)).idx elT zT aT hjl
        rw [hix] at q1; cases q1
        rw [hl2.el (hkk.wt k) hjl, ← hl2.el hkk hjl, helj] at q3; cases q3
        exact q2
      have hacc7 : (acc ++ valueS of sub false ver flex L[j]) ++ (L.drop (j + 1)).flatMap (valueS of sub false ver flex) = tot := by rw [← hacc]; simp
      rw [hvi] at hcv
      obtain ⟨n1, hcv⟩ := hcv
      generalize hj1 : ((j + 1 : Nat) : Int) = j1 at hadd
      generalize ((j : Nat) : Int) = jj at hlt hix hadd
      ((repeat with_reducible refine WP.seqs ?_); refine WP.rg ?_)
      ((repeat with_reducible refine WP.seqs ?_); first | refine WP.seq (WP.condT rfl ?_) | refine WP.condT rfl ?_)
      refine WP.skip ?_; repeat (first | with_reducible refine Sq.n ?_ | with_reducible refine Sq.ret ?_ | with_reducible refine Sq.exit ?_ | with_reducible refine Bk.n ?_ | with_reducible refine Bk.ret ?_ | with_reducible refine Bk.exit ?_ | with_reducible refine Bk.ex' (by decide) ?_ | with_reducible refine Lp.ret ?_ | with_reducible refine Lp.exit ?_ | with_reducible refine Lx.exit ?_)
      ((repeat with_reducible refine WP.seqs ?_); first | refine WP.seq (WP.block ?_) | refine WP.block ?_)
      ((repeat with_reducible refine WP.seqs ?_); refine WP.rg ?_)
      refine WP.rSe (WKeep H3.length H5) (n0 := n1) (.refl _ _) ?_
      apply Exists.intro; apply Exists.intro; apply And.intro
      · intro n hn
        have hcv := hcv n hn
        (refine OpsP.pu rfl rfl (fun H2 hk => by (try have v1 := wk_at hk hb1 v1); (try have v2 := wk_at hk hb2 v2); (try have v3 := wk_at hk hb3 v3); (try have hld := hld _ hk); exact ⟨_, opy⟩) ?_; dsimp only [AV.cells, putA, List.set_cons_zero, List.set_cons_succ])
        (refine OpsP.pu rfl rfl (fun H2 hk => by (try have v1 := wk_at hk hb1 v1); (try have v2 := wk_at hk hb2 v2); (try have v3 := wk_at hk hb3 v3); (try have hld := hld _ hk); exact ⟨_, opy⟩) ?_; dsimp only [AV.cells, putA, List.set_cons_zero, List.set_cons_succ])
        (refine OpsP.pu rfl rfl (fun H2 hk => by (try have v1 := wk_at hk hb1 v1); (try have v2 := wk_at hk hb2 v2); (try have v3 := wk_at hk hb3 v3); (try have hld := hld _ hk); exact ⟨_, opy⟩) ?_; dsimp only [AV.cells, putA, List.set_cons_zero, List.set_cons_succ])
        (refine OpsP.pu rfl rfl (fun H2 hk => by (try have v1 := wk_at hk hb1 v1); (try have v2 := wk_at hk hb2 v2); (try have v3 := wk_at hk hb3 v3); (try have hld := hld _ hk); exact ⟨_, opy⟩) ?_; dsimp only [AV.cells, putA, List.set_cons_zero, List.set_cons_succ])
        (refine OpsP.pu rfl rfl (fun H2 hk => by (try have v1 := wk_at hk hb1 v1); (try have v2 := wk_at hk hb2 v2); (try have v3 := wk_at hk hb3 v3); (try have hld := hld _ hk); exact ⟨_, opy⟩) ?_; dsimp only [AV.cells, putA, List.set_cons_zero, List.set_cons_succ])
        (refine OpsP.pu rfl rfl (fun H2 hk => by (try have v1 := wk_at hk hb1 v1); (try have v2 := wk_at hk hb2 v2); (try have v3 := wk_at hk hb3 v3); (try have hld := hld _ hk); exact ⟨_, opy⟩) ?_; dsimp only [AV.cells, putA, List.set_cons_zero, List.set_cons_succ])
        (refine OpsP.pu rfl rfl (fun H2 hk => by (try have v1 := wk_at hk hb1 v1); (try have v2 := wk_at hk hb2 v2); (try have v3 := wk_at hk hb3 v3); (try have hld := hld _ hk); exact ⟨_, opy⟩) ?_; dsimp only [AV.cells, putA, List.set_cons_zero, List.set_cons_succ])
        (refine OpsP.pu rfl rfl (fun H2 hk => by (try have v1 := wk_at hk hb1 v1); (try have v2 := wk_at hk hb2 v2); (try have v3 := wk_at hk hb3 v3); (try have hld := hld _ hk); exact ⟨_, opy⟩) ?_; dsimp only [AV.cells, putA, List.set_cons_zero, List.set_cons_succ])
        (refine OpsP.pu rfl rfl (fun H2 hk => by (try have v1 := wk_at hk hb1 v1); (try have v2 := wk_at hk hb2 v2); (try have v3 := wk_at hk hb3 v3); (try have hld := hld _ hk); exact ⟨_, opy⟩) ?_; dsimp only [AV.cells, putA, List.set_cons_zero, List.set_cons_succ])
        (refine OpsP.pu rfl rfl (fun H2 hk => by (try have v1 := wk_at hk hb1 v1); (try have v2 := wk_at hk hb2 v2); (try have v3 := wk_at hk hb3 v3); (try have hld := hld _ hk); exact ⟨_, opy⟩) ?_; dsimp only [AV.cells, putA, List.set_cons_zero, List.set_cons_succ])
        (refine OpsP.pu rfl rfl (fun H2 hk => by (try have v1 := wk_at hk hb1 v1); (try have v2 := wk_at hk hb2 v2); (try have v3 := wk_at hk hb3 v3); (try have hld := hld _ hk); exact ⟨_, opy⟩) ?_; dsimp only [AV.cells, putA, List.set_cons_zero, List.set_cons_succ])
        (refine OpsP.cl rfl rfl ?_; dsimp only [AV.cells, putA, List.set_cons_zero, List.set_cons_succ])
        (refine OpsP.op rfl rfl rfl ?_; dsimp only [AV.cells, putA, List.set_cons_zero, List.set_cons_succ])
        (refine OpsP.pu rfl rfl (fun H2 hk => by (try have v1 := wk_at hk hb1 v1); (try have v2 := wk_at hk hb2 v2); (try have v3 := wk_at hk hb3 v3); (try have hld := hld _ hk); exact ⟨_, opy⟩) ?_; dsimp only [AV.cells, putA, List.set_cons_zero, List.set_cons_succ])
        exact OpsP.nil
      repeat (first | with_reducible refine Sq.n ?_ | with_reducible refine Sq.ret ?_ | with_reducible refine Sq.exit ?_ | with_reducible refine Bk.n ?_ | with_reducible refine Bk.ret ?_ | with_reducible refine Bk.exit ?_ | with_reducible refine Bk.ex' (by decide) ?_ | with_reducible refine Lp.ret ?_ | with_reducible refine Lp.exit ?_ | with_reducible refine Lx.exit ?_)
      refine WP.re ?_; repeat (first | with_reducible refine Sq.n ?_ | with_reducible refine Sq.ret ?_ | with_reducible refine Sq.exit ?_ | with_reducible refine Bk.n ?_ | with_reducible refine Bk.ret ?_ | with_reducible refine Bk.exit ?_ | with_reducible refine Bk.ex' (by decide) ?_ | with_reducible refine Lp.ret ?_ | with_reducible refine Lp.exit ?_ | with_reducible refine Lx.exit ?_)
      refine Lp.n ⟨by omega, o7, _, ⟨rfl, rfl, rfl, rfl, rfl, rfl, rfl, rfl, rfl, rfl, rfl, rfl⟩, hacc7, ho7, hkk.wt kw7⟩
    · replace hlt : binA P .lss 3 false (.i .i64 (j : Nat)) (.i .i64 ni) = some (.b false) := by rw [hlt]; simp; omega
      generalize ((j : Nat) : Int) = jj at hlt
      ((repeat with_reducible refine WP.seqs ?_); refine WP.rg ?_)
      ((repeat with_reducible refine WP.seqs ?_); first | refine WP.seq (WP.condF rfl ?_) | refine WP.condF rfl ?_)
      refine WP.exit ?_; repeat (first | with_reducible refine Sq.n ?_ | with_reducible refine Sq.ret ?_ | with_reducible refine Sq.exit ?_ | with_reducible refine Bk.n ?_ | with_reducible refine Bk.ret ?_ | with_reducible refine Bk.exit ?_ | with_reducible refine Bk.ex' (by decide) ?_ | with_reducible refine Lp.ret ?_ | with_reducible refine Lp.exit ?_ | with_reducible refine Lx.exit ?_)
      ((repeat with_reducible refine WP.seqs ?_); refine WP.rg ?_)
      refine WP.ret ?_; repeat (first | with_reducible refine Sq.n ?_ | with_reducible refine Sq.ret ?_ | with_reducible refine Sq.exit ?_ | with_reducible refine Bk.n ?_ | with_reducible refine Bk.ret ?_ | with_reducible refine Bk.exit ?_ | with_reducible refine Bk.ex' (by decide) ?_ | with_reducible refine Lp.ret ?_ | with_reducible refine Lp.exit ?_ | with_reducible refine Lx.exit ?_)
      have : L.drop j = [] := List.drop_eq_nil_of_le (by omega)
      rw [this] at hacc
      simp at hacc
      rw [← hacc]
      exact Fe.r1 rfl ⟨ho.mono k03.1, k03.trans hkk⟩
  · replace q11 : binA P .eql 3 true (.i .i64 (kind : Nat)) (.i .i64 11) = some (.b false) := by rw [q11]; simp; omega
    have hfs : fieldS kind null of sub ver flex t = valueS kind sub (t.null && nulS null ver) ver flex t := by unfold fieldS; rw [if_neg c11]
    rw [hfs] at hb ⊢
    obtain ⟨ov, H4, hcv, hov, k4⟩ := value_x (kind := kind) (null := t.null && nulS null ver) (ver := ver) (flex := flex) (by omega) (hsub.kp k03) hpo ht3 hf hb
    by_cases c10 : kind = 10
    · replace q10 : binA P .eql 3 true (.i .i64 (kind : Nat)) (.i .i64 10) = some (.b true) := by rw [q10]; simp; omega
      have qn : binA P .geq 3 true (.i .i64 null) (.i .i64 0) = some (.b false) := by rw [geqI]; simp; omega
      generalize (t.null && nulS null ver) = nv at hcn hcv hov ⊢
      generalize ((ver : Nat) : Int) = vi at hcn hcv ⊢
      dsimp only [Tryz.f21]
      dsimp only [List.length_cons, List.length_nil, List.cons_append, List.nil_append, Nat.reduceSub, Nat.reduceAdd, List.replicate]
      ((repeat with_reducible refine WP.seqs ?_); refine WP.rg ?_)
      ((repeat with_reducible refine WP.seqs ?_); refine WP.rg ?_)
      ((repeat with_reducible refine WP.seqs ?_); refine WP.rg ?_)
      ((repeat with_reducible refine WP.seqs ?_); first | refine WP.seq (WP.condF rfl ?_) | refine WP.condF rfl ?_)
      refine WP.skip ?_; repeat (first | with_reducible refine Sq.n ?_ | with_reducible refine Sq.ret ?_ | with_reducible refine Sq.exit ?_ | with_reducible refine Bk.n ?_ | with_reducible refine Bk.ret ?_ | with_reducible refine Bk.exit ?_ | with_reducible refine Bk.ex' (by decide) ?_ | with_reducible refine Lp.ret ?_ | with_reducible refine Lp.exit ?_ | with_reducible refine Lx.exit ?_)
      ((repeat with_reducible refine WP.seqs ?_); refine WP.rg ?_)
      ((repeat with_reducible refine WP.seqs ?_); first | refine WP.seq (WP.condF rfl ?_) | refine WP.condF rfl ?_)
      refine WP.skip ?_; repeat (first | with_reducible refine Sq.n ?_ | with_reducible refine Sq.ret ?_ | with_reducible refine Sq.exit ?_ | with_reducible refine Bk.n ?_ | with_reducible refine Bk.ret ?_ | with_reducible refine Bk.exit ?_ | with_reducible refine Bk.ex' (by decide) ?_ | with_reducible refine Lp.ret ?_ | with_reducible refine Lp.exit ?_ | with_reducible refine Lx.exit ?_)
      ((repeat with_reducible refine WP.seqs ?_); refine WP.rg ?_)
      refine WP.ret ?_; repeat (first | with_reducible refine Sq.n ?_ | with_reducible refine Sq.ret ?_ | with_reducible refine Sq.exit ?_ | with_reducible refine Bk.n ?_ | with_reducible refine Bk.ret ?_ | with_reducible refine Bk.exit ?_ | with_reducible refine Bk.ex' (by decide) ?_ | with_reducible refine Lp.ret ?_ | with_reducible refine Lp.exit ?_ | with_reducible refine Lx.exit ?_)
      exact Fe.r1 rfl ⟨hov.mono k03.1, k03.trans k4⟩
    · replace q10 : binA P .eql 3 true (.i .i64 (kind : Nat)) (.i .i64 10) = some (.b false) := by rw [q10]; simp; omega
      generalize (t.null && nulS null ver) = nv at hcn hcv hov ⊢
      generalize ((ver : Nat) : Int) = vi at hcn hcv ⊢
      dsimp only [Tryz.f21]
      dsimp only [List.length_cons, List.length_nil, List.cons_append, List.nil_append, Nat.reduceSub, Nat.reduceAdd, List.replicate]
      ((repeat with_reducible refine WP.seqs ?_); refine WP.rg ?_)
      ((repeat with_reducible refine WP.seqs ?_); refine WP.rg ?_)
      ((repeat with_reducible refine WP.seqs ?_); refine WP.rg ?_)
      ((repeat with_reducible refine WP.seqs ?_); first | refine WP.seq (WP.condF rfl ?_) | refine WP.condF rfl ?_)
      refine WP.skip ?_; repeat (first | with_reducible refine Sq.n ?_ | with_reducible refine Sq.ret ?_ | with_reducible refine Sq.exit ?_ | with_reducible refine Bk.n ?_ | with_reducible refine Bk.ret ?_ | with_reducible refine Bk.exit ?_ | with_reducible refine Bk.ex' (by decide) ?_ | with_reducible refine Lp.ret ?_ | with_reducible refine Lp.exit ?_ | with_reducible refine Lx.exit ?_)
      ((repeat with_reducible refine WP.seqs ?_); refine WP.rg ?_)
      ((repeat with_reducible refine WP.seqs ?_); first | refine WP.seq (WP.condF rfl ?_) | refine WP.condF rfl ?_)
      refine WP.skip ?_; repeat (first | with_reducible refine Sq.n ?_ | with_reducible refine Sq.ret ?_ | with_reducible refine Sq.exit ?_ | with_reducible refine Bk.n ?_ | with_reducible refine Bk.ret ?_ | with_reducible refine Bk.exit ?_ | with_reducible refine Bk.ex' (by decide) ?_ | with_reducible refine Lp.ret ?_ | with_reducible refine Lp.exit ?_ | with_reducible refine Lx.exit ?_)
      ((repeat with_reducible refine WP.seqs ?_); refine WP.rg ?_)
      refine WP.ret ?_; repeat (first | with_reducible refine Sq.n ?_ | with_reducible refine Sq.ret ?_ | with_reducible refine Sq.exit ?_ | with_reducible refine Bk.n ?_ | with_reducible refine Bk.ret ?_ | with_reducible refine Bk.exit ?_ | with_reducible refine Bk.ex' (by decide) ?_ | with_reducible refine Lp.ret ?_ | with_reducible refine Lp.exit ?_ | with_reducible refine Lx.exit ?_)
      exact Fe.r1 rfl ⟨hov.mono k03.1, k03.trans k4⟩
end Go.Proofs.YtiifcfngbbhgoaaGreatDoor.Rd

namespace Go.Proofs.YtiifcfngbbhgoaaGreatDoor.Rd
open Go Go.Proofs.YtiifcfngbbhgoaaGreatDoor.Ax Go.Proofs.YtiifcfngbbhgoaaGreatDoor.Wire
set_option maxRecDepth 100000
set_option maxHeartbeats 1000000
abbrev Tg := Nat × AV × B
def tgc (ts : List Tg) : List AV := ts.flatMap fun t => [.i .u32 (t.1 : Nat), t.2.1]
theorem tgc_cons (t : Tg) (ts : List Tg) : tgc (t :: ts) = .i .u32 (t.1 : Nat) :: t.2.1 :: tgc ts := rfl
theorem tgc_app (a b : List Tg) : tgc (a ++ b) = tgc a ++ tgc b := by simp [tgc]
theorem tgc_len : ∀ ts : List Tg, (tgc ts).length = ts.length * 2
  | [] => rfl
  | t :: r => by rw [tgc_cons, List.length_cons, List.length_cons, tgc_len r, List.length_cons]; omega
theorem tgc_el : ∀ (ts : List Tg) (j : Nat) (t : Tg), ts[j]? = some t → ((tgc ts).drop (j * 2)).take 2 = [.i .u32 (t.1 : Nat), t.2.1]
  | [], j, t, h => by simp at h
  | x :: r, 0, t, h => by simp at h; subst h; rfl
  | x :: r, j + 1, t, h => by
    rw [tgc_cons, show (j + 1) * 2 = j * 2 + 1 + 1 by omega, List.drop_succ_cons, List.drop_succ_cons]
    exact tgc_el r j t (by simpa using h)
theorem tgc_key {ts : List Tg} {j : Nat} {t : Tg} (h : ts[j]? = some t) : (tgc ts)[j * 2]? = some (.i .u32 (t.1 : Nat)) := by
  have := congrArg (·[0]?) (tgc_el ts j t h)
  simpa [List.getElem?_take, List.getElem?_drop] using this
theorem tgc_set : ∀ (ts : List Tg) (j : Nat) (t : Tg), j < ts.length → over (tgc ts) [.i .u32 (t.1 : Nat), t.2.1] (j * 2) = tgc (ts.set j t)
  | [], j, t, h => by simp at h
  | x :: r, 0, t, h => by simp [over, tgc_cons]
  | x :: r, j + 1, t, h => by
    have := tgc_set r j t (by simpa using h)
    unfold over at this ⊢
    rw [List.set_cons_succ, tgc_cons, tgc_cons, ← this, show (j + 1) * 2 = j * 2 + 1 + 1 by omega]
    simp only [List.take_succ_cons, List.cons_append, List.length_cons, List.length_nil]
    congr 3
def AllOne (ts : List Tg) : Prop := ∀ t ∈ ts, t.2.1.one = true
theorem tgc_one {ts : List Tg} (h : AllOne ts) : (tgc ts).all AV.one = true := by
  rw [List.all_eq_true]
  intro x hx
  obtain ⟨t, ht, hx⟩ := List.mem_flatMap.1 hx
  simp at hx
  rcases hx with rfl | rfl
  · rfl
  · exact h t ht
def OutG (L0 : Nat) (H : Heap) (out : AV) (ts : List Tg) : Prop := AllOne ts ∧ ((out = .s0 ∧ ts = []) ∨ ∃ i, L0 ≤ i ∧ out = .sl i 0 ts.length ∧ H[i]? = some (.cells 55 .row (tgc ts)) ∧ 0 < ts.length)
theorem elGs : (elemA P 24).isSome = true := by kernel_rfl
theorem OutG.len {L0 : Nat} {H : Heap} {out : AV} {ts : List Tg} (h : OutG L0 H out ts) : lenA P 24 out = some (.i .i64 (ts.length : Nat)) := by
  have hu : P.underlying 24 = some (.slice 55) := by kernel_rfl
  unfold lenA
  rcases h.2 with ⟨rfl, rfl⟩ | ⟨i, _, rfl, _⟩ <;> simp [hu]
theorem OutG.kp {L0 : Nat} {H H' : Heap} {out : AV} {ts : List Tg} (h : OutG L0 H out ts) (k : Kp H H') : OutG L0 H' out ts := by
  refine ⟨h.1, ?_⟩
  rcases h.2 with h | ⟨i, h1, h2, h3, h4⟩
  · exact .inl h
  · exact .inr ⟨i, h1, h2, k.at_ h3, h4⟩
theorem OutG.el {L0 : Nat} {H : Heap} {out : AV} {ts : List Tg} (h : OutG L0 H out ts) {j : Nat} {t : Tg} (hj : ts[j]? = some t) :
    ∃ p pk, indexAddrA P 24 out (.i .i64 (j : Nat)) = some p ∧ fieldAddrA P 55 p 0 = some pk ∧ loadA P H 53 pk = some (.i .u32 (t.1 : Nat)) ∧ loadA P H 55 p = some (.g [.i .u32 (t.1 : Nat), t.2.1]) := by
  have hjl := (List.getElem?_eq_some_iff.1 hj).1
  rcases h.2 with ⟨rfl, rfl⟩ | ⟨i, h1, rfl, h3, h4⟩
  · simp at hj
  · have hfa : ∀ o : Nat, fieldAddrA P 55 (.p i o) 0 = some (.p i (o + 0)) := fun o => by kernel_rfl
    refine ⟨.p i (0 + j * 2), _, ?_, hfa _, ?_, ?_⟩
    · simp only [indexAddrA, elG, zG]
      rw [if_pos ⟨by omega, by omega⟩]; simp
    · simp only [loadA, loadAt, h3, a_u32]
      rw [show 0 + j * 2 + 0 = j * 2 by omega]
      exact tgc_key hj
    · simp only [loadA, loadAt, h3, aG, zG]
      rw [if_pos (by rw [tgc_len]; omega), show 0 + j * 2 = j * 2 by omega, tgc_el ts j t hj]
theorem OutG.set {L0 : Nat} {H : Heap} {out : AV} {ts : List Tg} (h : OutG L0 H out ts) {j : Nat} (hj : j < ts.length) (t : Tg) (h1 : t.2.1.one = true) :
    ∃ p H', indexAddrA P 24 out (.i .i64 (j : Nat)) = some p ∧ storeA P H 55 p (.g [.i .u32 (t.1 : Nat), t.2.1]) = some H' ∧ OutG L0 H' out (ts.set j t) ∧ WKeep L0 H H' ∧ (∀ (b : Nat) (ty : TypeId) (cs : List AV), H[b]? = some (.cells ty .vr cs) → H'[b]? = some (.cells ty .vr cs)) := by
  have hone : AllOne (ts.set j t) := fun x hx => by
    rcases List.mem_or_eq_of_mem_set hx with hx | rfl
    · exact h.1 x hx
    · exact h1
  rcases h.2 with ⟨rfl, rfl⟩ | ⟨i, hi, rfl, h3, h4⟩
  · simp at hj
  · have hil := (List.getElem?_eq_some_iff.1 h3).1
    refine ⟨.p i (0 + j * 2), H.set i (.cells 55 .row (tgc (ts.set j t))), ?_, ?_, ⟨hone, .inr ⟨i, hi, by simp, by rw [List.getElem?_set_self hil], by simpa using h4⟩⟩, ⟨fun k hk => by rw [List.getElem?_set_ne (by omega)], by simp⟩, fun b ty cs hb => ?_⟩
    · simp only [indexAddrA, elG, zG]
      rw [if_pos ⟨by omega, by omega⟩]; simp
    · have hall : (AV.g [.i .u32 (t.1 : Nat), t.2.1]).cells.all AV.one = true := by
        have : (AV.i .u32 (t.1 : Nat)).one = true := rfl
        simp [AV.cells, this, h1]
      simp only [storeA, h3, zG]
      rw [if_pos ⟨rfl, rfl, by rw [tgc_len]; omega, hall⟩, show 0 + j * 2 = j * 2 by omega]
      have : over (tgc ts) (AV.g [.i .u32 (t.1 : Nat), t.2.1]).cells (j * 2) = tgc (ts.set j t) := tgc_set ts j t hj
      rw [this]
    · by_cases e : i = b
      · subst e; rw [h3] at hb; cases hb
      · rw [List.getElem?_set_ne e]; exact hb
theorem buildG : buildA P 55 [] = some (.g [.i .u32 0, .s0]) := by kernel_rfl
theorem zeroG : zeroA P 55 = some (.g [.i .u32 0, .s0]) := by kernel_rfl
theorem bytesG : bytesA P 55 = some 32 := by kernel_rfl
theorem OutG.push {L0 : Nat} {H : Heap} {out : AV} {ts : List Tg} (hL : L0 ≤ H.length) (h : OutG L0 H out ts) (hn : ts.length ≤ 32767) :
    ∃ sl H1 out' H', buildSliceA P H 24 1 [(0, .g [.i .u32 0, .s0])] = some (sl, H1) ∧ sl.isS = false ∧ appendA P H1 24 false out sl = some (out', H') ∧ OutG L0 H' out' (ts ++ [(0, .s0, [])]) ∧ WKeep L0 H H' ∧ (∀ (b : Nat) (ty : TypeId) (cs : List AV), H[b]? = some (.cells ty .vr cs) → H'[b]? = some (.cells ty .vr cs)) := by
  have hbs : buildSliceA P H 24 1 [(0, .g [.i .u32 0, .s0])] = some (.sl H.length 0 1, H ++ [.cells 55 .row [.i .u32 0, .s0]]) := by kernel_rfl
  have hone : AllOne (ts ++ [(0, .s0, [])]) := fun x hx => by
    rcases List.mem_append.1 hx with hx | hx
    · exact h.1 x hx
    · simp at hx; subst hx; rfl
  have hf : firstA (H ++ [.cells 55 .row [.i .u32 0, .s0]]) 2 (.sl H.length 0 1) = some (1, [.i .u32 0, .s0]) := by
    simp only [firstA, List.getElem?_concat_length]; rfl
  have hz : (AV.g [.i .u32 0, .s0]).cells.length = 2 ∧ (AV.g [.i .u32 0, .s0]).cells.all AV.one = true := ⟨rfl, rfl⟩
  rcases h.2 with ⟨rfl, rfl⟩ | ⟨i, hi, rfl, h3, h4⟩
  · refine ⟨_, _, .sl (H ++ [Blk.cells 55 .row [.i .u32 0, .s0]]).length 0 1, (H ++ [Blk.cells 55 .row [.i .u32 0, .s0]]) ++ [Blk.cells 55 .row [.i .u32 0, .s0]], hbs, rfl, ?_, ⟨hone, .inr ⟨(H ++ [Blk.cells 55 .row [.i .u32 0, .s0]]).length, by simp; omega, by simp, by rw [List.getElem?_concat_length]; rfl, by simp⟩⟩, ⟨fun k hk => by rw [List.getElem?_append_left (by simp; omega), List.getElem?_append_left (by omega)], by simp⟩, fun b ty cs hb => ?_⟩
    · unfold appendA
      simp only [elG, zG, bytesG, zeroG]
      rw [if_pos ⟨by omega, hz.1, hz.2, by simp⟩]
      simp only [hf]
      rw [if_neg (by omega), if_pos ⟨by omega, by omega⟩]
      rfl
    · have := (List.getElem?_eq_some_iff.1 hb).1
      rw [List.getElem?_append_left (by simp; omega), List.getElem?_append_left (by omega)]; exact hb
  · have hil := (List.getElem?_eq_some_iff.1 h3).1
    have h3' : (H ++ [Blk.cells 55 .row [.i .u32 0, .s0]])[i]? = some (.cells 55 .row (tgc ts)) := by rw [List.getElem?_append_left hil]; exact h3
    have ht : (tgc ts).take (ts.length * 2) = tgc ts := by rw [← tgc_len, List.take_length]
    refine ⟨_, _, .sl (H ++ [Blk.cells 55 .row [.i .u32 0, .s0]]).length 0 (ts.length + 1), ((H ++ [Blk.cells 55 .row [.i .u32 0, .s0]]).set i .dead) ++ [Blk.cells 55 .row (tgc ts ++ [.i .u32 0, .s0])], hbs, rfl, ?_, ⟨hone, .inr ⟨(H ++ [Blk.cells 55 .row [.i .u32 0, .s0]]).length, by simp; omega, by simp, ?_, by simp⟩⟩, ⟨fun k hk => ?_, by simp; omega⟩, fun b ty cs hb => ?_⟩
    · unfold appendA
      simp only [elG, zG, bytesG, zeroG]
      rw [if_pos ⟨by omega, hz.1, hz.2, by simp⟩]
      simp only [hf, h3']
      rw [if_pos (by refine ⟨?_, ?_, ?_, ?_⟩ <;> first | trivial | rfl | omega | (rw [tgc_len]; omega)), ht]
      have hall : (tgc ts ++ [AV.i .u32 0, AV.s0]).all AV.one = true := by rw [List.all_append, tgc_one h.1]; rfl
      simp only [newBlk, hall, if_true, Option.map_some, List.length_set]
    · rw [tgc_app]
      have : ((H ++ [Blk.cells 55 .row [.i .u32 0, .s0]]).set i .dead).length = (H ++ [Blk.cells 55 .row [.i .u32 0, .s0]]).length := by simp
      rw [← this, List.getElem?_concat_length]
      rfl
    · rw [List.getElem?_append_left (by simp; omega), List.getElem?_set_ne (by omega), List.getElem?_append_left (by omega)]
    · have hlt := (List.getElem?_eq_some_iff.1 hb).1
      have hne : i ≠ b := fun e => by subst e; rw [h3] at hb; cases hb
      rw [List.getElem?_append_left (by simp; omega), List.getElem?_set_ne hne, List.getElem?_append_left (by omega)]
      exact hb
def posG (k : Nat) : List Tg → Nat
  | [] => 0
  | t :: r => if t.1 < k then posG k r + 1 else 0
theorem posG_le (k : Nat) : ∀ ts, posG k ts ≤ ts.length
  | [] => Nat.le_refl _
  | t :: r => by unfold posG; split <;> have := posG_le k r <;> simp <;> omega
theorem posG_lt {k : Nat} : ∀ {ts : List Tg} {j : Nat} {t : Tg}, ts[j]? = some t → j < posG k ts → t.1 < k
  | x :: r, j, t, h, hj => by
    unfold posG at hj
    split at hj
    · rename_i hx
      cases j with
      | zero => simp at h; subst h; exact hx
      | succ j => exact posG_lt (by simpa using h) (by omega)
    · omega
theorem posG_at {k : Nat} : ∀ {ts : List Tg} {t : Tg}, ts[posG k ts]? = some t → k ≤ t.1
  | x :: r, t, h => by
    unfold posG at h
    split at h
    · exact posG_at (ts := r) (by simpa using h)
    · simp at h; subst h; omega
def pr3 (t : Tg) : Nat × B := (t.1, t.2.2)
def insG (t : Tg) (ts : List Tg) : List Tg := match ts[posG t.1 ts]? with
  | some x => if x.1 = t.1 then ts else ts.take (posG t.1 ts) ++ [t] ++ ts.drop (posG t.1 ts)
  | none => ts ++ [t]
theorem insG_put (t : Tg) : ∀ ts : List Tg, (insG t ts).map pr3 = putF t.1 t.2.2 (ts.map pr3)
  | [] => rfl
  | x :: r => by
    have ih := insG_put t r
    unfold insG at ih ⊢
    simp only [posG, List.map_cons, pr3, putF]
    by_cases h1 : x.1 < t.1
    · rw [if_pos h1]
      simp only [List.getElem?_cons_succ, List.take_succ_cons, List.drop_succ_cons]
      rw [if_neg (by omega), if_neg (by omega)]
      cases hx : r[posG t.1 r]? with
      | none =>
        rw [hx] at ih
        simp only [List.cons_append, List.map_cons] at ih ⊢
        rw [← ih]; rfl
      | some y =>
        rw [hx] at ih
        simp only at ih ⊢
        split
        · rename_i h2
          rw [if_pos h2] at ih
          rw [← ih]; rfl
        · rename_i h2
          rw [if_neg h2] at ih
          simp only [List.cons_append, List.map_cons]
          rw [← ih]; rfl
    · rw [if_neg h1]
      simp only [List.getElem?_cons_zero, List.take_zero, List.drop_zero, List.nil_append]
      by_cases h2 : x.1 = t.1
      · rw [if_pos h2, if_neg (by omega), if_pos h2.symm]; rfl
      · rw [if_neg h2, if_pos (by omega)]; rfl
theorem insG_len (t : Tg) (ts : List Tg) : (insG t ts).length ≤ ts.length + 1 := by
  unfold insG
  split
  · split
    · omega
    · have := posG_le t.1 ts
      simp; omega
  · simp
end Go.Proofs.YtiifcfngbbhgoaaGreatDoor.Rd

