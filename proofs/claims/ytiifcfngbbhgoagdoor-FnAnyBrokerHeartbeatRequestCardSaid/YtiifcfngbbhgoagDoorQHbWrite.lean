/-
  BrokerHeartbeatRequest WRITTEN.
-/
import Derived.Test.YtiifcfngbbhgoagDoorQHbWTags
set_option linter.constructorNameAsVariable false
set_option linter.unusedVariables false
set_option linter.unusedSimpArgs false
namespace Go.Proofs.YtiifcfngbbhgoagDoor.Rd
open Go Go.Proofs.YtiifcfngbbhgoagDoor.Ax Go.Proofs.YtiifcfngbbhgoagDoor.Wire
set_option maxRecDepth 100000
set_option maxHeartbeats 8000000
theorem nqS0 : binA P .neq 38 true .s0 .s0 = some (.b false) := by kernel_rfl
theorem nqSl (i n : Nat) : binA P .neq 38 true (.sl i 0 n) .s0 = some (.b true) := by kernel_rfl
theorem nqSn : binA P .neq 38 true .sn .s0 = some (.b true) := by kernel_rfl
theorem repS {A A' : Nat → Prop} {H H' : Heap} {k : K} {x : AV} {v : V} (hk : k = .i32 ∨ k = .i64 ∨ k = .bool) (h : RepK A H k false x v) : RepK A' H' k false x v := by
  rcases hk with rfl | rfl | rfl <;> cases v <;> simp only [RepK] at h ⊢ <;> exact h
theorem encI_le {k : K} {v : V} (hk : k = .i32 ∨ k = .i64 ∨ k = .bool) (h : okK true k false v) : (encK true k v).length ≤ 8 := by
  rw [encI_len hk h]
  rcases hk with rfl | rfl | rfl <;> decide
theorem tagN_rep {A : Nat → Prop} {H : Heap} {m : AV} {ts : List (Nat × B)} (h : TagRep A H (.t ts) (.g [m])) : tagN H m = some ts.length := by
  obtain ⟨ts', e, _, ⟨h1, h2⟩ | ⟨i, es, h1, _, h3, es', p1, p2, _⟩⟩ := h
  · cases e; cases h2; subst h1; rfl
  · cases e; cases h1
    have q1 := p1.length_eq
    have q2 := congrArg List.length p2
    rw [List.length_map, List.length_map, q1] at q2
    simp only [tagN, h3, q2]
theorem WU.up {L L' : Nat} {H H' : Heap} {av : AV} {us : List B} (h : WU L H av us) (hl : L ≤ L') (k : ∀ i, i < L → H'[i]? = H[i]?) : WU L' H' av us := by
  rcases h with h | ⟨i, h1, h2, h3⟩
  · exact .inl h
  · exact .inr ⟨i, by omega, h2, h3.mono fun b x => by rw [k i h1]; exact x⟩
theorem appendTo_x {H : Heap} {sb : Nat} {ver : Int} (hver : 0 ≤ ver) {x1 x2 x3 x4 x5 o k m : AV} {v1 v2 v3 v4 v5 : V} {s : Hs} {A : Nat → Prop} {Hr : Heap} (hsb : H[sb]? = some (.cells 43 .vr [.i .i16 ver, x1, x2, x3, x4, x5, o, k, m]))
    (r1 : RepK A Hr .i32 false x1 v1) (r2 : RepK A Hr .i64 false x2 v2) (r3 : RepK A Hr .i64 false x3 v3) (r4 : RepK A Hr .bool false x4 v4) (r5 : RepK A Hr .bool false x5 v5) (hok : ok true fP (.c v1 (.c v2 (.c v3 (.c v4 (.c v5 .u))))))
    (hso : s.Ok) (hsw : s.w ≤ 6000) (hwo : WU H.length H o s.o) (hwk : (s.k = none ∧ k = .s0) ∨ ∃ us, s.k = some us ∧ WU H.length H k us ∧ (k = .sn ∨ ∃ i n, k = .sl i 0 n)) (hm : TagRep (fun i => i < H.length) H (.t s.ts) (.g [m])) :
    ∃ out H', CA P NS 12 [.p sb 0, .s0] H (out, H') ∧ OutAt H.length H' out (encW (.c v1 (.c v2 (.c v3 (.c v4 (.c v5 .u))))) s) ∧ Kp H H' := by
  obtain ⟨k1, k2, k3, k4, k5, _⟩ := hok
  have hsl := (List.getElem?_eq_some_iff.1 hsb).1
  obtain ⟨out1, H1, c1, o1, w1⟩ := (apk_i32 true false).run H.length H .s0 [] x1 v1 (Nat.le_refl _) (.inl ⟨rfl, rfl⟩) (repS (.inl rfl) r1) k1 (by have := encI_le (.inl rfl) k1; simp; omega)
  have e1 := encI_le (.inl rfl) k1
  have e2 := encI_le (.inr (.inl rfl)) k2
  have e3 := encI_le (.inr (.inl rfl)) k3
  have e4 := encI_le (.inr (.inr rfl)) k4
  have e5 := encI_le (.inr (.inr rfl)) k5
  obtain ⟨out2, H2, c2, o2, w2⟩ := (apk_i64 true false).run H.length H1 out1 _ x2 v2 w1.len o1 (repS (.inr (.inl rfl)) r2) k2 (by simp; omega)
  have w12 := w1.trans w2
  obtain ⟨out3, H3, c3, o3, w3⟩ := (apk_i64 true false).run H.length H2 out2 _ x3 v3 w12.len o2 (repS (.inr (.inl rfl)) r3) k3 (by simp; omega)
  have w13 := w12.trans w3
  obtain ⟨out4, H4, c4, o4, w4⟩ := (apk_bool true false).run H.length H3 out3 _ x4 v4 w13.len o3 (repS (.inr (.inr rfl)) r4) k4 (by simp; omega)
  have w14 := w13.trans w4
  obtain ⟨out5, H5, c5, o5, w5⟩ := (apk_bool true false).run H.length H4 out4 _ x5 v5 w14.len o4 (repS (.inr (.inr rfl)) r5) k5 (by simp; omega)
  have w15 := w14.trans w5
  have henc : [] ++ encK true .i32 v1 ++ encK true .i64 v2 ++ encK true .i64 v3 ++ encK true .bool v4 ++ encK true .bool v5 = enc true fP (.c v1 (.c v2 (.c v3 (.c v4 (.c v5 .u))))) := by simp [enc, fP, List.append_assoc]
  have hpl : (enc true fP (.c v1 (.c v2 (.c v3 (.c v4 (.c v5 .u)))))).length = 22 := enc_fP ⟨k1, k2, k3, k4, k5, trivial⟩
  rw [henc] at o5
  have at_ : ∀ {H' : Heap}, WKeep H.length H H' → H'[sb]? = some (.cells 43 .vr [.i .i16 ver, x1, x2, x3, x4, x5, o, k, m]) := fun w => by rw [w.at_ sb hsl]; exact hsb
  have ld0 : loadA P H 29 (.p sb 0) = some (.i .i16 ver) := ldc hsb aI16 rfl
  have ld1 : loadA P H 21 (.p sb 1) = some x1 := ldc hsb aI32 rfl
  have ld2 : loadA P H1 2 (.p sb 2) = some x2 := ldc (at_ w1) aI64 rfl
  have ld3 : loadA P H2 2 (.p sb 3) = some x3 := ldc (at_ w12) aI64 rfl
  have ld4 : loadA P H3 4 (.p sb 4) = some x4 := ldc (at_ w13) a_bool rfl
  have ld5 : loadA P H4 4 (.p sb 5) = some x5 := ldc (at_ w14) a_bool rfl
  have ld6 : loadA P H5 38 (.p sb 6) = some o := ldc (at_ w15) aUs rfl
  have xf0 := f0 sb
  have xf1 := f1 sb
  have xf2 := f2 sb
  have xf3 := f3 sb
  have xf4 := f4 sb
  have xf5 := f5 sb
  have xf6 := f6 sb
  have xf7 := f7 sb
  have xf8 := f8 sb
  have hgv := geq16 29 true ver 0
  replace hgv : binA P .geq 29 true (.i .i16 ver) (.i .i16 0) = some (.b true) := by rw [hgv]; simp; omega
  have hlv := lss16i 29 true ver 0
  replace hlv : binA P .lss 29 true (.i .i16 ver) (.i .i16 0) = some (.b false) := by rw [hlv]; simp; omega
  have hol := hwo.len
  have hgo := gtrI64 3 true (s.o.length : Nat) 0
  have hok5 : 0 ≤ H5.length := Nat.zero_le _
  have hw0 := hsw
  have hwt := wT_len s.ts
  have hwe := encT_wT s.ts (okT_up s.ts (by omega) hso.ts)
  simp only [Hs.w] at hsw
  have hn5 : H.length ≤ H5.length := w15.len
  have tail : ∀ (te : AV) (T : List Nat) (H7 : Heap) (uk : List B), TE H5.length H7.length H7 te T → WKeep H5.length H5 H7 → T.length ≤ 2 → (∀ q ∈ T, q = 0 ∨ (q = 1 ∧ binA P .eql 38 true k .s0 = some (.b false))) → (1 ∈ T → WU H.length H k uk) → All16 uk → uk.length ≤ 1000 → T.length + s.ts.length = s.n → T.flatMap (tbs s.o uk) = oB s.o ++ kB s.k →
      ∃ n8 out8 H8, lenA P 48 te = some (.i .i64 (T.length : Nat)) ∧ CA P NS 19 [.p sb 8] H7 (.i .i64 (s.ts.length : Nat), H7) ∧ binA P .add 3 false (.i .i64 (T.length : Nat)) (.i .i64 (s.ts.length : Nat)) = some (.i .i64 (n8 : Nat)) ∧ convA P 3 49 (.i .i64 (n8 : Nat)) = some (.i .u32 (n8 : Nat)) ∧
        CA P NS 18 [out5, .i .u32 (n8 : Nat)] H7 (out8, H8) ∧ (∀ fr, (fr.length = 216 ∧ fr[0]? = some (.p sb 0) ∧ fr[1]? = some (out8) ∧ fr[6]? = some (.b true) ∧ fr[12]? = some (te) ∧ fr[112]? = some (te) ∧ fr[113]? = some (.i .i64 (T.length : Nat)) ∧ fr[114]? = some (.i .i64 (0 : Nat))) → WP NS (.loop (cd0 hbW)) fr H8 (fun x fr' H' => x = .exit 0 ∧ ∃ out9 out10 H10, (fr'.length = 216 ∧ fr'[0]? = some (.p sb 0) ∧ fr'[1]? = some (out9) ∧ fr'[6]? = some (.b true) ∧ fr'[12]? = some (te)) ∧ CA P NS 25 [.p sb 8, out9] H' (out10, H10) ∧ OutAt H.length H10 out10 (encW (.c v1 (.c v2 (.c v3 (.c v4 (.c v5 .u))))) s) ∧ Kp H H10)) := by
    intro te T H7 uk hte w57 hTl hT hTk hak hnk hTn hTf
    have w07 : WKeep H.length H H7 := w15.trans ⟨fun i hi => w57.at_ i (by omega), w57.len⟩
    obtain ⟨i5, hi5, hout5, hc5, _⟩ : ∃ i, H.length ≤ i ∧ out5 = .sl i 0 (enc true fP (.c v1 (.c v2 (.c v3 (.c v4 (.c v5 .u)))))).length ∧ H5[i]? = some (.cells 5 .row (u8s (enc true fP (.c v1 (.c v2 (.c v3 (.c v4 (.c v5 .u)))))))) ∧ 0 < (enc true fP (.c v1 (.c v2 (.c v3 (.c v4 (.c v5 .u)))))).length := by
      rcases o5 with ⟨_, h⟩ | h
      · rw [h] at hpl; cases hpl
      · exact h
    have hi5l := (List.getElem?_eq_some_iff.1 hc5).1
    have o7 : OutAt H.length H7 out5 (enc true fP (.c v1 (.c v2 (.c v3 (.c v4 (.c v5 .u)))))) := .inr ⟨i5, hi5, hout5, by rw [w57.at_ i5 hi5l]; exact hc5, by omega⟩
    have hm7 : TagRep (fun i => i < H.length) H7 (.t s.ts) (.g [m]) := TagRep.kt hm ⟨w07.len, fun i b a x => ⟨a, by rw [w07.at_ i a]; exact x⟩⟩
    have clen := apn_len.run H7 sb 8 _ .vr _ m s.ts.length (at_ w07) rfl (tagN_rep hm7)
    have hsn : s.n ≤ 10000 := by omega
    have lu := uv_le5 (n := s.n) (by omega)
    obtain ⟨out8, H8, c8, o8, w8, ok8⟩ := ap_uv (n := s.n) emp_ns w07.len o7 (by omega) (by omega)
    have o8L : OutAt H7.length H8 out8 (enc true fP (.c v1 (.c v2 (.c v3 (.c v4 (.c v5 .u))))) ++ uv s.n) := by
      rcases o8 with ⟨_, h⟩ | ⟨i8, _, h1, h2, h3⟩
      · have := congrArg List.length h
        rw [List.length_append, hpl, List.length_nil] at this
        omega
      · exact .inr ⟨i8, ok8.new _ _ _ h1, h1, h2, h3⟩
    have w08 := w07.trans w8
    have hte8 : TE H5.length H7.length H8 te T := by
      rcases hte with h | ⟨i, a1, a2, a3, a4, a5⟩
      · exact .inl h
      · exact .inr ⟨i, a1, a2, a3, a4, ok8.at_ i _ a5 (fun i' o' n' e => by rw [hout5] at e; cases e; omega)⟩
    have hadd := addI64 3 false (T.length : Nat) (s.ts.length : Nat) (by omega)
    rw [show ((T.length : Nat) : Int) + (s.ts.length : Nat) = ((s.n : Nat) : Int) by omega] at hadd
    refine ⟨s.n, out8, H8, hte.len, clen, hadd, cvLen s.n (by omega), c8, fun fr hfr => ?_⟩
    refine WP.mono (wtags (L := H7.length) (lo := H5.length) (bs := enc true fP (.c v1 (.c v2 (.c v3 (.c v4 (.c v5 .u))))) ++ uv s.n) hso.o16 hak (by omega) hnk hT hTl w8.len (by rw [List.length_append]; omega) (by have := w07.len; omega) (at_ w08) rfl rfl (hwo.up w07.len w08.at_) (fun h => (hTk h).up w07.len w08.at_) hte8 o8L hfr) ?_
    rintro x fr' H9 ⟨rfl, w9, out9, hfr9, o9⟩
    have hL7 := w07.len
    have w09 : WKeep H.length H H9 := w08.trans ⟨fun i hi => w9.at_ i (by omega), w9.len⟩
    have hm9 : TagRep (fun i => i < H7.length) H9 (.t s.ts) (.g [m]) := TagRep.kt hm ⟨w09.len, fun i b a x => ⟨by have : i < H.length := a; omega, by rw [w09.at_ i a]; exact x⟩⟩
    have hfa : ∀ T : List Nat, (T.flatMap (tbs s.o uk)).length ≤ 16020 * T.length := by
      intro T
      induction T with
      | nil => simp
      | cons q r ih =>
        have := tbs_len hso.o16 hak (by omega) hnk q
        simp only [List.flatMap_cons, List.length_append, List.length_cons]
        omega
    have hfl := hfa T
    obtain ⟨out10, H10, c10, o10, w10⟩ := ape_each.run H7.length H9 out9 _ sb 8 _ .vr _ m s.ts (by have := w8.len; have := w9.len; omega) o9 (at_ w09) rfl (by omega) hm9 (by rw [List.length_append, List.length_append]; omega)
    refine ⟨rfl, out9, out10, H10, hfr9, c10, ?_, ?_⟩
    · have e : encW (.c v1 (.c v2 (.c v3 (.c v4 (.c v5 .u))))) s = enc true fP (.c v1 (.c v2 (.c v3 (.c v4 (.c v5 .u))))) ++ uv s.n ++ T.flatMap (tbs s.o uk) ++ encT s.ts := by
        rw [hTf]; simp [encW, encH, List.append_assoc]
      rw [e]
      exact o10.mono (by omega)
    · exact ⟨Nat.le_trans w09.len w10.len, fun i hi => by rw [w10.at_ i (by omega), w09.at_ i hi]⟩
  have hz5 : TE H5.length H5.length H5 .s0 [] := .inl ⟨rfl, rfl⟩
  by_cases ho0 : s.o = []
  · rcases hwk with ⟨hks, hkk⟩ | ⟨uk, hks, hwku, hkk⟩
    · -- none
      have hgo0 : binA P .gtr 3 true (.i .i64 (s.o.length : Nat)) (.i .i64 0) = some (.b false) := by rw [hgo, ho0]; rfl
      have w06 : WKeep H.length H H5 := w15
      have ld7 : loadA P H5 38 (.p sb 7) = some k := ldc (at_ w06) aUs rfl
      have hnq : binA P .neq 38 true k .s0 = some (.b false) := by rw [hkk]; exact nqS0
      obtain ⟨n8, out8, H8, hlt, clen, hadd, hcv, c8, hrun⟩ := tail .s0 [] H5 [] hz5 (.refl _ _) (by simp) (fun q hq => by cases hq) (fun h => by simp at h) (fun u hu => by cases hu) (by simp) (by simp only [Hs.n, hks, if_pos ho0]; first | omega | (simp; done) | (simp; omega)) (by rw [hks]; simp [tbs, oB, kB, ho0])
      generalize ((s.o.length : Nat) : Int) = on at hol hgo0
      generalize ((s.ts.length : Nat) : Int) = tn at clen hadd
      generalize ((n8 : Nat) : Int) = nn at hadd hcv c8
      refine CA.wp (fn := Tryd.f12) (R := fun out H' => OutAt H.length H' out (encW (.c v1 (.c v2 (.c v3 (.c v4 (.c v5 .u))))) s) ∧ Kp H H') (by kernel_rfl) rfl ?_
      dsimp only [Tryd.f12]
      dsimp only [List.length_cons, List.length_nil, List.cons_append, List.nil_append, Nat.reduceSub, Nat.reduceAdd, List.replicate]
      ((repeat with_reducible refine WP.seqs ?_); refine WP.rg ?_)
      ((repeat with_reducible refine WP.seqs ?_); refine WP.rg ?_)
      ((repeat with_reducible refine WP.seqs ?_); refine WP.rg ?_)
      ((repeat with_reducible refine WP.seqs ?_); refine WP.rg ?_)
      ((repeat with_reducible refine WP.seqs ?_); refine WP.rg ?_)
      ((repeat with_reducible refine WP.seqs ?_); refine WP.rg ?_)
      refine WP.re ?_; repeat (first | with_reducible refine Sq.n ?_ | with_reducible refine Sq.ret ?_ | with_reducible refine Sq.exit ?_ | with_reducible refine Bk.n ?_ | with_reducible refine Bk.ret ?_ | with_reducible refine Bk.exit ?_ | with_reducible refine Bk.ex' (by decide) ?_ | with_reducible refine Lp.ret ?_ | with_reducible refine Lp.exit ?_ | with_reducible refine Lx.exit ?_)
      ((repeat with_reducible refine WP.seqs ?_); refine WP.rg ?_)
      refine WP.re ?_; repeat (first | with_reducible refine Sq.n ?_ | with_reducible refine Sq.ret ?_ | with_reducible refine Sq.exit ?_ | with_reducible refine Bk.n ?_ | with_reducible refine Bk.ret ?_ | with_reducible refine Bk.exit ?_ | with_reducible refine Bk.ex' (by decide) ?_ | with_reducible refine Lp.ret ?_ | with_reducible refine Lp.exit ?_ | with_reducible refine Lx.exit ?_)
      ((repeat with_reducible refine WP.seqs ?_); refine WP.rg ?_)
      refine WP.re ?_; repeat (first | with_reducible refine Sq.n ?_ | with_reducible refine Sq.ret ?_ | with_reducible refine Sq.exit ?_ | with_reducible refine Bk.n ?_ | with_reducible refine Bk.ret ?_ | with_reducible refine Bk.exit ?_ | with_reducible refine Bk.ex' (by decide) ?_ | with_reducible refine Lp.ret ?_ | with_reducible refine Lp.exit ?_ | with_reducible refine Lx.exit ?_)
      ((repeat with_reducible refine WP.seqs ?_); refine WP.rg ?_)
      refine WP.re ?_; repeat (first | with_reducible refine Sq.n ?_ | with_reducible refine Sq.ret ?_ | with_reducible refine Sq.exit ?_ | with_reducible refine Bk.n ?_ | with_reducible refine Bk.ret ?_ | with_reducible refine Bk.exit ?_ | with_reducible refine Bk.ex' (by decide) ?_ | with_reducible refine Lp.ret ?_ | with_reducible refine Lp.exit ?_ | with_reducible refine Lx.exit ?_)
      ((repeat with_reducible refine WP.seqs ?_); refine WP.rg ?_)
      refine WP.re ?_; repeat (first | with_reducible refine Sq.n ?_ | with_reducible refine Sq.ret ?_ | with_reducible refine Sq.exit ?_ | with_reducible refine Bk.n ?_ | with_reducible refine Bk.ret ?_ | with_reducible refine Bk.exit ?_ | with_reducible refine Bk.ex' (by decide) ?_ | with_reducible refine Lp.ret ?_ | with_reducible refine Lp.exit ?_ | with_reducible refine Lx.exit ?_)
      ((repeat with_reducible refine WP.seqs ?_); refine WP.rg ?_)
      ((repeat with_reducible refine WP.seqs ?_); first | refine WP.seq (WP.condT rfl ?_) | refine WP.condT rfl ?_)
      ((repeat with_reducible refine WP.seqs ?_); refine WP.rg ?_)
      ((repeat with_reducible refine WP.seqs ?_); refine WP.rg ?_)
      ((repeat with_reducible refine WP.seqs ?_); first | refine WP.seq (WP.condF rfl ?_) | refine WP.condF rfl ?_)
      refine WP.skip ?_; repeat (first | with_reducible refine Sq.n ?_ | with_reducible refine Sq.ret ?_ | with_reducible refine Sq.exit ?_ | with_reducible refine Bk.n ?_ | with_reducible refine Bk.ret ?_ | with_reducible refine Bk.exit ?_ | with_reducible refine Bk.ex' (by decide) ?_ | with_reducible refine Lp.ret ?_ | with_reducible refine Lp.exit ?_ | with_reducible refine Lx.exit ?_)
      ((repeat with_reducible refine WP.seqs ?_); refine WP.rg ?_)
      ((repeat with_reducible refine WP.seqs ?_); first | refine WP.seq (WP.condF rfl ?_) | refine WP.condF rfl ?_)
      refine WP.skip ?_; repeat (first | with_reducible refine Sq.n ?_ | with_reducible refine Sq.ret ?_ | with_reducible refine Sq.exit ?_ | with_reducible refine Bk.n ?_ | with_reducible refine Bk.ret ?_ | with_reducible refine Bk.exit ?_ | with_reducible refine Bk.ex' (by decide) ?_ | with_reducible refine Lp.ret ?_ | with_reducible refine Lp.exit ?_ | with_reducible refine Lx.exit ?_)
      ((repeat with_reducible refine WP.seqs ?_); refine WP.rg ?_)
      ((repeat with_reducible refine WP.seqs ?_); refine WP.rg ?_)
      ((repeat with_reducible refine WP.seqs ?_); first | refine WP.seq (WP.block ?_) | refine WP.block ?_)
      change WP NS (.loop (cd0 hbW)) _ _ _
      refine WP.mono (hrun _ ⟨rfl, rfl, rfl, rfl, rfl, rfl, rfl, rfl⟩) ?_
      rintro x fr' H9 ⟨rfl, out9, out10, H10, ⟨hfl, hf0, hf1, hf6, hf12⟩, c10, o10, kp10⟩
      obtain ⟨g, rfl⟩ := ex216 _ hfl; replace hf0 : g 0 = _ := Option.some.inj hf0; replace hf1 : g 1 = _ := Option.some.inj hf1; replace hf6 : g 6 = _ := Option.some.inj hf6; replace hf12 : g 12 = _ := Option.some.inj hf12; rw [hf0, hf1, hf6, hf12]; clear hfl hf0 hf1 hf6 hf12
      repeat (first | with_reducible refine Sq.n ?_ | with_reducible refine Sq.ret ?_ | with_reducible refine Sq.exit ?_ | with_reducible refine Bk.n ?_ | with_reducible refine Bk.ret ?_ | with_reducible refine Bk.exit ?_ | with_reducible refine Bk.ex' (by decide) ?_ | with_reducible refine Lp.ret ?_ | with_reducible refine Lp.exit ?_ | with_reducible refine Lx.exit ?_)
      refine WP.re ?_; repeat (first | with_reducible refine Sq.n ?_ | with_reducible refine Sq.ret ?_ | with_reducible refine Sq.exit ?_ | with_reducible refine Bk.n ?_ | with_reducible refine Bk.ret ?_ | with_reducible refine Bk.exit ?_ | with_reducible refine Bk.ex' (by decide) ?_ | with_reducible refine Lp.ret ?_ | with_reducible refine Lp.exit ?_ | with_reducible refine Lx.exit ?_)
      ((repeat with_reducible refine WP.seqs ?_); refine WP.rg ?_)
      refine WP.ret ?_; repeat (first | with_reducible refine Sq.n ?_ | with_reducible refine Sq.ret ?_ | with_reducible refine Sq.exit ?_ | with_reducible refine Bk.n ?_ | with_reducible refine Bk.ret ?_ | with_reducible refine Bk.exit ?_ | with_reducible refine Bk.ex' (by decide) ?_ | with_reducible refine Lp.ret ?_ | with_reducible refine Lp.exit ?_ | with_reducible refine Lx.exit ?_)
      exact Fe.r1 rfl ⟨o10, kp10⟩
    · -- the second
      have hgo0 : binA P .gtr 3 true (.i .i64 (s.o.length : Nat)) (.i .i64 0) = some (.b false) := by rw [hgo, ho0]; rfl
      have w06 : WKeep H.length H H5 := w15
      have ld7 : loadA P H5 38 (.p sb 7) = some k := ldc (at_ w06) aUs rfl
      have hT7 : ∀ q ∈ ([] ++ [1] : List Nat), q = 0 ∨ (q = 1 ∧ binA P .eql 38 true k .s0 = some (.b false)) := fun q hq => by
        simp at hq
        have hn : binA P .eql 38 true k .s0 = some (.b false) := by rcases hkk with rfl | ⟨i, n, rfl⟩; exact eqSn; exact eqS0 i n
        first | (rcases hq with rfl | rfl; exact .inl rfl; exact .inr ⟨rfl, hn⟩) | (subst hq; exact .inr ⟨rfl, hn⟩)
      have hnq : binA P .neq 38 true k .s0 = some (.b true) := by rcases hkk with rfl | ⟨i, n, rfl⟩; exact nqSn; exact nqSl i n
      obtain ⟨sl7, H7b, te7, H7, hb7, ha7, hs7, ht7, w67⟩ := TE.push (lo := H5.length) (H := H5) (te := .s0) (T := []) hz5 (Nat.le_refl _) (by simp) 1
      replace hb7 : buildSliceA P H5 48 1 [(0, .i .u32 1)] = some (sl7, H7b) := hb7
      have hts : (elemA P 48).isSome = true := by rw [elT]; rfl
      obtain ⟨n8, out8, H8, hlt, clen, hadd, hcv, c8, hrun⟩ := tail te7 ([] ++ [1]) H7 uk ht7 w67 (by simp) hT7 (fun _ => hwku) (hso.k16 uk hks) (by rw [hks] at hsw; simp at hsw; omega) (by simp only [Hs.n, hks, if_pos ho0]; first | omega | (simp; done) | (simp; omega)) (by rw [hks]; simp [tbs, oB, kB, ho0])
      generalize ((s.o.length : Nat) : Int) = on at hol hgo0
      generalize ((s.ts.length : Nat) : Int) = tn at clen hadd
      generalize ((n8 : Nat) : Int) = nn at hadd hcv c8
      refine CA.wp (fn := Tryd.f12) (R := fun out H' => OutAt H.length H' out (encW (.c v1 (.c v2 (.c v3 (.c v4 (.c v5 .u))))) s) ∧ Kp H H') (by kernel_rfl) rfl ?_
      dsimp only [Tryd.f12]
      dsimp only [List.length_cons, List.length_nil, List.cons_append, List.nil_append, Nat.reduceSub, Nat.reduceAdd, List.replicate]
      ((repeat with_reducible refine WP.seqs ?_); refine WP.rg ?_)
      ((repeat with_reducible refine WP.seqs ?_); refine WP.rg ?_)
      ((repeat with_reducible refine WP.seqs ?_); refine WP.rg ?_)
      ((repeat with_reducible refine WP.seqs ?_); refine WP.rg ?_)
      ((repeat with_reducible refine WP.seqs ?_); refine WP.rg ?_)
      ((repeat with_reducible refine WP.seqs ?_); refine WP.rg ?_)
      refine WP.re ?_; repeat (first | with_reducible refine Sq.n ?_ | with_reducible refine Sq.ret ?_ | with_reducible refine Sq.exit ?_ | with_reducible refine Bk.n ?_ | with_reducible refine Bk.ret ?_ | with_reducible refine Bk.exit ?_ | with_reducible refine Bk.ex' (by decide) ?_ | with_reducible refine Lp.ret ?_ | with_reducible refine Lp.exit ?_ | with_reducible refine Lx.exit ?_)
      ((repeat with_reducible refine WP.seqs ?_); refine WP.rg ?_)
      refine WP.re ?_; repeat (first | with_reducible refine Sq.n ?_ | with_reducible refine Sq.ret ?_ | with_reducible refine Sq.exit ?_ | with_reducible refine Bk.n ?_ | with_reducible refine Bk.ret ?_ | with_reducible refine Bk.exit ?_ | with_reducible refine Bk.ex' (by decide) ?_ | with_reducible refine Lp.ret ?_ | with_reducible refine Lp.exit ?_ | with_reducible refine Lx.exit ?_)
      ((repeat with_reducible refine WP.seqs ?_); refine WP.rg ?_)
      refine WP.re ?_; repeat (first | with_reducible refine Sq.n ?_ | with_reducible refine Sq.ret ?_ | with_reducible refine Sq.exit ?_ | with_reducible refine Bk.n ?_ | with_reducible refine Bk.ret ?_ | with_reducible refine Bk.exit ?_ | with_reducible refine Bk.ex' (by decide) ?_ | with_reducible refine Lp.ret ?_ | with_reducible refine Lp.exit ?_ | with_reducible refine Lx.exit ?_)
      ((repeat with_reducible refine WP.seqs ?_); refine WP.rg ?_)
      refine WP.re ?_; repeat (first | with_reducible refine Sq.n ?_ | with_reducible refine Sq.ret ?_ | with_reducible refine Sq.exit ?_ | with_reducible refine Bk.n ?_ | with_reducible refine Bk.ret ?_ | with_reducible refine Bk.exit ?_ | with_reducible refine Bk.ex' (by decide) ?_ | with_reducible refine Lp.ret ?_ | with_reducible refine Lp.exit ?_ | with_reducible refine Lx.exit ?_)
      ((repeat with_reducible refine WP.seqs ?_); refine WP.rg ?_)
      refine WP.re ?_; repeat (first | with_reducible refine Sq.n ?_ | with_reducible refine Sq.ret ?_ | with_reducible refine Sq.exit ?_ | with_reducible refine Bk.n ?_ | with_reducible refine Bk.ret ?_ | with_reducible refine Bk.exit ?_ | with_reducible refine Bk.ex' (by decide) ?_ | with_reducible refine Lp.ret ?_ | with_reducible refine Lp.exit ?_ | with_reducible refine Lx.exit ?_)
      ((repeat with_reducible refine WP.seqs ?_); refine WP.rg ?_)
      ((repeat with_reducible refine WP.seqs ?_); first | refine WP.seq (WP.condT rfl ?_) | refine WP.condT rfl ?_)
      ((repeat with_reducible refine WP.seqs ?_); refine WP.rg ?_)
      ((repeat with_reducible refine WP.seqs ?_); refine WP.rg ?_)
      ((repeat with_reducible refine WP.seqs ?_); first | refine WP.seq (WP.condF rfl ?_) | refine WP.condF rfl ?_)
      refine WP.skip ?_; repeat (first | with_reducible refine Sq.n ?_ | with_reducible refine Sq.ret ?_ | with_reducible refine Sq.exit ?_ | with_reducible refine Bk.n ?_ | with_reducible refine Bk.ret ?_ | with_reducible refine Bk.exit ?_ | with_reducible refine Bk.ex' (by decide) ?_ | with_reducible refine Lp.ret ?_ | with_reducible refine Lp.exit ?_ | with_reducible refine Lx.exit ?_)
      ((repeat with_reducible refine WP.seqs ?_); refine WP.rg ?_)
      ((repeat with_reducible refine WP.seqs ?_); first | refine WP.seq (WP.condT rfl ?_) | refine WP.condT rfl ?_)
      refine WP.re ?_; repeat (first | with_reducible refine Sq.n ?_ | with_reducible refine Sq.ret ?_ | with_reducible refine Sq.exit ?_ | with_reducible refine Bk.n ?_ | with_reducible refine Bk.ret ?_ | with_reducible refine Bk.exit ?_ | with_reducible refine Bk.ex' (by decide) ?_ | with_reducible refine Lp.ret ?_ | with_reducible refine Lp.exit ?_ | with_reducible refine Lx.exit ?_)
      ((repeat with_reducible refine WP.seqs ?_); refine WP.rg ?_)
      ((repeat with_reducible refine WP.seqs ?_); refine WP.rg ?_)
      ((repeat with_reducible refine WP.seqs ?_); first | refine WP.seq (WP.block ?_) | refine WP.block ?_)
      change WP NS (.loop (cd0 hbW)) _ _ _
      refine WP.mono (hrun _ ⟨rfl, rfl, rfl, rfl, rfl, rfl, rfl, rfl⟩) ?_
      rintro x fr' H9 ⟨rfl, out9, out10, H10, ⟨hfl, hf0, hf1, hf6, hf12⟩, c10, o10, kp10⟩
      obtain ⟨g, rfl⟩ := ex216 _ hfl; replace hf0 : g 0 = _ := Option.some.inj hf0; replace hf1 : g 1 = _ := Option.some.inj hf1; replace hf6 : g 6 = _ := Option.some.inj hf6; replace hf12 : g 12 = _ := Option.some.inj hf12; rw [hf0, hf1, hf6, hf12]; clear hfl hf0 hf1 hf6 hf12
      repeat (first | with_reducible refine Sq.n ?_ | with_reducible refine Sq.ret ?_ | with_reducible refine Sq.exit ?_ | with_reducible refine Bk.n ?_ | with_reducible refine Bk.ret ?_ | with_reducible refine Bk.exit ?_ | with_reducible refine Bk.ex' (by decide) ?_ | with_reducible refine Lp.ret ?_ | with_reducible refine Lp.exit ?_ | with_reducible refine Lx.exit ?_)
      refine WP.re ?_; repeat (first | with_reducible refine Sq.n ?_ | with_reducible refine Sq.ret ?_ | with_reducible refine Sq.exit ?_ | with_reducible refine Bk.n ?_ | with_reducible refine Bk.ret ?_ | with_reducible refine Bk.exit ?_ | with_reducible refine Bk.ex' (by decide) ?_ | with_reducible refine Lp.ret ?_ | with_reducible refine Lp.exit ?_ | with_reducible refine Lx.exit ?_)
      ((repeat with_reducible refine WP.seqs ?_); refine WP.rg ?_)
      refine WP.ret ?_; repeat (first | with_reducible refine Sq.n ?_ | with_reducible refine Sq.ret ?_ | with_reducible refine Sq.exit ?_ | with_reducible refine Bk.n ?_ | with_reducible refine Bk.ret ?_ | with_reducible refine Bk.exit ?_ | with_reducible refine Bk.ex' (by decide) ?_ | with_reducible refine Lp.ret ?_ | with_reducible refine Lp.exit ?_ | with_reducible refine Lx.exit ?_)
      exact Fe.r1 rfl ⟨o10, kp10⟩
  · rcases hwk with ⟨hks, hkk⟩ | ⟨uk, hks, hwku, hkk⟩
    · -- the first
      have hgo0 : binA P .gtr 3 true (.i .i64 (s.o.length : Nat)) (.i .i64 0) = some (.b true) := by rw [hgo]; simp; exact List.length_pos_iff.2 ho0
      obtain ⟨sl6, H6b, te6, H6, hb6, ha6, hs6, ht6, w56⟩ := hz5.push (Nat.le_refl _) (by simp) 0
      replace hb6 : buildSliceA P H5 48 1 [(0, .i .u32 0)] = some (sl6, H6b) := hb6
      have hts : (elemA P 48).isSome = true := by rw [elT]; rfl
      have w06 : WKeep H.length H H6 := w15.trans ⟨fun i hi => w56.at_ i (by omega), w56.len⟩
      have ld7 : loadA P H6 38 (.p sb 7) = some k := ldc (at_ w06) aUs rfl
      have hnq : binA P .neq 38 true k .s0 = some (.b false) := by rw [hkk]; exact nqS0
      obtain ⟨n8, out8, H8, hlt, clen, hadd, hcv, c8, hrun⟩ := tail te6 [0] H6 [] ht6 w56 (by simp) (fun q hq => by simp at hq; exact .inl hq) (fun h => by simp at h) (fun u hu => by cases hu) (by simp) (by simp only [Hs.n, hks, if_neg ho0]; first | omega | (simp; done) | (simp; omega)) (by rw [hks]; simp [tbs, oB, kB, ho0])
      generalize ((s.o.length : Nat) : Int) = on at hol hgo0
      generalize ((s.ts.length : Nat) : Int) = tn at clen hadd
      generalize ((n8 : Nat) : Int) = nn at hadd hcv c8
      refine CA.wp (fn := Tryd.f12) (R := fun out H' => OutAt H.length H' out (encW (.c v1 (.c v2 (.c v3 (.c v4 (.c v5 .u))))) s) ∧ Kp H H') (by kernel_rfl) rfl ?_
      dsimp only [Tryd.f12]
      dsimp only [List.length_cons, List.length_nil, List.cons_append, List.nil_append, Nat.reduceSub, Nat.reduceAdd, List.replicate]
      ((repeat with_reducible refine WP.seqs ?_); refine WP.rg ?_)
      ((repeat with_reducible refine WP.seqs ?_); refine WP.rg ?_)
      ((repeat with_reducible refine WP.seqs ?_); refine WP.rg ?_)
      ((repeat with_reducible refine WP.seqs ?_); refine WP.rg ?_)
      ((repeat with_reducible refine WP.seqs ?_); refine WP.rg ?_)
      ((repeat with_reducible refine WP.seqs ?_); refine WP.rg ?_)
      refine WP.re ?_; repeat (first | with_reducible refine Sq.n ?_ | with_reducible refine Sq.ret ?_ | with_reducible refine Sq.exit ?_ | with_reducible refine Bk.n ?_ | with_reducible refine Bk.ret ?_ | with_reducible refine Bk.exit ?_ | with_reducible refine Bk.ex' (by decide) ?_ | with_reducible refine Lp.ret ?_ | with_reducible refine Lp.exit ?_ | with_reducible refine Lx.exit ?_)
      ((repeat with_reducible refine WP.seqs ?_); refine WP.rg ?_)
      refine WP.re ?_; repeat (first | with_reducible refine Sq.n ?_ | with_reducible refine Sq.ret ?_ | with_reducible refine Sq.exit ?_ | with_reducible refine Bk.n ?_ | with_reducible refine Bk.ret ?_ | with_reducible refine Bk.exit ?_ | with_reducible refine Bk.ex' (by decide) ?_ | with_reducible refine Lp.ret ?_ | with_reducible refine Lp.exit ?_ | with_reducible refine Lx.exit ?_)
      ((repeat with_reducible refine WP.seqs ?_); refine WP.rg ?_)
      refine WP.re ?_; repeat (first | with_reducible refine Sq.n ?_ | with_reducible refine Sq.ret ?_ | with_reducible refine Sq.exit ?_ | with_reducible refine Bk.n ?_ | with_reducible refine Bk.ret ?_ | with_reducible refine Bk.exit ?_ | with_reducible refine Bk.ex' (by decide) ?_ | with_reducible refine Lp.ret ?_ | with_reducible refine Lp.exit ?_ | with_reducible refine Lx.exit ?_)
      ((repeat with_reducible refine WP.seqs ?_); refine WP.rg ?_)
      refine WP.re ?_; repeat (first | with_reducible refine Sq.n ?_ | with_reducible refine Sq.ret ?_ | with_reducible refine Sq.exit ?_ | with_reducible refine Bk.n ?_ | with_reducible refine Bk.ret ?_ | with_reducible refine Bk.exit ?_ | with_reducible refine Bk.ex' (by decide) ?_ | with_reducible refine Lp.ret ?_ | with_reducible refine Lp.exit ?_ | with_reducible refine Lx.exit ?_)
      ((repeat with_reducible refine WP.seqs ?_); refine WP.rg ?_)
      refine WP.re ?_; repeat (first | with_reducible refine Sq.n ?_ | with_reducible refine Sq.ret ?_ | with_reducible refine Sq.exit ?_ | with_reducible refine Bk.n ?_ | with_reducible refine Bk.ret ?_ | with_reducible refine Bk.exit ?_ | with_reducible refine Bk.ex' (by decide) ?_ | with_reducible refine Lp.ret ?_ | with_reducible refine Lp.exit ?_ | with_reducible refine Lx.exit ?_)
      ((repeat with_reducible refine WP.seqs ?_); refine WP.rg ?_)
      ((repeat with_reducible refine WP.seqs ?_); first | refine WP.seq (WP.condT rfl ?_) | refine WP.condT rfl ?_)
      ((repeat with_reducible refine WP.seqs ?_); refine WP.rg ?_)
      ((repeat with_reducible refine WP.seqs ?_); refine WP.rg ?_)
      ((repeat with_reducible refine WP.seqs ?_); first | refine WP.seq (WP.condT rfl ?_) | refine WP.condT rfl ?_)
      refine WP.re ?_; repeat (first | with_reducible refine Sq.n ?_ | with_reducible refine Sq.ret ?_ | with_reducible refine Sq.exit ?_ | with_reducible refine Bk.n ?_ | with_reducible refine Bk.ret ?_ | with_reducible refine Bk.exit ?_ | with_reducible refine Bk.ex' (by decide) ?_ | with_reducible refine Lp.ret ?_ | with_reducible refine Lp.exit ?_ | with_reducible refine Lx.exit ?_)
      ((repeat with_reducible refine WP.seqs ?_); refine WP.rg ?_)
      ((repeat with_reducible refine WP.seqs ?_); first | refine WP.seq (WP.condF rfl ?_) | refine WP.condF rfl ?_)
      refine WP.skip ?_; repeat (first | with_reducible refine Sq.n ?_ | with_reducible refine Sq.ret ?_ | with_reducible refine Sq.exit ?_ | with_reducible refine Bk.n ?_ | with_reducible refine Bk.ret ?_ | with_reducible refine Bk.exit ?_ | with_reducible refine Bk.ex' (by decide) ?_ | with_reducible refine Lp.ret ?_ | with_reducible refine Lp.exit ?_ | with_reducible refine Lx.exit ?_)
      ((repeat with_reducible refine WP.seqs ?_); refine WP.rg ?_)
      ((repeat with_reducible refine WP.seqs ?_); refine WP.rg ?_)
      ((repeat with_reducible refine WP.seqs ?_); first | refine WP.seq (WP.block ?_) | refine WP.block ?_)
      change WP NS (.loop (cd0 hbW)) _ _ _
      refine WP.mono (hrun _ ⟨rfl, rfl, rfl, rfl, rfl, rfl, rfl, rfl⟩) ?_
      rintro x fr' H9 ⟨rfl, out9, out10, H10, ⟨hfl, hf0, hf1, hf6, hf12⟩, c10, o10, kp10⟩
      obtain ⟨g, rfl⟩ := ex216 _ hfl; replace hf0 : g 0 = _ := Option.some.inj hf0; replace hf1 : g 1 = _ := Option.some.inj hf1; replace hf6 : g 6 = _ := Option.some.inj hf6; replace hf12 : g 12 = _ := Option.some.inj hf12; rw [hf0, hf1, hf6, hf12]; clear hfl hf0 hf1 hf6 hf12
      repeat (first | with_reducible refine Sq.n ?_ | with_reducible refine Sq.ret ?_ | with_reducible refine Sq.exit ?_ | with_reducible refine Bk.n ?_ | with_reducible refine Bk.ret ?_ | with_reducible refine Bk.exit ?_ | with_reducible refine Bk.ex' (by decide) ?_ | with_reducible refine Lp.ret ?_ | with_reducible refine Lp.exit ?_ | with_reducible refine Lx.exit ?_)
      refine WP.re ?_; repeat (first | with_reducible refine Sq.n ?_ | with_reducible refine Sq.ret ?_ | with_reducible refine Sq.exit ?_ | with_reducible refine Bk.n ?_ | with_reducible refine Bk.ret ?_ | with_reducible refine Bk.exit ?_ | with_reducible refine Bk.ex' (by decide) ?_ | with_reducible refine Lp.ret ?_ | with_reducible refine Lp.exit ?_ | with_reducible refine Lx.exit ?_)
      ((repeat with_reducible refine WP.seqs ?_); refine WP.rg ?_)
      refine WP.ret ?_; repeat (first | with_reducible refine Sq.n ?_ | with_reducible refine Sq.ret ?_ | with_reducible refine Sq.exit ?_ | with_reducible refine Bk.n ?_ | with_reducible refine Bk.ret ?_ | with_reducible refine Bk.exit ?_ | with_reducible refine Bk.ex' (by decide) ?_ | with_reducible refine Lp.ret ?_ | with_reducible refine Lp.exit ?_ | with_reducible refine Lx.exit ?_)
      exact Fe.r1 rfl ⟨o10, kp10⟩
    · -- both
      have hgo0 : binA P .gtr 3 true (.i .i64 (s.o.length : Nat)) (.i .i64 0) = some (.b true) := by rw [hgo]; simp; exact List.length_pos_iff.2 ho0
      obtain ⟨sl6, H6b, te6, H6, hb6, ha6, hs6, ht6, w56⟩ := hz5.push (Nat.le_refl _) (by simp) 0
      replace hb6 : buildSliceA P H5 48 1 [(0, .i .u32 0)] = some (sl6, H6b) := hb6
      have hts : (elemA P 48).isSome = true := by rw [elT]; rfl
      have w06 : WKeep H.length H H6 := w15.trans ⟨fun i hi => w56.at_ i (by omega), w56.len⟩
      have ld7 : loadA P H6 38 (.p sb 7) = some k := ldc (at_ w06) aUs rfl
      have hT7 : ∀ q ∈ ([0] ++ [1] : List Nat), q = 0 ∨ (q = 1 ∧ binA P .eql 38 true k .s0 = some (.b false)) := fun q hq => by
        simp at hq
        have hn : binA P .eql 38 true k .s0 = some (.b false) := by rcases hkk with rfl | ⟨i, n, rfl⟩; exact eqSn; exact eqS0 i n
        first | (rcases hq with rfl | rfl; exact .inl rfl; exact .inr ⟨rfl, hn⟩) | (subst hq; exact .inr ⟨rfl, hn⟩)
      have hnq : binA P .neq 38 true k .s0 = some (.b true) := by rcases hkk with rfl | ⟨i, n, rfl⟩; exact nqSn; exact nqSl i n
      obtain ⟨sl7, H7b, te7, H7, hb7, ha7, hs7, ht7, w67⟩ := TE.push (lo := H5.length) (H := H6) (te := te6) (T := [0]) ht6 w56.len (by simp) 1
      replace hb7 : buildSliceA P H6 48 1 [(0, .i .u32 1)] = some (sl7, H7b) := hb7
      obtain ⟨n8, out8, H8, hlt, clen, hadd, hcv, c8, hrun⟩ := tail te7 ([0] ++ [1]) H7 uk ht7 (w56.trans w67) (by simp) hT7 (fun _ => hwku) (hso.k16 uk hks) (by rw [hks] at hsw; simp at hsw; omega) (by simp only [Hs.n, hks, if_neg ho0]; first | omega | (simp; done) | (simp; omega)) (by rw [hks]; simp [tbs, oB, kB, ho0])
      generalize ((s.o.length : Nat) : Int) = on at hol hgo0
      generalize ((s.ts.length : Nat) : Int) = tn at clen hadd
      generalize ((n8 : Nat) : Int) = nn at hadd hcv c8
      refine CA.wp (fn := Tryd.f12) (R := fun out H' => OutAt H.length H' out (encW (.c v1 (.c v2 (.c v3 (.c v4 (.c v5 .u))))) s) ∧ Kp H H') (by kernel_rfl) rfl ?_
      dsimp only [Tryd.f12]
      dsimp only [List.length_cons, List.length_nil, List.cons_append, List.nil_append, Nat.reduceSub, Nat.reduceAdd, List.replicate]
      ((repeat with_reducible refine WP.seqs ?_); refine WP.rg ?_)
      ((repeat with_reducible refine WP.seqs ?_); refine WP.rg ?_)
      ((repeat with_reducible refine WP.seqs ?_); refine WP.rg ?_)
      ((repeat with_reducible refine WP.seqs ?_); refine WP.rg ?_)
      ((repeat with_reducible refine WP.seqs ?_); refine WP.rg ?_)
      ((repeat with_reducible refine WP.seqs ?_); refine WP.rg ?_)
      refine WP.re ?_; repeat (first | with_reducible refine Sq.n ?_ | with_reducible refine Sq.ret ?_ | with_reducible refine Sq.exit ?_ | with_reducible refine Bk.n ?_ | with_reducible refine Bk.ret ?_ | with_reducible refine Bk.exit ?_ | with_reducible refine Bk.ex' (by decide) ?_ | with_reducible refine Lp.ret ?_ | with_reducible refine Lp.exit ?_ | with_reducible refine Lx.exit ?_)
      ((repeat with_reducible refine WP.seqs ?_); refine WP.rg ?_)
      refine WP.re ?_; repeat (first | with_reducible refine Sq.n ?_ | with_reducible refine Sq.ret ?_ | with_reducible refine Sq.exit ?_ | with_reducible refine Bk.n ?_ | with_reducible refine Bk.ret ?_ | with_reducible refine Bk.exit ?_ | with_reducible refine Bk.ex' (by decide) ?_ | with_reducible refine Lp.ret ?_ | with_reducible refine Lp.exit ?_ | with_reducible refine Lx.exit ?_)
      ((repeat with_reducible refine WP.seqs ?_); refine WP.rg ?_)
      refine WP.re ?_; repeat (first | with_reducible refine Sq.n ?_ | with_reducible refine Sq.ret ?_ | with_reducible refine Sq.exit ?_ | with_reducible refine Bk.n ?_ | with_reducible refine Bk.ret ?_ | with_reducible refine Bk.exit ?_ | with_reducible refine Bk.ex' (by decide) ?_ | with_reducible refine Lp.ret ?_ | with_reducible refine Lp.exit ?_ | with_reducible refine Lx.exit ?_)
      ((repeat with_reducible refine WP.seqs ?_); refine WP.rg ?_)
      refine WP.re ?_; repeat (first | with_reducible refine Sq.n ?_ | with_reducible refine Sq.ret ?_ | with_reducible refine Sq.exit ?_ | with_reducible refine Bk.n ?_ | with_reducible refine Bk.ret ?_ | with_reducible refine Bk.exit ?_ | with_reducible refine Bk.ex' (by decide) ?_ | with_reducible refine Lp.ret ?_ | with_reducible refine Lp.exit ?_ | with_reducible refine Lx.exit ?_)
      ((repeat with_reducible refine WP.seqs ?_); refine WP.rg ?_)
      refine WP.re ?_; repeat (first | with_reducible refine Sq.n ?_ | with_reducible refine Sq.ret ?_ | with_reducible refine Sq.exit ?_ | with_reducible refine Bk.n ?_ | with_reducible refine Bk.ret ?_ | with_reducible refine Bk.exit ?_ | with_reducible refine Bk.ex' (by decide) ?_ | with_reducible refine Lp.ret ?_ | with_reducible refine Lp.exit ?_ | with_reducible refine Lx.exit ?_)
      ((repeat with_reducible refine WP.seqs ?_); refine WP.rg ?_)
      ((repeat with_reducible refine WP.seqs ?_); first | refine WP.seq (WP.condT rfl ?_) | refine WP.condT rfl ?_)
      ((repeat with_reducible refine WP.seqs ?_); refine WP.rg ?_)
      ((repeat with_reducible refine WP.seqs ?_); refine WP.rg ?_)
      ((repeat with_reducible refine WP.seqs ?_); first | refine WP.seq (WP.condT rfl ?_) | refine WP.condT rfl ?_)
      refine WP.re ?_; repeat (first | with_reducible refine Sq.n ?_ | with_reducible refine Sq.ret ?_ | with_reducible refine Sq.exit ?_ | with_reducible refine Bk.n ?_ | with_reducible refine Bk.ret ?_ | with_reducible refine Bk.exit ?_ | with_reducible refine Bk.ex' (by decide) ?_ | with_reducible refine Lp.ret ?_ | with_reducible refine Lp.exit ?_ | with_reducible refine Lx.exit ?_)
      ((repeat with_reducible refine WP.seqs ?_); refine WP.rg ?_)
      ((repeat with_reducible refine WP.seqs ?_); first | refine WP.seq (WP.condT rfl ?_) | refine WP.condT rfl ?_)
      refine WP.re ?_; repeat (first | with_reducible refine Sq.n ?_ | with_reducible refine Sq.ret ?_ | with_reducible refine Sq.exit ?_ | with_reducible refine Bk.n ?_ | with_reducible refine Bk.ret ?_ | with_reducible refine Bk.exit ?_ | with_reducible refine Bk.ex' (by decide) ?_ | with_reducible refine Lp.ret ?_ | with_reducible refine Lp.exit ?_ | with_reducible refine Lx.exit ?_)
      ((repeat with_reducible refine WP.seqs ?_); refine WP.rg ?_)
      ((repeat with_reducible refine WP.seqs ?_); refine WP.rg ?_)
      ((repeat with_reducible refine WP.seqs ?_); first | refine WP.seq (WP.block ?_) | refine WP.block ?_)
      change WP NS (.loop (cd0 hbW)) _ _ _
      refine WP.mono (hrun _ ⟨rfl, rfl, rfl, rfl, rfl, rfl, rfl, rfl⟩) ?_
      rintro x fr' H9 ⟨rfl, out9, out10, H10, ⟨hfl, hf0, hf1, hf6, hf12⟩, c10, o10, kp10⟩
      obtain ⟨g, rfl⟩ := ex216 _ hfl; replace hf0 : g 0 = _ := Option.some.inj hf0; replace hf1 : g 1 = _ := Option.some.inj hf1; replace hf6 : g 6 = _ := Option.some.inj hf6; replace hf12 : g 12 = _ := Option.some.inj hf12; rw [hf0, hf1, hf6, hf12]; clear hfl hf0 hf1 hf6 hf12
      repeat (first | with_reducible refine Sq.n ?_ | with_reducible refine Sq.ret ?_ | with_reducible refine Sq.exit ?_ | with_reducible refine Bk.n ?_ | with_reducible refine Bk.ret ?_ | with_reducible refine Bk.exit ?_ | with_reducible refine Bk.ex' (by decide) ?_ | with_reducible refine Lp.ret ?_ | with_reducible refine Lp.exit ?_ | with_reducible refine Lx.exit ?_)
      refine WP.re ?_; repeat (first | with_reducible refine Sq.n ?_ | with_reducible refine Sq.ret ?_ | with_reducible refine Sq.exit ?_ | with_reducible refine Bk.n ?_ | with_reducible refine Bk.ret ?_ | with_reducible refine Bk.exit ?_ | with_reducible refine Bk.ex' (by decide) ?_ | with_reducible refine Lp.ret ?_ | with_reducible refine Lp.exit ?_ | with_reducible refine Lx.exit ?_)
      ((repeat with_reducible refine WP.seqs ?_); refine WP.rg ?_)
      refine WP.ret ?_; repeat (first | with_reducible refine Sq.n ?_ | with_reducible refine Sq.ret ?_ | with_reducible refine Sq.exit ?_ | with_reducible refine Bk.n ?_ | with_reducible refine Bk.ret ?_ | with_reducible refine Bk.exit ?_ | with_reducible refine Bk.ex' (by decide) ?_ | with_reducible refine Lp.ret ?_ | with_reducible refine Lp.exit ?_ | with_reducible refine Lx.exit ?_)
      exact Fe.r1 rfl ⟨o10, kp10⟩
end Go.Proofs.YtiifcfngbbhgoagDoor.Rd

