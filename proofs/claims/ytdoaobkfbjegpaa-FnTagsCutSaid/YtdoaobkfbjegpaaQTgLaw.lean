/-
  THE LAW FnTagsCut: its run in the abstract machine ends with true.
-/
import Derived.Test.YtdoaobkfbjegpaaQTgLast
set_option linter.constructorNameAsVariable false
set_option linter.unusedVariables false
set_option linter.unusedSimpArgs false
namespace Go.Proofs.Ytdoaobkfbjegpaa.Rd
open Go Go.Proofs.Ytdoaobkfbjegpaa.Ax Go.Proofs.Ytdoaobkfbjegpaa.Wire
set_option maxRecDepth 100000
set_option maxHeartbeats 2000000
theorem put_mem {k : Nat} {v : B} {t : Nat × B} : ∀ l : List (Nat × B), t ∈ put k v l → t ∈ l ∨ t = (k, v)
  | [], h => by simp [put] at h; exact .inr h
  | (k', v') :: r, h => by
    unfold put at h
    split at h
    · rcases List.mem_cons.1 h with rfl | h
      · exact .inr rfl
      · exact .inl h
    · split at h
      · rcases List.mem_cons.1 h with rfl | h
        · exact .inr rfl
        · exact .inl (List.mem_cons_of_mem _ h)
      · rcases List.mem_cons.1 h with rfl | h
        · exact .inl List.mem_cons_self
        · rcases put_mem r h with h | h
          · exact .inl (List.mem_cons_of_mem _ h)
          · exact .inr h
theorem foldP_mem {t : Nat × B} : ∀ l a : List (Nat × B), t ∈ l.foldl (fun a t => put t.1 t.2 a) a → t ∈ a ∨ t ∈ l
  | [], a, h => .inl h
  | x :: l, a, h => by
    rcases foldP_mem l _ h with h | h
    · rcases put_mem _ h with h | rfl
      · exact .inl h
      · exact .inr List.mem_cons_self
    · exact .inr (List.mem_cons_of_mem _ h)
theorem lastT_mem {t : Nat × B} {l : List (Nat × B)} (h : t ∈ lastT l) : t ∈ l := by
  rcases foldP_mem l [] h with h | h
  · cases h
  · exact h
theorem skip_some {bs r : B} {v : V} (h : Ev.tags.dec true bs = some (v, r)) : skipT bs = some r := by
  unfold skipT
  simp only [Ev.dec] at h
  cases hv : rdV bs with
  | none => rw [hv] at h; cases h
  | some x =>
    rw [hv] at h
    simp only [Option.bind_some] at h ⊢
    rw [skT_dec x.1 []]
    cases hd : decT x.1 [] x.2 with
    | none => rw [hd] at h; cases h
    | some y =>
      rw [hd] at h
      simp only [Option.map_some, Option.some.injEq, Prod.mk.injEq] at h
      obtain ⟨_, rfl⟩ := h
      rfl
theorem cv_u16_int (n : Nat) (h : n < 65536) : convA P 23 3 (.i .u16 (n : Nat)) = some (.i .i64 (n : Nat)) := by
  have e : convA P 23 3 (.i .u16 (n : Nat)) = some (.i .i64 (IntKind.i64.wrap (n : Nat))) := by kernel_rfl
  rw [e]; simp [IntKind.wrap, IntKind.signed, IntKind.bits]; omega
theorem cut_dat {L0 : Nat} {H : Heap} {out : AV} {bs : B} (h : OutAt L0 H out bs) {n : Nat} (hn : n < bs.length) : ∃ sl, sliceA P 28 out none (some (.i .i64 (n : Nat))) = some sl ∧ DatAt H sl (bs.take n) := by
  rcases h with ⟨_, rfl⟩ | ⟨i, _, rfl, h3, h4⟩
  · simp at hn
  · refine ⟨.sl i 0 n, ?_, ?_, rfl⟩
    · simp only [sliceA, bty.elem, bty.size]
      rw [if_pos ⟨by omega, by omega⟩]; simp
    · have hl : (bs.take n).length = n := by simp; omega
      have ht : ((u8s bs).drop 0).take (n * 1) = u8s (bs.take n) := by rw [List.drop_zero, Nat.mul_one]; simp [u8s, List.map_take]
      simp only [firstA, h3]
      rw [if_pos ⟨by rw [u8s_length]; omega, by rw [ht]; exact u8s_one _⟩, ht, hl]
theorem tagsCut_x {H : Heap} {u : AV} {us : List (Nat × B)} {at_ : Int} (hat : 0 ≤ at_ ∧ at_ < 65536) (hu : TgAt H u us) (hk32 : ∀ t ∈ us, t.1 < 4294967296) :
    ∃ H', CA P NS 3 [u, .i .u16 at_] H (.b true, H') := by
  have key : ∃ v H', CA P NS 3 [u, .i .u16 at_] H (v, H') ∧ v = .b true := by
    obtain ⟨fv, H1, hc1, ⟨fb, rfl, hfb⟩, k1⟩ := fits5_x hu
    refine CA.wp (fn := Try.f3) (R := fun v _ => v = .b true) (by kernel_rfl) rfl ?_
    cases fb with
    | false =>
      dsimp only [Try.f3]
      dsimp only [List.length_cons, List.length_nil, List.cons_append, List.nil_append, Nat.reduceSub, Nat.reduceAdd, List.replicate]
      ((repeat with_reducible refine WP.seqs ?_); refine WP.rg ?_)
      ((repeat with_reducible refine WP.seqs ?_); refine WP.rg ?_)
      ((repeat with_reducible refine WP.seqs ?_); first | refine WP.seq (WP.condT rfl ?_) | refine WP.condT rfl ?_)
      ((repeat with_reducible refine WP.seqs ?_); refine WP.rg ?_)
      refine WP.ret ?_; repeat (first | with_reducible refine Sq.n ?_ | with_reducible refine Sq.ret ?_ | with_reducible refine Sq.exit ?_ | with_reducible refine Bk.n ?_ | with_reducible refine Bk.ret ?_ | with_reducible refine Bk.exit ?_ | with_reducible refine Bk.ex' (by decide) ?_ | with_reducible refine Lp.ret ?_ | with_reducible refine Lp.exit ?_ | with_reducible refine Lx.exit ?_)
      exact Fe.r1 rfl rfl
    | true =>
      have hbig := hfb rfl
      have hu1 := hu.kp k1
      obtain ⟨tb, H2, hc2, htb, k2⟩ := tagsFit_x hu1 hbig
      have k02 := k1.trans k2
      have hu2 := hu.kp k02
      cases tb with
      | false =>
        dsimp only [Try.f3]
        dsimp only [List.length_cons, List.length_nil, List.cons_append, List.nil_append, Nat.reduceSub, Nat.reduceAdd, List.replicate]
        ((repeat with_reducible refine WP.seqs ?_); refine WP.rg ?_)
        ((repeat with_reducible refine WP.seqs ?_); refine WP.rg ?_)
        ((repeat with_reducible refine WP.seqs ?_); first | refine WP.seq (WP.condF rfl ?_) | refine WP.condF rfl ?_)
        refine WP.skip ?_; repeat (first | with_reducible refine Sq.n ?_ | with_reducible refine Sq.ret ?_ | with_reducible refine Sq.exit ?_ | with_reducible refine Bk.n ?_ | with_reducible refine Bk.ret ?_ | with_reducible refine Bk.exit ?_ | with_reducible refine Bk.ex' (by decide) ?_ | with_reducible refine Lp.ret ?_ | with_reducible refine Lp.exit ?_ | with_reducible refine Lx.exit ?_)
        ((repeat with_reducible refine WP.seqs ?_); refine WP.rg ?_)
        ((repeat with_reducible refine WP.seqs ?_); first | refine WP.seq (WP.condT rfl ?_) | refine WP.condT rfl ?_)
        ((repeat with_reducible refine WP.seqs ?_); refine WP.rg ?_)
        refine WP.ret ?_; repeat (first | with_reducible refine Sq.n ?_ | with_reducible refine Sq.ret ?_ | with_reducible refine Sq.exit ?_ | with_reducible refine Bk.n ?_ | with_reducible refine Bk.ret ?_ | with_reducible refine Bk.exit ?_ | with_reducible refine Bk.ex' (by decide) ?_ | with_reducible refine Lp.ret ?_ | with_reducible refine Lp.exit ?_ | with_reducible refine Lx.exit ?_)
        exact Fe.r1 rfl rfl
      | true =>
        have hfits := htb rfl
        have hl := hu2.1.len (t := 22) (by rw [elI]; rfl)
        have q0 := eqlI 3 true (us.length : Nat) 0
        by_cases hz : us.length = 0
        · replace q0 : binA P .eql 3 true (.i .i64 (us.length : Nat)) (.i .i64 0) = some (.b true) := by rw [q0, decide_eq_true (by omega)]
          generalize ((us.length : Nat) : Int) = n at hl q0
          dsimp only [Try.f3]
          dsimp only [List.length_cons, List.length_nil, List.cons_append, List.nil_append, Nat.reduceSub, Nat.reduceAdd, List.replicate]
          ((repeat with_reducible refine WP.seqs ?_); refine WP.rg ?_)
          ((repeat with_reducible refine WP.seqs ?_); refine WP.rg ?_)
          ((repeat with_reducible refine WP.seqs ?_); first | refine WP.seq (WP.condF rfl ?_) | refine WP.condF rfl ?_)
          refine WP.skip ?_; repeat (first | with_reducible refine Sq.n ?_ | with_reducible refine Sq.ret ?_ | with_reducible refine Sq.exit ?_ | with_reducible refine Bk.n ?_ | with_reducible refine Bk.ret ?_ | with_reducible refine Bk.exit ?_ | with_reducible refine Bk.ex' (by decide) ?_ | with_reducible refine Lp.ret ?_ | with_reducible refine Lp.exit ?_ | with_reducible refine Lx.exit ?_)
          ((repeat with_reducible refine WP.seqs ?_); refine WP.rg ?_)
          ((repeat with_reducible refine WP.seqs ?_); first | refine WP.seq (WP.condT rfl ?_) | refine WP.condT rfl ?_)
          ((repeat with_reducible refine WP.seqs ?_); refine WP.rg ?_)
          refine WP.ret ?_; repeat (first | with_reducible refine Sq.n ?_ | with_reducible refine Sq.ret ?_ | with_reducible refine Sq.exit ?_ | with_reducible refine Bk.n ?_ | with_reducible refine Bk.ret ?_ | with_reducible refine Bk.exit ?_ | with_reducible refine Bk.ex' (by decide) ?_ | with_reducible refine Lp.ret ?_ | with_reducible refine Lp.exit ?_ | with_reducible refine Lx.exit ?_)
          exact Fe.r1 rfl rfl
        replace q0 : binA P .eql 3 true (.i .i64 (us.length : Nat)) (.i .i64 0) = some (.b false) := by rw [q0, decide_eq_false (by omega)]
        generalize ((us.length : Nat) : Int) = n at hl q0
        obtain ⟨tv, H3, hc3, hu3, k3⟩ := tagsOf_x hu2 hfits.1
        obtain ⟨wv, H4, hc4, hu4, k4⟩ := lastTags_x hu3 hfits.1
        have hLlen : (lastT us).length ≤ 50 := by have := foldP_len us []; have := hfits.1; unfold lastT; simp at *; omega
        have hLfit : Fits (lastT us) := ⟨hLlen, fun t ht => hfits.2 t (lastT_mem ht)⟩
        have hLk : ∀ t ∈ lastT us, t.1 < 4294967296 := fun t ht => hk32 t (lastT_mem ht)
        have hLok : okT 0 (lastT us) := foldP_ok us [] (fun x hx => ⟨hk32 x hx, by have := hfits.2 x hx; omega⟩) trivial
        have hwhole := skip_some (tg_whole hLok (by omega))
        have hcutn : ∀ m, m < (tgB (lastT us)).length → skipT ((tgB (lastT us)).take m) = none := fun m hm => skip_none (tg_cut hLok (by omega) (List.take_append_drop m _).symm (fun h => by have := congrArg List.length h; simp at this; omega))
        have hLl := hu4.1.len (t := 25) (by rw [elG]; rfl)
        have hcv := cv_int_u64 (lastT us).length (by omega)
        obtain ⟨o1, H5, hc5, ho1, k5⟩ := uvs_x (n := (lastT us).length) (by omega) H4
        obtain ⟨o2, H6, hc6, ho2, hel, k6⟩ := tagBytes_x (hu4.kp k5) hLfit hLk
        have l1 := uv_le5 (n := (lastT us).length) (by omega)
        have l0 := uv_pos (lastT us).length
        obtain ⟨dv, H7, hap, hO, w7, _, hS⟩ := putB (by have := k5.1; have := k6.1; omega) (ho1.wk k6) ho2.bytes (by omega)
        have htg : uv (lastT us).length ++ encT (lastT us) = tgB (lastT us) := rfl
        rw [htg] at hO
        have htl : (tgB (lastT us)).length = (uv (lastT us).length).length + (encT (lastT us)).length := by rw [← htg, List.length_append]
        have hdat := BytesAt.dat hO.bytes
        obtain ⟨rv, H8, hc8, k8⟩ := impl_read hdat (by omega)
        rw [hwhole] at hc8
        obtain ⟨na, rfl⟩ : ∃ na : Nat, at_ = na := ⟨at_.toNat, by omega⟩
        have hcva := cv_u16_int na (by omega)
        have hln := (hO.wk k8).bytes.len bty
        have hrem := remk na (tgB (lastT us)).length (by omega)
        have hlt := Nat.mod_lt na (show 0 < (tgB (lastT us)).length by omega)
        obtain ⟨sl, hsl, hdat2⟩ := cut_dat (hO.wk k8) hlt
        have hnone := hcutn _ hlt
        obtain ⟨rv2, H9, hc9, k9⟩ := impl_read hdat2 (by rw [List.length_take]; omega)
        obtain ⟨H10, hc10, k10⟩ := impl_skip (hdat2.kp (fun i b h => k9.at_ h)) (by rw [List.length_take]; omega)
        rw [hnone] at hc9 hc10
        have hq : binA P .eql 3 true (.i .i64 0) (.i .i64 0) = some (.b true) := by rw [eqlI]; rfl
        simp only [Option.getD_some, Option.getD_none, List.length_nil, Option.isSome_some, Option.isSome_none, Int.ofNat_zero, Int.natCast_zero] at hc8 hc9 hc10
        generalize ((na % (tgB (lastT us)).length : Nat) : Int) = ri at hrem hsl
        generalize (((tgB (lastT us)).length : Nat) : Int) = ni at hln hrem
        generalize ((na : Nat) : Int) = ai at hcva hrem ⊢
        generalize (((lastT us).length : Nat) : Int) = li at hLl hcv hc5
        dsimp only [Try.f3]
        dsimp only [List.length_cons, List.length_nil, List.cons_append, List.nil_append, Nat.reduceSub, Nat.reduceAdd, List.replicate]
        ((repeat with_reducible refine WP.seqs ?_); refine WP.rg ?_)
        ((repeat with_reducible refine WP.seqs ?_); refine WP.rg ?_)
        ((repeat with_reducible refine WP.seqs ?_); first | refine WP.seq (WP.condF rfl ?_) | refine WP.condF rfl ?_)
        refine WP.skip ?_; repeat (first | with_reducible refine Sq.n ?_ | with_reducible refine Sq.ret ?_ | with_reducible refine Sq.exit ?_ | with_reducible refine Bk.n ?_ | with_reducible refine Bk.ret ?_ | with_reducible refine Bk.exit ?_ | with_reducible refine Bk.ex' (by decide) ?_ | with_reducible refine Lp.ret ?_ | with_reducible refine Lp.exit ?_ | with_reducible refine Lx.exit ?_)
        ((repeat with_reducible refine WP.seqs ?_); refine WP.rg ?_)
        ((repeat with_reducible refine WP.seqs ?_); first | refine WP.seq (WP.condF rfl ?_) | refine WP.condF rfl ?_)
        refine WP.skip ?_; repeat (first | with_reducible refine Sq.n ?_ | with_reducible refine Sq.ret ?_ | with_reducible refine Sq.exit ?_ | with_reducible refine Bk.n ?_ | with_reducible refine Bk.ret ?_ | with_reducible refine Bk.exit ?_ | with_reducible refine Bk.ex' (by decide) ?_ | with_reducible refine Lp.ret ?_ | with_reducible refine Lp.exit ?_ | with_reducible refine Lx.exit ?_)
        ((repeat with_reducible refine WP.seqs ?_); refine WP.rg ?_)
        ((repeat with_reducible refine WP.seqs ?_); refine WP.rg ?_)
        ((repeat with_reducible refine WP.seqs ?_); refine WP.rg ?_)
        ((repeat with_reducible refine WP.seqs ?_); refine WP.rg ?_)
        ((repeat with_reducible refine WP.seqs ?_); refine WP.rg ?_)
        ((repeat with_reducible refine WP.seqs ?_); refine WP.rg ?_)
        ((repeat with_reducible refine WP.seqs ?_); refine WP.rg ?_)
        refine WP.ret ?_; repeat (first | with_reducible refine Sq.n ?_ | with_reducible refine Sq.ret ?_ | with_reducible refine Sq.exit ?_ | with_reducible refine Bk.n ?_ | with_reducible refine Bk.ret ?_ | with_reducible refine Bk.exit ?_ | with_reducible refine Bk.ex' (by decide) ?_ | with_reducible refine Lp.ret ?_ | with_reducible refine Lp.exit ?_ | with_reducible refine Lx.exit ?_)
        exact Fe.r1 rfl rfl
  obtain ⟨v, H', h, rfl⟩ := key
  exact ⟨H', h⟩
end Go.Proofs.Ytdoaobkfbjegpaa.Rd

