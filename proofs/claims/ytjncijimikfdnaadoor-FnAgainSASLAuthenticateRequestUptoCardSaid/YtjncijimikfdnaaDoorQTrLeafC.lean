import Derived.Test.YtjncijimikfdnaaDoorQTrLeaf
/-
  THE REFERENCE's SMALL FUNCTIONS: counts; as far as a text or a list may go; the parts of a tree; what fields say of versions.
-/
namespace Go.Proofs.YtjncijimikfdnaaDoor.Rd
set_option linter.constructorNameAsVariable false
set_option linter.unusedVariables false
set_option linter.unusedSimpArgs false
open Go Go.Proofs.YtjncijimikfdnaaDoor.Ax Go.Proofs.YtjncijimikfdnaaDoor.Wire
set_option linter.unusedVariables false
set_option linter.unusedSimpArgs false
set_option maxRecDepth 100000
set_option maxHeartbeats 1000000
theorem cv_int_u64 (n : Nat) (h : n < 9223372036854775808) : convA P 3 77 (.i .i64 (n : Nat)) = some (.i .u64 (n : Nat)) := by
  have e : convA P 3 77 (.i .i64 (n : Nat)) = some (.i .u64 (IntKind.u64.wrap (n : Nat))) := by kernel_rfl
  rw [e]; simp [IntKind.wrap, IntKind.signed, IntKind.bits]; omega
theorem cv_u32_u64 (n : Nat) (h : n < 4294967296) : convA P 62 77 (.i .u32 (n : Nat)) = some (.i .u64 (n : Nat)) := by
  have e : convA P 62 77 (.i .u32 (n : Nat)) = some (.i .u64 (IntKind.u64.wrap (n : Nat))) := by kernel_rfl
  rw [e]; simp [IntKind.wrap, IntKind.signed, IntKind.bits]; omega
theorem addU64 (t : TypeId) (c : Bool) (a b : Nat) (h : a + b < 18446744073709551616) : binA P .add t c (.i .u64 (a : Nat)) (.i .u64 (b : Nat)) = some (.i .u64 ((a + b : Nat) : Int)) := by
  have e : binA P .add t c (.i .u64 (a : Nat)) (.i .u64 (b : Nat)) = some (.i .u64 (IntKind.u64.wrap ((a : Int) + b))) := by
    simp [binA, binOp, Op.intArith, ofSem, ofV1]
    rfl
  rw [e]; simp [IntKind.wrap, IntKind.signed, IntKind.bits]; omega
theorem push0 (H : Heap) (b : UInt8) : ∃ out H', buildSliceA P H 22 1 [(0, U8 b)] = some (out, H') ∧ OutAt H.length H' out [b] ∧ Kp H H' := by
  refine ⟨_, _, build_1 H b, .inr ⟨H.length, Nat.le_refl _, rfl, by simp, by simp⟩, Kp.app _ _⟩
def cntS (flex null : Bool) (size n : Nat) : B := if null then cnt0 flex size else cnt flex size n
/-- A count ahead of something. -/
theorem cntd_x {flex null : Bool} {n size : Nat} (hs : size ≤ 8) (hn : n < 4294967296) (H : Heap) : ∃ out H', CA P NS 84 [.b flex, .b null, .i .i64 (n : Nat), .i .i64 (size : Nat)] H (out, H') ∧ OutAt H.length H' out (cntS flex null size n) ∧ Kp H H' := by
  refine CA.wp (fn := Tryd.f84) (R := fun out H' => OutAt H.length H' out (cntS flex null size n) ∧ Kp H H') (by kernel_rfl) rfl ?_
  cases flex with
  | true =>
    cases null with
    | true =>
      obtain ⟨out, H1, hb, ho, hk⟩ := push0 H 0
      have hb : buildSliceA P H 22 1 [(0, .i .u8 0)] = some (out, H1) := hb
      dsimp only [Tryd.f84]
      dsimp only [List.length_cons, List.length_nil, List.cons_append, List.nil_append, Nat.reduceSub, Nat.reduceAdd, List.replicate]
      ((repeat with_reducible refine WP.seqs ?_); refine WP.rg ?_)
      ((repeat with_reducible refine WP.seqs ?_); first | refine WP.seq (WP.block ?_) | refine WP.block ?_)
      ((repeat with_reducible refine WP.seqs ?_); refine WP.rg ?_)
      ((repeat with_reducible refine WP.seqs ?_); first | refine WP.seq (WP.condT rfl ?_) | refine WP.condT rfl ?_)
      ((repeat with_reducible refine WP.seqs ?_); refine WP.rg ?_)
      refine WP.ret ?_; repeat (first | with_reducible refine Sq.n ?_ | with_reducible refine Sq.ret ?_ | with_reducible refine Sq.exit ?_ | with_reducible refine Bk.n ?_ | with_reducible refine Bk.ret ?_ | with_reducible refine Bk.exit ?_ | with_reducible refine Bk.ex' (by decide) ?_ | with_reducible refine Lp.ret ?_ | with_reducible refine Lp.exit ?_ | with_reducible refine Lx.exit ?_)
      exact Fe.r1 rfl ⟨by simpa [cntS, cnt0] using ho, hk⟩
    | false =>
      have hcv := cv_int_u64 n (by omega)
      have ha := addU64 77 true n 1 (by omega)
      obtain ⟨out, H1, hc, ho, hk⟩ := uvs_x (n := n + 1) (by omega) H
      have ha : binA P .add 77 true (.i .u64 (n : Nat)) (.i .u64 1) = some (.i .u64 ((n + 1 : Nat) : Int)) := ha
      generalize ((n + 1 : Nat) : Int) = n1 at ha hc
      dsimp only [Tryd.f84]
      dsimp only [List.length_cons, List.length_nil, List.cons_append, List.nil_append, Nat.reduceSub, Nat.reduceAdd, List.replicate]
      ((repeat with_reducible refine WP.seqs ?_); refine WP.rg ?_)
      ((repeat with_reducible refine WP.seqs ?_); first | refine WP.seq (WP.block ?_) | refine WP.block ?_)
      ((repeat with_reducible refine WP.seqs ?_); refine WP.rg ?_)
      ((repeat with_reducible refine WP.seqs ?_); first | refine WP.seq (WP.condF rfl ?_) | refine WP.condF rfl ?_)
      ((repeat with_reducible refine WP.seqs ?_); refine WP.rg ?_)
      ((repeat with_reducible refine WP.seqs ?_); first | refine WP.seq (WP.condT rfl ?_) | refine WP.condT rfl ?_)
      ((repeat with_reducible refine WP.seqs ?_); refine WP.rg ?_)
      refine WP.ret ?_; repeat (first | with_reducible refine Sq.n ?_ | with_reducible refine Sq.ret ?_ | with_reducible refine Sq.exit ?_ | with_reducible refine Bk.n ?_ | with_reducible refine Bk.ret ?_ | with_reducible refine Bk.exit ?_ | with_reducible refine Bk.ex' (by decide) ?_ | with_reducible refine Lp.ret ?_ | with_reducible refine Lp.exit ?_ | with_reducible refine Lx.exit ?_)
      exact Fe.r1 rfl ⟨by simpa [cntS, cnt] using ho, hk⟩
  | false =>
    cases null with
    | true =>
      obtain ⟨out, H1, hc, ho, hk⟩ := fix_x (n := -1) hs H
      generalize hsz : ((size : Nat) : Int) = sz at hc ⊢
      dsimp only [Tryd.f84]
      dsimp only [List.length_cons, List.length_nil, List.cons_append, List.nil_append, Nat.reduceSub, Nat.reduceAdd, List.replicate]
      ((repeat with_reducible refine WP.seqs ?_); refine WP.rg ?_)
      ((repeat with_reducible refine WP.seqs ?_); first | refine WP.seq (WP.block ?_) | refine WP.block ?_)
      ((repeat with_reducible refine WP.seqs ?_); refine WP.rg ?_)
      ((repeat with_reducible refine WP.seqs ?_); first | refine WP.seq (WP.condF rfl ?_) | refine WP.condF rfl ?_)
      ((repeat with_reducible refine WP.seqs ?_); refine WP.rg ?_)
      ((repeat with_reducible refine WP.seqs ?_); first | refine WP.seq (WP.condF rfl ?_) | refine WP.condF rfl ?_)
      ((repeat with_reducible refine WP.seqs ?_); refine WP.rg ?_)
      ((repeat with_reducible refine WP.seqs ?_); first | refine WP.seq (WP.condT rfl ?_) | refine WP.condT rfl ?_)
      ((repeat with_reducible refine WP.seqs ?_); refine WP.rg ?_)
      refine WP.ret ?_; repeat (first | with_reducible refine Sq.n ?_ | with_reducible refine Sq.ret ?_ | with_reducible refine Sq.exit ?_ | with_reducible refine Bk.n ?_ | with_reducible refine Bk.ret ?_ | with_reducible refine Bk.exit ?_ | with_reducible refine Bk.ex' (by decide) ?_ | with_reducible refine Lp.ret ?_ | with_reducible refine Lp.exit ?_ | with_reducible refine Lx.exit ?_)
      exact Fe.r1 rfl ⟨by simpa [cntS, cnt0] using ho, hk⟩
    | false =>
      obtain ⟨out, H1, hc, ho, hk⟩ := fix_x (n := (n : Nat)) hs H
      dsimp only [Tryd.f84]
      dsimp only [List.length_cons, List.length_nil, List.cons_append, List.nil_append, Nat.reduceSub, Nat.reduceAdd, List.replicate]
      ((repeat with_reducible refine WP.seqs ?_); refine WP.rg ?_)
      ((repeat with_reducible refine WP.seqs ?_); first | refine WP.seq (WP.block ?_) | refine WP.block ?_)
      ((repeat with_reducible refine WP.seqs ?_); refine WP.rg ?_)
      ((repeat with_reducible refine WP.seqs ?_); first | refine WP.seq (WP.condF rfl ?_) | refine WP.condF rfl ?_)
      ((repeat with_reducible refine WP.seqs ?_); refine WP.rg ?_)
      ((repeat with_reducible refine WP.seqs ?_); first | refine WP.seq (WP.condF rfl ?_) | refine WP.condF rfl ?_)
      ((repeat with_reducible refine WP.seqs ?_); refine WP.rg ?_)
      ((repeat with_reducible refine WP.seqs ?_); first | refine WP.seq (WP.condF rfl ?_) | refine WP.condF rfl ?_)
      refine WP.skip ?_; repeat (first | with_reducible refine Sq.n ?_ | with_reducible refine Sq.ret ?_ | with_reducible refine Sq.exit ?_ | with_reducible refine Bk.n ?_ | with_reducible refine Bk.ret ?_ | with_reducible refine Bk.exit ?_ | with_reducible refine Bk.ex' (by decide) ?_ | with_reducible refine Lp.ret ?_ | with_reducible refine Lp.exit ?_ | with_reducible refine Lx.exit ?_)
      ((repeat with_reducible refine WP.seqs ?_); refine WP.rg ?_)
      refine WP.ret ?_; repeat (first | with_reducible refine Sq.n ?_ | with_reducible refine Sq.ret ?_ | with_reducible refine Sq.exit ?_ | with_reducible refine Bk.n ?_ | with_reducible refine Bk.ret ?_ | with_reducible refine Bk.exit ?_ | with_reducible refine Bk.ex' (by decide) ?_ | with_reducible refine Lp.ret ?_ | with_reducible refine Lp.exit ?_ | with_reducible refine Lx.exit ?_)
      exact Fe.r1 rfl ⟨by simpa [cntS, cnt] using ho, hk⟩
theorem minA_nat (n : Nat) : minA (.i .i64 (n : Nat)) (.i .i64 32767) = some (.i .i64 ((min n 32767 : Nat) : Int)) := by
  have : (if (32767 : Int) < ((n : Nat) : Int) then (32767 : Int) else (n : Nat)) = ((min n 32767 : Nat) : Int) := by split <;> omega
  simp only [minA, if_true, this]
theorem BytesAt.hi {A : Nat → Prop} {H : Heap} {av : AV} {bs : B} (h : BytesAt A H av bs) {n : Nat} (hn : n ≤ bs.length) (h0 : 0 < n ∨ bs.length = 0) : ∃ av', sliceA P 22 av none (some (.i .i64 (n : Nat))) = some av' ∧ BytesAt A H av' (bs.take n) := by
  unfold sliceA
  simp only [bty.elem, bty.size]
  cases h with
  | z =>
    obtain rfl : n = 0 := by simpa using hn
    exact ⟨.s0, by simp, by simpa using BytesAt.z⟩
  | e =>
    obtain rfl : n = 0 := by simpa using hn
    exact ⟨.se, by simp, by simpa using BytesAt.e⟩
  | @s i o ty kn cs bs hA h h1 h2 =>
    have hp : 0 < n := by omega
    have hl : (bs.take n).length = n := by simp; omega
    refine ⟨.sl i o n, by simp; omega, ?_⟩
    have := @BytesAt.s A H i o ty kn cs (bs.take n) hA h (by omega) (by
      rw [hl]
      have : (cs.drop o).take n = ((cs.drop o).take bs.length).take n := by rw [List.take_take]; congr 1; omega
      rw [this, h2]; simp [u8s, List.map_take])
    rw [hl] at this
    exact this
/-- A text as far as it may go. -/
theorem whole_x {A : Nat → Prop} {H : Heap} {av : AV} {bs : B} (h : BytesAt A H av bs) : ∃ av', CA P NS 63 [av] H (av', H) ∧ BytesAt A H av' (whole bs) := by
  have hl := h.len bty
  have hm := minA_nat bs.length
  obtain ⟨av', hs, hb⟩ := BytesAt.hi h (n := min bs.length 32767) (by omega) (by omega)
  have e : bs.take (min bs.length 32767) = whole bs := by
    unfold whole
    by_cases hc : bs.length ≤ 32767
    · rw [Nat.min_eq_left hc, List.take_length, List.take_of_length_le hc]
    · rw [Nat.min_eq_right (by omega)]
  rw [e] at hb
  have key : ∃ v H', CA P NS 63 [av] H (v, H') ∧ (v = av' ∧ H' = H) := by
    refine CA.wp (fn := Tryd.f63) (R := fun v H' => v = av' ∧ H' = H) (by kernel_rfl) rfl ?_
    generalize ((bs.length : Nat) : Int) = n1 at hl hm
    generalize ((min bs.length 32767 : Nat) : Int) = n2 at hm hs
    dsimp only [Tryd.f63]
    dsimp only [List.length_cons, List.length_nil, List.cons_append, List.nil_append, Nat.reduceSub, Nat.reduceAdd, List.replicate]
    ((repeat with_reducible refine WP.seqs ?_); refine WP.rg ?_)
    ((repeat with_reducible refine WP.seqs ?_); refine WP.rg ?_)
    refine WP.ret ?_; repeat (first | with_reducible refine Sq.n ?_ | with_reducible refine Sq.ret ?_ | with_reducible refine Sq.exit ?_ | with_reducible refine Bk.n ?_ | with_reducible refine Bk.ret ?_ | with_reducible refine Bk.exit ?_ | with_reducible refine Bk.ex' (by decide) ?_ | with_reducible refine Lp.ret ?_ | with_reducible refine Lp.exit ?_ | with_reducible refine Lx.exit ?_)
    exact Fe.r1 rfl ⟨rfl, rfl⟩
  obtain ⟨v, H', hc, rfl, rfl⟩ := key
  exact ⟨_, hc, hb⟩
theorem SlAt.len {H : Heap} {sz n : Nat} {av : AV} (h : SlAt H sz av n) {t : TypeId} (ht : (elemA P t).isSome = true) : lenA P t av = some (.i .i64 (n : Nat)) := by
  have hu : ∃ e, P.underlying t = some (.slice e) := by
    unfold elemA at ht
    split at ht
    · rename_i e he; exact ⟨e, he⟩
    · simp at ht
  obtain ⟨e, hu⟩ := hu
  unfold lenA
  rcases h with ⟨rfl | rfl, rfl⟩ | ⟨i, o, ty, kn, cs, rfl, h0, h1, h2⟩ <;> simp [hu]
theorem SlAt.hi {H : Heap} {sz n : Nat} {av : AV} (h : SlAt H sz av n) {t e : TypeId} (ht : elemA P t = some e) (hz : sizeA P e = some sz) {m : Nat} (hm : m ≤ n) (h0 : 0 < m ∨ n = 0) :
    ∃ av', sliceA P t av none (some (.i .i64 (m : Nat))) = some av' ∧ SlAt H sz av' m ∧ ∀ j, elAt H sz av' j = elAt H sz av j := by
  unfold sliceA
  simp only [ht, hz]
  rcases h with ⟨rfl | rfl, rfl⟩ | ⟨i, o, ty, kn, cs, rfl, h1, h2, h3⟩
  · obtain rfl : m = 0 := by omega
    exact ⟨.s0, by simp, .inl ⟨.inl rfl, rfl⟩, fun j => rfl⟩
  · obtain rfl : m = 0 := by omega
    exact ⟨.se, by simp, .inl ⟨.inr rfl, rfl⟩, fun j => rfl⟩
  · refine ⟨.sl i o m, by simp; omega, .inr ⟨i, o, ty, kn, cs, rfl, by omega, h2, ?_⟩, fun j => rfl⟩
    have : m * sz ≤ n * sz := Nat.mul_le_mul_right _ hm
    omega
theorem elT : elemA P 23 = some 26 := by kernel_rfl
theorem elG : elemA P 24 = some 64 := by kernel_rfl
theorem elF : elemA P 30 = some 48 := by kernel_rfl
/-- A list as far as it may go. -/
theorem things_x {H : Heap} {av : AV} {n : Nat} (h : SlAt H 5 av n) : ∃ av', CA P NS 83 [av] H (av', H) ∧ SlAt H 5 av' (min n 32767) ∧ ∀ j, elAt H 5 av' j = elAt H 5 av j := by
  have hl := h.len (t := 23) (by rw [elT]; rfl)
  have hm := minA_nat n
  obtain ⟨av', hs, hb, he⟩ := h.hi elT zT (m := min n 32767) (by omega) (by omega)
  have key : ∃ v H', CA P NS 83 [av] H (v, H') ∧ (v = av' ∧ H' = H) := by
    refine CA.wp (fn := Tryd.f83) (R := fun v H' => v = av' ∧ H' = H) (by kernel_rfl) rfl ?_
    generalize ((min n 32767 : Nat) : Int) = n2 at hm hs
    generalize ((n : Nat) : Int) = n1 at hl hm
    dsimp only [Tryd.f83]
    dsimp only [List.length_cons, List.length_nil, List.cons_append, List.nil_append, Nat.reduceSub, Nat.reduceAdd, List.replicate]
    ((repeat with_reducible refine WP.seqs ?_); refine WP.rg ?_)
    ((repeat with_reducible refine WP.seqs ?_); refine WP.rg ?_)
    refine WP.ret ?_; repeat (first | with_reducible refine Sq.n ?_ | with_reducible refine Sq.ret ?_ | with_reducible refine Sq.exit ?_ | with_reducible refine Bk.n ?_ | with_reducible refine Bk.ret ?_ | with_reducible refine Bk.exit ?_ | with_reducible refine Bk.ex' (by decide) ?_ | with_reducible refine Lp.ret ?_ | with_reducible refine Lp.exit ?_ | with_reducible refine Lx.exit ?_)
    exact Fe.r1 rfl ⟨rfl, rfl⟩
  obtain ⟨v, H', hc, rfl, rfl⟩ := key
  exact ⟨_, hc, hb, he⟩
/-- An element's place. -/
theorem SlAt.idx {H : Heap} {sz n : Nat} {av : AV} (h : SlAt H sz av n) {t e : TypeId} (ht : elemA P t = some e) (hz : sizeA P e = some sz) (ha : aggA P e = some true) {j : Nat} (hj : j < n) :
    ∃ p c, indexAddrA P t av (.i .i64 (j : Nat)) = some p ∧ loadA P H e p = some (.g c) ∧ elAt H sz av j = some c ∧ c.length = sz := by
  obtain ⟨c, hc, hcl⟩ := h.get hj
  rcases h with ⟨_, h⟩ | ⟨i, o, ty, kn, cs, rfl, h1, h2, h3⟩
  · omega
  · have hle : (j + 1) * sz ≤ n * sz := Nat.mul_le_mul_right _ hj
    have e1 : (j + 1) * sz = j * sz + sz := by rw [Nat.add_mul, Nat.one_mul]
    refine ⟨.p i (o + j * sz), c, ?_, ?_, hc, hcl⟩
    · simp only [indexAddrA, ht, hz]
      rw [if_pos ⟨by omega, by omega⟩]; simp
    · simp only [elAt, h2, Option.some.injEq] at hc
      simp only [loadA, loadAt, h2, ha, hz]
      rw [if_pos (by omega), hc]
theorem TrAt.zero (H : Heap) : TrAt H [.i .i64 0, .s0, .b false, .s0, .s0] .zero := .mk (by omega) .z ⟨.inl ⟨.inl rfl, rfl⟩, fun j k bs h => by simp at h⟩ (.inl ⟨.inl rfl, rfl⟩) (fun j x h => by simp at h)
theorem SlAt.one {H : Heap} {sz n : Nat} {av : AV} (h : SlAt H sz av n) : av.one = true := by
  rcases h with ⟨rfl | rfl, _⟩ | ⟨i, o, ty, kn, cs, rfl, _⟩ <;> rfl
/-- A tree's cells. -/
theorem TrAt.parts {H : Heap} {c : List AV} {t : Tr} (h : TrAt H c t) : ∃ s l u, c = [.i .i64 t.n, s, .b t.null, l, u] ∧ (-9223372036854775808 ≤ t.n ∧ t.n ≤ 9223372036854775807) ∧ BytesAt (Lt H) H s t.s ∧ TgAt H u t.u ∧ SlAt H 5 l t.l.length ∧ (∀ (j : Nat) (x : Tr), t.l[j]? = some x → ∀ c, elAt H 5 l j = some c → TrAt H c x) ∧ c.all AV.one = true := by
  cases h with
  | @mk n s l u nl bs ts us hn hs hu hl hx =>
    refine ⟨s, l, u, rfl, hn, hs, hu, hl, hx, ?_⟩
    have h1 := (BytesAt.one' hs).2
    have h2 := hl.one
    have h3 := hu.1.one
    have h4 : (AV.i .i64 n).one = true := rfl
    have h5 : (AV.b nl).one = true := rfl
    simp [h1, h2, h3, h4, h5]
theorem zeroT : zeroA P 26 = some (.g [.i .i64 0, .s0, .b false, .s0, .s0]) := by kernel_rfl
theorem buildT : buildA P 26 [] = some (.g [.i .i64 0, .s0, .b false, .s0, .s0]) := by kernel_rfl
/-- What the field of a number says. -/
theorem at_x {H : Heap} {c : List AV} {t : Tr} (ht : TrAt H c t) (i : Nat) : ∃ v H', CA P NS 58 [.g c, .i .i64 (i : Nat)] H (v, H') ∧ ∃ c', v = .g c' ∧ TrAt H' c' (t.at i) ∧ Kp H H' := by
  obtain ⟨s, l, u, hc, hn, hs, hu, hl, hx, hone⟩ := ht.parts
  obtain ⟨b1, H1, hbx, k1, v1, _⟩ := box_new (H := H) (e := 26) hone
  refine CA.wp (fn := Tryd.f58) (R := fun v H' => ∃ c', v = .g c' ∧ TrAt H' c' (t.at i) ∧ Kp H H') (by kernel_rfl) rfl ?_
  subst hc
  have hlen := (hl.kp k1).len (t := 23) (by rw [elT]; rfl)
  have hlss := lssI 3 false (i : Nat) (t.l.length : Nat)
  by_cases hi : i < t.l.length
  · have hlss : binA P .lss 3 false (.i .i64 (i : Nat)) (.i .i64 (t.l.length : Nat)) = some (.b true) := by rw [hlss]; simp; omega
    obtain ⟨p, c', hix, hld, hel, hcl⟩ := (hl.kp k1).idx elT zT aT hi
    have htc : TrAt H c' (t.at i) := by
      have he : t.at i = t.l[i] := by unfold Tr.at; simp [List.getD, hi]
      rw [he]
      exact hx i _ (by simp) c' (by rw [← hl.el k1 hi]; exact hel)
    have hone' := htc.parts.choose_spec.choose_spec.choose_spec.2.2.2.2.2.2
    obtain ⟨b2, H2, H3, hal, hst, k2, v3, _, k3, v2, _⟩ := alloc_new (H := H1) zeroT rfl zT rfl hcl hone'
    have v1 := k3.at_ v1
    have hld : loadA P H2 26 p = some (.g c') := by
      obtain ⟨p2, c2, q1, q2, q3, _⟩ := ((hl.kp k1).kp k3).idx elT zT aT hi
      rw [hix] at q1; cases q1
      have : elAt H2 5 l i = elAt H1 5 l i := (hl.kp k1).el k3 hi
      rw [this, hel] at q3; cases q3
      exact q2
    generalize hii : ((i : Nat) : Int) = ii at hlss hix ⊢
    generalize ((t.l.length : Nat) : Int) = nn at hlss hlen
    dsimp only [Tryd.f58]
    dsimp only [List.length_cons, List.length_nil, List.cons_append, List.nil_append, Nat.reduceSub, Nat.reduceAdd, List.replicate]
    ((repeat with_reducible refine WP.seqs ?_); refine WP.rg ?_)
    ((repeat with_reducible refine WP.seqs ?_); refine WP.rg ?_)
    ((repeat with_reducible refine WP.seqs ?_); first | refine WP.seq (WP.condT rfl ?_) | refine WP.condT rfl ?_)
    ((repeat with_reducible refine WP.seqs ?_); refine WP.rg ?_)
    refine WP.ret ?_; repeat (first | with_reducible refine Sq.n ?_ | with_reducible refine Sq.ret ?_ | with_reducible refine Sq.exit ?_ | with_reducible refine Bk.n ?_ | with_reducible refine Bk.ret ?_ | with_reducible refine Bk.exit ?_ | with_reducible refine Bk.ex' (by decide) ?_ | with_reducible refine Lp.ret ?_ | with_reducible refine Lp.exit ?_ | with_reducible refine Lx.exit ?_)
    have hres : loadA P H3 26 (.p b2 0) = some (.g c') := ldw v3 aT zT hcl
    refine Fe.r1 (v := .g c') (by simp [resultsA, hres]) ⟨c', rfl, htc.kp (k1.trans k2), k1.trans k2⟩
  · have hlss : binA P .lss 3 false (.i .i64 (i : Nat)) (.i .i64 (t.l.length : Nat)) = some (.b false) := by rw [hlss]; simp; omega
    obtain ⟨b2, H2, H3, hal, hst, k2, v3, _, k3, v2, _⟩ := alloc_new (H := H1) (cs := [.i .i64 0, .s0, .b false, .s0, .s0]) zeroT rfl zT rfl rfl rfl
    have v1 := k3.at_ v1
    have hbt := buildT
    have he : t.at i = .zero := by unfold Tr.at; rw [List.getD_eq_getElem?_getD, List.getElem?_eq_none (by omega)]; rfl
    rw [he]
    generalize hii : ((i : Nat) : Int) = ii at hlss ⊢
    generalize ((t.l.length : Nat) : Int) = nn at hlss hlen
    dsimp only [Tryd.f58]
    dsimp only [List.length_cons, List.length_nil, List.cons_append, List.nil_append, Nat.reduceSub, Nat.reduceAdd, List.replicate]
    ((repeat with_reducible refine WP.seqs ?_); refine WP.rg ?_)
    ((repeat with_reducible refine WP.seqs ?_); refine WP.rg ?_)
    ((repeat with_reducible refine WP.seqs ?_); first | refine WP.seq (WP.condF rfl ?_) | refine WP.condF rfl ?_)
    refine WP.skip ?_; repeat (first | with_reducible refine Sq.n ?_ | with_reducible refine Sq.ret ?_ | with_reducible refine Sq.exit ?_ | with_reducible refine Bk.n ?_ | with_reducible refine Bk.ret ?_ | with_reducible refine Bk.exit ?_ | with_reducible refine Bk.ex' (by decide) ?_ | with_reducible refine Lp.ret ?_ | with_reducible refine Lp.exit ?_ | with_reducible refine Lx.exit ?_)
    ((repeat with_reducible refine WP.seqs ?_); refine WP.rg ?_)
    refine WP.ret ?_; repeat (first | with_reducible refine Sq.n ?_ | with_reducible refine Sq.ret ?_ | with_reducible refine Sq.exit ?_ | with_reducible refine Bk.n ?_ | with_reducible refine Bk.ret ?_ | with_reducible refine Bk.exit ?_ | with_reducible refine Bk.ex' (by decide) ?_ | with_reducible refine Lp.ret ?_ | with_reducible refine Lp.exit ?_ | with_reducible refine Lx.exit ?_)
    have hres : loadA P H3 26 (.p b2 0) = some (.g [.i .i64 0, .s0, .b false, .s0, .s0]) := ldw v3 aT zT rfl
    refine Fe.r1 (v := .g [.i .i64 0, .s0, .b false, .s0, .s0]) (by simp only [resultsA, List.getElem?_cons_succ, List.getElem?_cons_zero, Option.bind_some, hres]) ⟨_, rfl, TrAt.zero _, k1.trans k2⟩
end Go.Proofs.YtjncijimikfdnaaDoor.Rd

/-
  WHAT FIELDS SAY: of a version, of null, of tags.
-/
namespace Go.Proofs.YtjncijimikfdnaaDoor.Rd
set_option linter.constructorNameAsVariable false
set_option linter.unusedVariables false
set_option linter.unusedSimpArgs false
open Go Go.Proofs.YtjncijimikfdnaaDoor.Ax Go.Proofs.YtjncijimikfdnaaDoor.Wire
set_option linter.unusedVariables false
set_option linter.unusedSimpArgs false
set_option maxRecDepth 100000
set_option maxHeartbeats 1000000
/-- A field's cells. -/
abbrev fcs (kind : Nat) (frm to null tag dflt : Int) (of : Nat) (sub : AV) : List AV := [.i .i64 (kind : Nat), .i .i64 frm, .i .i64 to, .i .i64 null, .i .i64 tag, .i .i64 dflt, .i .i64 (of : Nat), sub]
theorem fcs_one {kind : Nat} {frm to null tag dflt : Int} {of : Nat} {sub : AV} (h : sub.one = true) : (fcs kind frm to null tag dflt of sub).all AV.one = true := by
  simp only [fcs, List.all_cons, List.all_nil, h]; rfl
/-- Has a version the field? -/
theorem has_x {kind : Nat} {frm to null tag dflt : Int} {of : Nat} {sub : AV} (h1 : sub.one = true) (ver : Nat) (H : Heap) : ∃ v H', CA P NS 56 [.g (fcs kind frm to null tag dflt of sub), .i .i64 (ver : Nat)] H (v, H') ∧ v = .b (hasS frm to ver) ∧ Kp H H' := by
  obtain ⟨b1, H1, hbx, k1, v1, _⟩ := box_new (H := H) (e := 48) (fcs_one (kind := kind) (frm := frm) (to := to) (null := null) (tag := tag) (dflt := dflt) (of := of) h1)
  refine CA.wp (fn := Tryd.f56) (R := fun v H' => v = .b (hasS frm to ver) ∧ Kp H H') (by kernel_rfl) rfl ?_
  have e1 := leqI 3 false frm (ver : Nat)
  have e2 := lssI 3 true to 0
  have e3 := leqI 3 false (ver : Nat) to
  unfold hasS
  cases c1 : decide (frm ≤ ((ver : Nat) : Int)) with
  | false =>
    rw [c1] at e1
    generalize ((ver : Nat) : Int) = vv at e1 ⊢
    generalize ((kind : Nat) : Int) = kk at hbx v1 ⊢
    generalize ((of : Nat) : Int) = oo at hbx v1 ⊢
    dsimp only [Tryd.f56]
    dsimp only [List.length_cons, List.length_nil, List.cons_append, List.nil_append, Nat.reduceSub, Nat.reduceAdd, List.replicate]
    ((repeat with_reducible refine WP.seqs ?_); refine WP.rg ?_)
    ((repeat with_reducible refine WP.seqs ?_); refine WP.rg ?_)
    refine WP.ret ?_; repeat (first | with_reducible refine Sq.n ?_ | with_reducible refine Sq.ret ?_ | with_reducible refine Sq.exit ?_ | with_reducible refine Bk.n ?_ | with_reducible refine Bk.ret ?_ | with_reducible refine Bk.exit ?_ | with_reducible refine Bk.ex' (by decide) ?_ | with_reducible refine Lp.ret ?_ | with_reducible refine Lp.exit ?_ | with_reducible refine Lx.exit ?_)
    exact Fe.r1 rfl ⟨by simp, k1⟩
  | true =>
    rw [c1] at e1
    cases c2 : decide (to < 0) with
    | true =>
      rw [c2] at e2
      generalize ((ver : Nat) : Int) = vv at e1 ⊢
      generalize ((kind : Nat) : Int) = kk at hbx v1 ⊢
      generalize ((of : Nat) : Int) = oo at hbx v1 ⊢
      dsimp only [Tryd.f56]
      dsimp only [List.length_cons, List.length_nil, List.cons_append, List.nil_append, Nat.reduceSub, Nat.reduceAdd, List.replicate]
      ((repeat with_reducible refine WP.seqs ?_); refine WP.rg ?_)
      ((repeat with_reducible refine WP.seqs ?_); refine WP.rg ?_)
      refine WP.ret ?_; repeat (first | with_reducible refine Sq.n ?_ | with_reducible refine Sq.ret ?_ | with_reducible refine Sq.exit ?_ | with_reducible refine Bk.n ?_ | with_reducible refine Bk.ret ?_ | with_reducible refine Bk.exit ?_ | with_reducible refine Bk.ex' (by decide) ?_ | with_reducible refine Lp.ret ?_ | with_reducible refine Lp.exit ?_ | with_reducible refine Lx.exit ?_)
      exact Fe.r1 rfl ⟨by simp, k1⟩
    | false =>
      rw [c2] at e2
      cases c3 : decide (((ver : Nat) : Int) ≤ to) with
      | true =>
        rw [c3] at e3
        generalize ((ver : Nat) : Int) = vv at e1 e3 ⊢
        generalize ((kind : Nat) : Int) = kk at hbx v1 ⊢
        generalize ((of : Nat) : Int) = oo at hbx v1 ⊢
        dsimp only [Tryd.f56]
        dsimp only [List.length_cons, List.length_nil, List.cons_append, List.nil_append, Nat.reduceSub, Nat.reduceAdd, List.replicate]
        ((repeat with_reducible refine WP.seqs ?_); refine WP.rg ?_)
        ((repeat with_reducible refine WP.seqs ?_); refine WP.rg ?_)
        refine WP.ret ?_; repeat (first | with_reducible refine Sq.n ?_ | with_reducible refine Sq.ret ?_ | with_reducible refine Sq.exit ?_ | with_reducible refine Bk.n ?_ | with_reducible refine Bk.ret ?_ | with_reducible refine Bk.exit ?_ | with_reducible refine Bk.ex' (by decide) ?_ | with_reducible refine Lp.ret ?_ | with_reducible refine Lp.exit ?_ | with_reducible refine Lx.exit ?_)
        exact Fe.r1 rfl ⟨by simp, k1⟩
      | false =>
        rw [c3] at e3
        generalize ((ver : Nat) : Int) = vv at e1 e3 ⊢
        generalize ((kind : Nat) : Int) = kk at hbx v1 ⊢
        generalize ((of : Nat) : Int) = oo at hbx v1 ⊢
        dsimp only [Tryd.f56]
        dsimp only [List.length_cons, List.length_nil, List.cons_append, List.nil_append, Nat.reduceSub, Nat.reduceAdd, List.replicate]
        ((repeat with_reducible refine WP.seqs ?_); refine WP.rg ?_)
        ((repeat with_reducible refine WP.seqs ?_); refine WP.rg ?_)
        refine WP.ret ?_; repeat (first | with_reducible refine Sq.n ?_ | with_reducible refine Sq.ret ?_ | with_reducible refine Sq.exit ?_ | with_reducible refine Bk.n ?_ | with_reducible refine Bk.ret ?_ | with_reducible refine Bk.exit ?_ | with_reducible refine Bk.ex' (by decide) ?_ | with_reducible refine Lp.ret ?_ | with_reducible refine Lp.exit ?_ | with_reducible refine Lx.exit ?_)
        exact Fe.r1 rfl ⟨by simp, k1⟩
/-- Is the field null at a version? -/
theorem null_x {kind : Nat} {frm to null tag dflt : Int} {of : Nat} {sub : AV} (h1 : sub.one = true) (ver : Nat) {H : Heap} {n : Int} {nl : Bool} {s l u : AV} (hone : [.i .i64 n, s, .b nl, l, u].all AV.one = true) :
    ∃ v H', CA P NS 82 [.g (fcs kind frm to null tag dflt of sub), .i .i64 (ver : Nat), .g [.i .i64 n, s, .b nl, l, u]] H (v, H') ∧ v = .b (nl && nulS null ver) ∧ Kp H H' := by
  obtain ⟨b1, H1, hbx, k1, v1, _⟩ := box_new (H := H) (e := 48) (fcs_one (kind := kind) (frm := frm) (to := to) (null := null) (tag := tag) (dflt := dflt) (of := of) h1)
  obtain ⟨b2, H2, hbx2, k2, v2, _⟩ := box_new (H := H1) (e := 26) hone
  have v1 := k2.at_ v1
  refine CA.wp (fn := Tryd.f82) (R := fun v H' => v = .b (nl && nulS null ver) ∧ Kp H H') (by kernel_rfl) rfl ?_
  have e1 := geqI 3 true null 0
  have e2 := geqI 3 false (ver : Nat) null
  unfold nulS
  cases nl with
  | false =>
    generalize ((ver : Nat) : Int) = vv at e2 ⊢
    generalize ((kind : Nat) : Int) = kk at hbx v1 ⊢
    generalize ((of : Nat) : Int) = oo at hbx v1 ⊢
    dsimp only [Tryd.f82]
    dsimp only [List.length_cons, List.length_nil, List.cons_append, List.nil_append, Nat.reduceSub, Nat.reduceAdd, List.replicate]
    ((repeat with_reducible refine WP.seqs ?_); refine WP.rg ?_)
    ((repeat with_reducible refine WP.seqs ?_); refine WP.rg ?_)
    refine WP.ret ?_; repeat (first | with_reducible refine Sq.n ?_ | with_reducible refine Sq.ret ?_ | with_reducible refine Sq.exit ?_ | with_reducible refine Bk.n ?_ | with_reducible refine Bk.ret ?_ | with_reducible refine Bk.exit ?_ | with_reducible refine Bk.ex' (by decide) ?_ | with_reducible refine Lp.ret ?_ | with_reducible refine Lp.exit ?_ | with_reducible refine Lx.exit ?_)
    exact Fe.r1 rfl ⟨by simp, k1.trans k2⟩
  | true =>
    cases c1 : decide (null ≥ 0) with
    | false =>
      rw [c1] at e1
      have c1' : decide (0 ≤ null) = false := c1
      generalize ((ver : Nat) : Int) = vv at e2 ⊢
      generalize ((kind : Nat) : Int) = kk at hbx v1 ⊢
      generalize ((of : Nat) : Int) = oo at hbx v1 ⊢
      dsimp only [Tryd.f82]
      dsimp only [List.length_cons, List.length_nil, List.cons_append, List.nil_append, Nat.reduceSub, Nat.reduceAdd, List.replicate]
      ((repeat with_reducible refine WP.seqs ?_); refine WP.rg ?_)
      ((repeat with_reducible refine WP.seqs ?_); refine WP.rg ?_)
      refine WP.ret ?_; repeat (first | with_reducible refine Sq.n ?_ | with_reducible refine Sq.ret ?_ | with_reducible refine Sq.exit ?_ | with_reducible refine Bk.n ?_ | with_reducible refine Bk.ret ?_ | with_reducible refine Bk.exit ?_ | with_reducible refine Bk.ex' (by decide) ?_ | with_reducible refine Lp.ret ?_ | with_reducible refine Lp.exit ?_ | with_reducible refine Lx.exit ?_)
      exact Fe.r1 rfl ⟨by simp [c1'], k1.trans k2⟩
    | true =>
      rw [c1] at e1
      have c1' : decide (0 ≤ null) = true := c1
      cases c2 : decide (((ver : Nat) : Int) ≥ null) with
      | false =>
        rw [c2] at e2
        have c2' : decide (null ≤ ((ver : Nat) : Int)) = false := c2
        generalize ((ver : Nat) : Int) = vv at e2 c2' ⊢
        generalize ((kind : Nat) : Int) = kk at hbx v1 ⊢
        generalize ((of : Nat) : Int) = oo at hbx v1 ⊢
        dsimp only [Tryd.f82]
        dsimp only [List.length_cons, List.length_nil, List.cons_append, List.nil_append, Nat.reduceSub, Nat.reduceAdd, List.replicate]
        ((repeat with_reducible refine WP.seqs ?_); refine WP.rg ?_)
        ((repeat with_reducible refine WP.seqs ?_); refine WP.rg ?_)
        refine WP.ret ?_; repeat (first | with_reducible refine Sq.n ?_ | with_reducible refine Sq.ret ?_ | with_reducible refine Sq.exit ?_ | with_reducible refine Bk.n ?_ | with_reducible refine Bk.ret ?_ | with_reducible refine Bk.exit ?_ | with_reducible refine Bk.ex' (by decide) ?_ | with_reducible refine Lp.ret ?_ | with_reducible refine Lp.exit ?_ | with_reducible refine Lx.exit ?_)
        exact Fe.r1 rfl ⟨by simp [c1', c2'], k1.trans k2⟩
      | true =>
        rw [c2] at e2
        have c2' : decide (null ≤ ((ver : Nat) : Int)) = true := c2
        generalize ((ver : Nat) : Int) = vv at e2 c2' ⊢
        generalize ((kind : Nat) : Int) = kk at hbx v1 ⊢
        generalize ((of : Nat) : Int) = oo at hbx v1 ⊢
        dsimp only [Tryd.f82]
        dsimp only [List.length_cons, List.length_nil, List.cons_append, List.nil_append, Nat.reduceSub, Nat.reduceAdd, List.replicate]
        ((repeat with_reducible refine WP.seqs ?_); refine WP.rg ?_)
        ((repeat with_reducible refine WP.seqs ?_); refine WP.rg ?_)
        refine WP.ret ?_; repeat (first | with_reducible refine Sq.n ?_ | with_reducible refine Sq.ret ?_ | with_reducible refine Sq.exit ?_ | with_reducible refine Bk.n ?_ | with_reducible refine Bk.ret ?_ | with_reducible refine Bk.exit ?_ | with_reducible refine Bk.ex' (by decide) ?_ | with_reducible refine Lp.ret ?_ | with_reducible refine Lp.exit ?_ | with_reducible refine Lx.exit ?_)
        exact Fe.r1 rfl ⟨by simp [c1', c2'], k1.trans k2⟩
/-- The fields of a row from a place on. -/
theorem FdC.step {H : Heap} {kind : Nat} {frm to null tag dflt : Int} {of : Nat} {sub rest : Fdl} {cs : List AV} (h : FdC H (.fld kind frm to null tag dflt of sub rest) cs) : ∃ av, cs.take 8 = fcs kind frm to null tag dflt of av ∧ av.one = true ∧ FdAt H av sub ∧ FdC H rest (cs.drop 8) := by
  obtain ⟨av, cs', rfl, h2, h3⟩ := h
  refine ⟨av, rfl, ?_, h2, h3⟩
  rcases h2 with ⟨_, rfl | rfl⟩ | ⟨i, ty, kn, c2, rfl, _⟩ <;> rfl
theorem zeroF : zeroA P 48 = some (.g (fcs 0 0 0 0 0 0 0 .s0)) := by kernel_rfl
/-- The fields from a place on. -/
def FdFrom (H : Heap) (av : AV) (n j : Nat) (r : Fdl) : Prop := n = j + r.len ∧ (r = .nil ∨ ∃ i ty kn cs, av = .sl i 0 n ∧ H[i]? = some (.cells ty kn cs) ∧ FdC H r (cs.drop (8 * j)) ∧ cs.length = 8 * n)
theorem FdAt.from0 {H : Heap} {av : AV} {fd : Fdl} (h : FdAt H av fd) : FdFrom H av fd.len 0 fd := by
  rcases h with ⟨rfl, h⟩ | ⟨i, ty, kn, c2, rfl, h5, h6, h7⟩
  · exact ⟨by simp, .inl rfl⟩
  · exact ⟨by simp, .inr ⟨i, ty, kn, c2, rfl, h5, by simpa using h6, by rw [h6.len]; omega⟩⟩
theorem FdFrom.kp {H H' : Heap} {av : AV} {n j : Nat} {r : Fdl} (h : FdFrom H av n j r) (k : Kp H H') : FdFrom H' av n j r := by
  obtain ⟨h1, h | ⟨i, ty, kn, cs, h2, h3, h4, h5⟩⟩ := h
  · exact ⟨h1, .inl h⟩
  · exact ⟨h1, .inr ⟨i, ty, kn, cs, h2, k.at_ h3, FdC.kp k h4, h5⟩⟩
theorem FdAt.len {H : Heap} {av : AV} {fd : Fdl} (h : FdAt H av fd) : lenA P 30 av = some (.i .i64 (fd.len : Nat)) := by
  have hu : P.underlying 30 = some (.slice 48) := by kernel_rfl
  unfold lenA
  rcases h with ⟨rfl, rfl | rfl⟩ | ⟨i, ty, kn, c2, rfl, h5, h6, h7⟩ <;> simp [hu, Fdl.len]
theorem FdFrom.step {H : Heap} {av : AV} {n j : Nat} {kind : Nat} {frm to null tag dflt : Int} {of : Nat} {sub rest : Fdl} (h : FdFrom H av n j (.fld kind frm to null tag dflt of sub rest)) :
    j < n ∧ ∃ p sv, indexAddrA P 30 av (.i .i64 (j : Nat)) = some p ∧ (∀ H', Kp H H' → loadA P H' 48 p = some (.g (fcs kind frm to null tag dflt of sv))) ∧ sv.one = true ∧ FdAt H sv sub ∧ FdFrom H av n (j + 1) rest := by
  obtain ⟨h1, h | ⟨i, ty, kn, cs, rfl, h3, h4, h5⟩⟩ := h
  · cases h
  have hj : j < n := by simp [Fdl.len] at h1; omega
  obtain ⟨sv, q1, q2, q3, q4⟩ := FdC.step h4
  refine ⟨hj, .p i (0 + j * 8), sv, ?_, fun H' k => ?_, q2, q3, by simp [Fdl.len] at h1; omega, .inr ⟨i, ty, kn, cs, rfl, h3, ?_, h5⟩⟩
  · simp only [indexAddrA, elF, zF]
    rw [if_pos ⟨by omega, by omega⟩]; simp
  · simp only [loadA, loadAt, k.at_ h3, aF, zF]
    have e : 0 + j * 8 = 8 * j := by omega
    rw [if_pos (by omega), e, q1]
  · rw [List.drop_drop] at q4
    rw [show 8 * (j + 1) = 8 * j + 8 by omega]
    exact q4
theorem FdFrom.done {H : Heap} {av : AV} {n j : Nat} (h : FdFrom H av n j .nil) : n = j := by have := h.1; simpa [Fdl.len] using this
/-- No field bears a tag. -/
theorem known_x {H : Heap} {av : AV} {fd : Fdl} (hf : FdAt H av fd) (hp : fd.plain = true) (hn : fd.len ≤ 1000) : ∃ v H', CA P NS 59 [av] H (v, H') ∧ v = .i .u32 0 ∧ Kp H H' := by
  refine CA.wp (fn := Tryd.f59) (R := fun v H' => v = .i .u32 0 ∧ Kp H H') (by kernel_rfl) rfl ?_
  have hlen := hf.len
  dsimp only [Tryd.f59]
  dsimp only [List.length_cons, List.length_nil, List.cons_append, List.nil_append, Nat.reduceSub, Nat.reduceAdd, List.replicate]
  ((repeat with_reducible refine WP.seqs ?_); refine WP.rg ?_)
  ((repeat with_reducible refine WP.seqs ?_); refine WP.rg ?_)
  generalize hnn : ((fd.len : Nat) : Int) = nn at hlen
  ((repeat with_reducible refine WP.seqs ?_); refine WP.rg ?_)
  ((repeat with_reducible refine WP.seqs ?_); first | refine WP.seq (WP.block ?_) | refine WP.block ?_)
  refine WP.loop (Inv := fun j fr H1 => ∃ (x1 x2 x4 x5 x9 x10 x11 x12 x13 x14 x15 x16 x17 x18 x19 x20 x21 x22 : AV), ∃ (r : Fdl), fr = [av, x1, x2, .i .u32 0, x4, x5, av, .i .i64 nn, .i .i64 (j : Nat), x9, x10, x11, x12, x13, x14, x15, x16, x17, x18, x19, x20, x21, x22] ∧ FdFrom H1 av fd.len j r ∧ r.plain = true ∧ Kp H H1) fd.len ?_ fd.len 0 _ _ (by omega) ?_
  rotate_left
  · exact ⟨_, _, _, _, _, _, _, _, _, _, _, _, _, _, _, _, _, _, fd, rfl, hf.from0, hp, Kp.refl H⟩
  intro j fr H1 hj ⟨x1, x2, x4, x5, x9, x10, x11, x12, x13, x14, x15, x16, x17, x18, x19, x20, x21, x22, r, hfr, hfrom, hpl, hk⟩
  subst hfr
  have hlt := lssI 3 false (j : Nat) (fd.len : Nat)
  rw [hnn] at hlt
  cases r with
  | nil =>
    have := hfrom.done
    have hlt : binA P .lss 3 false (.i .i64 (j : Nat)) (.i .i64 nn) = some (.b false) := by rw [hlt]; simp; omega
    generalize ((j : Nat) : Int) = jj at hlt
    ((repeat with_reducible refine WP.seqs ?_); refine WP.rg ?_)
    ((repeat with_reducible refine WP.seqs ?_); first | refine WP.seq (WP.condF rfl ?_) | refine WP.condF rfl ?_)
    refine WP.exit ?_; repeat (first | with_reducible refine Sq.n ?_ | with_reducible refine Sq.ret ?_ | with_reducible refine Sq.exit ?_ | with_reducible refine Bk.n ?_ | with_reducible refine Bk.ret ?_ | with_reducible refine Bk.exit ?_ | with_reducible refine Bk.ex' (by decide) ?_ | with_reducible refine Lp.ret ?_ | with_reducible refine Lp.exit ?_ | with_reducible refine Lx.exit ?_)
    ((repeat with_reducible refine WP.seqs ?_); refine WP.rg ?_)
    refine WP.ret ?_; repeat (first | with_reducible refine Sq.n ?_ | with_reducible refine Sq.ret ?_ | with_reducible refine Sq.exit ?_ | with_reducible refine Bk.n ?_ | with_reducible refine Bk.ret ?_ | with_reducible refine Bk.exit ?_ | with_reducible refine Bk.ex' (by decide) ?_ | with_reducible refine Lp.ret ?_ | with_reducible refine Lp.exit ?_ | with_reducible refine Lx.exit ?_)
    exact Fe.r1 rfl ⟨rfl, hk⟩
  | fld kind frm to null tag dflt of sub rest =>
    obtain ⟨hjn, p, sv, hix, hld, hone, hsub, hnext⟩ := hfrom.step
    have hlt : binA P .lss 3 false (.i .i64 (j : Nat)) (.i .i64 nn) = some (.b true) := by rw [hlt]; simp; omega
    obtain ⟨b2, H2, H3, hal, hst, k2, v3, _, k3, v2, _⟩ := alloc_new (H := H1) (cs := fcs kind frm to null tag dflt of sv) zeroF rfl zF rfl rfl (fcs_one hone)
    have hld1 := hld H1 (Kp.refl _)
    simp only [Fdl.plain, Bool.and_eq_true, decide_eq_true_eq] at hpl
    have hge : binA P .geq 3 true (.i .i64 tag) (.i .i64 0) = some (.b false) := by rw [geqI]; simp; omega
    have hadd := addJ 3 true (j : Nat) 1 (by omega)
    have e1 : ((j : Nat) : Int) + 1 = ((j + 1 : Nat) : Int) := by omega
    rw [e1] at hadd
    generalize hj1 : ((j + 1 : Nat) : Int) = j1 at hadd
    generalize ((j : Nat) : Int) = jj at hlt hix hadd
    generalize ((kind : Nat) : Int) = kk at hld1 hst v3
    generalize ((of : Nat) : Int) = oo at hld1 hst v3
    ((repeat with_reducible refine WP.seqs ?_); refine WP.rg ?_)
    ((repeat with_reducible refine WP.seqs ?_); first | refine WP.seq (WP.condT rfl ?_) | refine WP.condT rfl ?_)
    refine WP.skip ?_; repeat (first | with_reducible refine Sq.n ?_ | with_reducible refine Sq.ret ?_ | with_reducible refine Sq.exit ?_ | with_reducible refine Bk.n ?_ | with_reducible refine Bk.ret ?_ | with_reducible refine Bk.exit ?_ | with_reducible refine Bk.ex' (by decide) ?_ | with_reducible refine Lp.ret ?_ | with_reducible refine Lp.exit ?_ | with_reducible refine Lx.exit ?_)
    ((repeat with_reducible refine WP.seqs ?_); first | refine WP.seq (WP.block ?_) | refine WP.block ?_)
    ((repeat with_reducible refine WP.seqs ?_); refine WP.rg ?_)
    ((repeat with_reducible refine WP.seqs ?_); refine WP.rg ?_)
    ((repeat with_reducible refine WP.seqs ?_); first | refine WP.seq (WP.condF rfl ?_) | refine WP.condF rfl ?_)
    refine WP.skip ?_; repeat (first | with_reducible refine Sq.n ?_ | with_reducible refine Sq.ret ?_ | with_reducible refine Sq.exit ?_ | with_reducible refine Bk.n ?_ | with_reducible refine Bk.ret ?_ | with_reducible refine Bk.exit ?_ | with_reducible refine Bk.ex' (by decide) ?_ | with_reducible refine Lp.ret ?_ | with_reducible refine Lp.exit ?_ | with_reducible refine Lx.exit ?_)
    refine WP.re ?_; repeat (first | with_reducible refine Sq.n ?_ | with_reducible refine Sq.ret ?_ | with_reducible refine Sq.exit ?_ | with_reducible refine Bk.n ?_ | with_reducible refine Bk.ret ?_ | with_reducible refine Bk.exit ?_ | with_reducible refine Bk.ex' (by decide) ?_ | with_reducible refine Lp.ret ?_ | with_reducible refine Lp.exit ?_ | with_reducible refine Lx.exit ?_)
    refine Lp.n ⟨by omega, _, _, _, _, _, _, _, _, _, _, _, _, _, _, _, _, _, _, rest, by first | rfl | rw [hj1], hnext.kp k2, hpl.2, hk.trans k2⟩
end Go.Proofs.YtjncijimikfdnaaDoor.Rd

