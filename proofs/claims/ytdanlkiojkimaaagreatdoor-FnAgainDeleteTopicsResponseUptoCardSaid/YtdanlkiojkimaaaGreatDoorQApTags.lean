/-
  UNKNOWN TAGS, as they are counted and written.
-/
import Derived.Test.YtdanlkiojkimaaaGreatDoorQApUv
import Derived.Test.YtdanlkiojkimaaaGreatDoorQRdStr
import Derived.Test.YtdanlkiojkimaaaGreatDoorQRdLeafB
import Derived.Test.YtdanlkiojkimaaaGreatDoorQRdNull
import Derived.Test.YtdanlkiojkimaaaGreatDoorQRdTags
import Derived.Test.YtdanlkiojkimaaaGreatDoorQApLeaf
set_option linter.constructorNameAsVariable false
set_option linter.unusedVariables false
set_option linter.unusedSimpArgs false
namespace Go.Proofs.YtdanlkiojkimaaaGreatDoor.Rd
open Go Go.Proofs.YtdanlkiojkimaaaGreatDoor.Ax Go.Proofs.YtdanlkiojkimaaaGreatDoor.Wire
set_option maxRecDepth 100000
set_option maxHeartbeats 1000000
theorem fT0 (i o : Nat) : fieldAddrA P 67 (.p i o) 0 = some (.p i o) := by kernel_rfl
theorem aggMw : aggA P 65 = some false := by kernel_rfl
theorem keyMw : keyA P 65 = some .u32 := by kernel_rfl
theorem ld_cell {H : Heap} {b o : Nat} {ty : TypeId} {kn : Kn} {cs : List AV} {x : AV} {t : TypeId} (ha : aggA P t = some false) (hb : H[b]? = some (.cells ty kn cs)) (hx : cs[o]? = some x) : loadA P H t (.p b o) = some x := by
  simp [loadA, loadAt, hb, ha, hx]
theorem st_one {H : Heap} {b : Nat} {ty t : TypeId} {kn : Kn} {x v : AV} (hs : sizeA P t = some 1) (hk : kn.own = true) (hb : H[b]? = some (.cells ty kn [x])) (hc : v.cells = [v]) (h1 : v.one = true) : storeA P H t (.p b 0) v = some (H.set b (.cells ty kn [v])) := by
  simp [storeA, hb, hs, hk, hc, h1, over]
theorem lenM_at {H : Heap} {i : Nat} {kd : IntKind} {es : List (Int × AV)} (h : H[i]? = some (.map kd es)) : lenM P H 65 (.mp i) = some (.i .i64 (es.length : Nat)) := by
  unfold lenM
  rw [keyMw]
  simp only [h]
theorem tlen_0 {H : Heap} {b o : Nat} (hl : loadA P H 65 (.p b o) = some .m0) : CA P NS 86 [.p b o] H (.i .i64 0, H) := by
  have hf := fT0 b o
  have hn : lenA P 65 .m0 = some (.i .i64 0) := by kernel_rfl
  refine CA.goS emp_ns (fn := Tryz.f86) (vs := [_]) (by kernel_rfl) rfl (.inr rfl) ?_
  apply Exists.intro
  apply And.intro
  · dsimp only [Tryz.f86]
    dsimp only [List.length_cons, List.length_nil, List.cons_append, List.nil_append, Nat.reduceSub, Nat.reduceAdd, List.replicate]
    refine RU.seq RU.rg ?_
    refine RU.seq RU.rg ?_
    exact RU.ret
  · rfl
theorem tlen_1 {H : Heap} {b o i : Nat} {n : Int} (hl : loadA P H 65 (.p b o) = some (.mp i)) (hn : lenM P H 65 (.mp i) = some (.i .i64 n)) : CA P NS 86 [.p b o] H (.i .i64 n, H) := by
  have hf := fT0 b o
  refine CA.goS emp_ns (fn := Tryz.f86) (vs := [_]) (by kernel_rfl) rfl (.inr rfl) ?_
  apply Exists.intro
  apply And.intro
  · dsimp only [Tryz.f86]
    dsimp only [List.length_cons, List.length_nil, List.cons_append, List.nil_append, Nat.reduceSub, Nat.reduceAdd, List.replicate]
    refine RU.seq RU.rg ?_
    refine RU.seq RU.rg ?_
    exact RU.ret
  · rfl
theorem apn_len : ApN 86 := ⟨fun H b o ty kn cs x n hb hx hn => by
  cases x with
  | m0 => simp [tagN] at hn; subst hn; exact tlen_0 (ld_cell aggMw hb hx)
  | mp i =>
    simp only [tagN] at hn
    split at hn
    · rename_i kd es hi
      simp at hn; subst hn
      exact tlen_1 (ld_cell aggMw hb hx) (lenM_at hi)
    · cases hn
  | _ => simp [tagN] at hn⟩
theorem BytesAt.noS' {A : Nat → Prop} {H : Heap} {av : AV} {bs : B} (h : BytesAt A H av bs) : av.isS = false := by cases h <;> rfl
theorem cv_int_u32 (m : Nat) (h : m < 4294967296) : convA P 3 73 (.i .i64 (m : Nat)) = some (.i .u32 (m : Nat)) := by
  have e : convA P 3 73 (.i .i64 (m : Nat)) = some (.i .u32 (IntKind.u32.wrap (m : Nat))) := by kernel_rfl
  rw [e]; simp [IntKind.wrap, IntKind.signed, IntKind.bits]; omega
structure BKeep (H : Heap) (box : Nat) (out : AV) (H' : Heap) (out' : AV) : Prop where
  at_ : ∀ (j : Nat) (b : Blk), H[j]? = some b → j ≠ box → (∀ i o n, out = .sl i o n → j ≠ i) → H'[j]? = some b
  new : ∀ i o n, out' = .sl i o n → H.length ≤ i
  len : H.length ≤ H'.length
theorem BKeep.trans {H H' H'' : Heap} {box : Nat} {out out' out'' : AV} (h : BKeep H box out H' out') (k : BKeep H' box out' H'' out'') : BKeep H box out H'' out'' :=
  ⟨fun j b hj hb ho => k.at_ j b (h.at_ j b hj hb ho) hb (fun i o n e => by have := h.new i o n e; have := (List.getElem?_eq_some_iff.1 hj).1; omega), fun i o n e => Nat.le_trans h.len (k.new i o n e), Nat.le_trans h.len k.len⟩
theorem OutAt.one {L0 : Nat} {H : Heap} {out : AV} {bs : B} (h : OutAt L0 H out bs) : out.cells = [out] ∧ out.one = true := by
  rcases h with ⟨rfl, _⟩ | ⟨i, _, rfl, _⟩ <;> exact ⟨rfl, rfl⟩
theorem back {L0 : Nat} {H H1 : Heap} {box : Nat} {ty : TypeId} {out out1 : AV} {bs : B} (hL : L0 ≤ box) (hbx : H[box]? = some (.cells ty .vr [out])) (hob : ∀ i o n, out = .sl i o n → box ≠ i) (ho : OutAt L0 H1 out1 bs) (hk : OKeep H out H1 out1) (hw : WKeep L0 H H1) :
    ∃ H1', storeA P H1 22 (.p box 0) out1 = some H1' ∧ H1'[box]? = some (.cells ty .vr [out1]) ∧ OutAt L0 H1' out1 bs ∧ BKeep H box out H1' out1 ∧ WKeep L0 H H1' ∧ (∀ i o n, out1 = .sl i o n → box ≠ i) := by
  have hlt := (List.getElem?_eq_some_iff.1 hbx).1
  have hb1 := hk.at_ box _ hbx hob
  have hne : ∀ i o n, out1 = .sl i o n → box ≠ i := fun i o n e => by have := hk.new i o n e; omega
  refine ⟨_, st_one sizeB rfl hb1 ho.one.1 ho.one.2, by rw [List.getElem?_set_self (List.getElem?_eq_some_iff.1 hb1).1], ?_, ⟨fun j b hj hjb hjo => by rw [List.getElem?_set, if_neg (fun e => hjb e.symm)]; exact hk.at_ j b hj hjo, hk.new, by simpa using hk.len⟩, ⟨fun i hi => by rw [List.getElem?_set, if_neg (by omega)]; exact hw.at_ i hi, by simpa using hw.len⟩, hne⟩
  rcases ho with ⟨rfl, rfl⟩ | ⟨i, h1, rfl, h2, h3⟩
  · exact .inl ⟨rfl, rfl⟩
  · exact .inr ⟨i, h1, rfl, by rw [List.getElem?_set, if_neg (hne i _ _ rfl)]; exact h2, h3⟩
section
variable {S : CallA} (E : Emp S)
include E
theorem clo_run {H H1 H1' H2 H2' H3 H4 : Heap} {k : Int} {val out out1 out2 out3 : AV} {box : Nat} {n : Int} {l : Int} (l1 : loadA P H 22 (.p box 0) = some out) (c1 : CA P S 85 [out, .i .u32 k] H (out1, H1)) (s1 : storeA P H1 22 (.p box 0) out1 = some H1')
    (l2 : loadA P H1' 22 (.p box 0) = some out1) (hl : lenA P 22 val = some (.i .i64 l)) (hc : convA P 3 73 (.i .i64 l) = some (.i .u32 n)) (c2 : CA P S 85 [out1, .i .u32 n] H1' (out2, H2)) (s2 : storeA P H2 22 (.p box 0) out2 = some H2')
    (l3 : loadA P H2' 22 (.p box 0) = some out2) (hns : val.isS = false) (ha : appendA P H2' 22 false out2 val = some (out3, H3)) (s3 : storeA P H3 22 (.p box 0) out3 = some H4) :
    CA P S 134 [.i .u32 k, val, .p box 0] H (.t [], H4) := by
  refine CA.goS E (fn := Tryz.f134) (vs := []) (by kernel_rfl) rfl (.inl rfl) ?_
  apply Exists.intro
  apply And.intro
  · dsimp only [Tryz.f134]
    dsimp only [List.length_cons, List.length_nil, List.cons_append, List.nil_append, Nat.reduceSub, Nat.reduceAdd, List.replicate]
    refine RU.seq RU.rg ?_
    refine RU.seq RU.rg ?_
    exact RU.rg
  · rfl
theorem clo {L0 : Nat} {H : Heap} {k : Nat} {val out : AV} {bs vb : B} {box : Nat} {ty : TypeId} (hL : L0 ≤ box) (hbx : H[box]? = some (.cells ty .vr [out])) (hob : ∀ i o n, out = .sl i o n → box ≠ i) (ho : OutAt L0 H out bs) (hk : k < 4294967296) (hv : BytesAt (fun i => i < L0) H val vb) (hvl : vb.length < 4294967296)
    (hb : bs.length + (uv k ++ (uv vb.length ++ vb)).length ≤ 1099511627776) :
    ∃ out' H', CA P S 134 [.i .u32 (k : Nat), val, .p box 0] H (.t [], H') ∧ H'[box]? = some (.cells ty .vr [out']) ∧ OutAt L0 H' out' (bs ++ (uv k ++ (uv vb.length ++ vb))) ∧ BKeep H box out H' out' ∧ WKeep L0 H H' ∧ (∀ i o n, out' = .sl i o n → box ≠ i) := by
  have hlt := (List.getElem?_eq_some_iff.1 hbx).1
  have p1 := uv_pos k
  have p2 := uv_pos vb.length
  have q1 := uv_le hk
  have q2 := uv_le hvl
  simp only [List.length_append] at hb
  have hvk : ∀ {H' : Heap}, WKeep L0 H H' → BytesAt (fun i => i < L0) H' val vb := fun w => BytesAt.kt hv ⟨w.len, fun i b hi hx => ⟨hi, (w.at_ i hi).trans hx⟩⟩
  obtain ⟨out1, H1, c1, o1, w1, k1⟩ := ap_uv E (by omega) ho hk (by omega)
  obtain ⟨H1', s1, b1, o1', bk1, w1', n1⟩ := back hL hbx hob o1 k1 w1
  obtain ⟨out2, H2, c2, o2, w2, k2⟩ := ap_uv E (by have := w1'.len; omega) o1' hvl (by simp; omega)
  obtain ⟨H2', s2, b2, o2', bk2, w2', n2⟩ := back hL b1 n1 o2 k2 w2
  have hl2 : L0 ≤ H2'.length := Nat.le_trans (Nat.le_trans hL (Nat.le_of_lt hlt)) (w1'.trans w2').len
  obtain ⟨out3, H3, ha, o3, w3⟩ := ap_bytes (str := false) (x := val) (new := vb) hl2 o2' (hvk (w1'.trans w2')).first (by simp; omega)
  have hne : out2 ≠ .s0 := by
    intro e
    rcases o2 with ⟨_, h⟩ | ⟨i, _, h, _⟩
    · have h2 := congrArg List.length h; simp only [List.length_append, List.length_nil] at h2; omega
    · rw [e] at h; cases h
  have k3 := app_keep ha o2'.shape (hvk (w1'.trans w2')).first (.inr hne)
  obtain ⟨H4, s3, b3, o3', bk3, w3', n3⟩ := back hL b2 n2 o3 k3 w3
  refine ⟨out3, H4, clo_run E (ld_cell aggB hbx rfl) c1 s1 (ld_cell aggB b1 rfl) (hv.len bty) (cv_int_u32 _ hvl) c2 s2 (ld_cell aggB b2 rfl) (BytesAt.noS' hv) ha s3, b3, ?_, (bk1.trans bk2).trans bk3, (w1'.trans w2').trans w3', n3⟩
  simpa [List.append_assoc] using o3'
end
def okT' : List (Nat × B) → Prop
  | [] => True
  | (k, v) :: r => k < 4294967296 ∧ v.length < 4294967296 ∧ okT' r
theorem eachRun_det {box : Nat} {K : List Nat} : ∀ {es : List (Int × AV)} {H H1 H2 : Heap}, EachRun box K H es H1 → EachRun box K H es H2 → H1 = H2
  | [], _, _, _, h, k => by cases h; cases k; rfl
  | (k0, v) :: es, H, H1, H2, h, k => by
    cases h with
    | cons h1 _ t1 =>
      cases k with
      | cons h2 _ t2 =>
        have := CA.det h1 h2
        simp only [Prod.mk.injEq, true_and] at this
        subst this
        exact eachRun_det t1 t2
theorem fold {L0 : Nat} {ty : TypeId} {box : Nat} {K : List Nat} (hL : L0 ≤ box) : ∀ (es : List (Int × AV)) (ts : List (Nat × B)) (H : Heap) (out : AV) (bs : B), es.map (·.1) = ts.map (fun t => ((t.1 : Nat) : Int)) → okT' ts →
    (∀ (j : Nat) (k : Int) (v : AV) (kk : Nat) (vb : B), es[j]? = some (k, v) → ts[j]? = some (kk, vb) → BytesAt (fun i => i < L0) H v vb) → H[box]? = some (.cells ty .vr [out]) → (∀ i o n, out = .sl i o n → box ≠ i) → OutAt L0 H out bs →
    (∀ j ∈ K, j ≠ box ∧ j < H.length ∧ ∀ i o n, out = .sl i o n → j ≠ i) → bs.length + (encT ts).length ≤ 1099511627776 →
    ∃ out' H', EachRun box K H es H' ∧ H'[box]? = some (.cells ty .vr [out']) ∧ OutAt L0 H' out' (bs ++ encT ts) ∧ WKeep L0 H H'
  | [], [], H, out, bs, _, _, _, hbx, _, ho, _, _ => ⟨out, H, .nil H, hbx, by simpa [encT] using ho, .refl _ _⟩
  | [], _ :: _, _, _, _, h, _, _, _, _, _, _, _ => by simp at h
  | _ :: _, [], _, _, _, h, _, _, _, _, _, _, _ => by simp at h
  | (k, v) :: es, (kk, vb) :: ts, H, out, bs, h, hok, hv, hbx, hob, ho, hK, hb => by
    simp only [List.map_cons, List.cons.injEq] at h
    obtain ⟨rfl, h⟩ := h
    obtain ⟨o1, o2, o3⟩ : kk < 4294967296 ∧ vb.length < 4294967296 ∧ okT' ts := hok
    have he : encT ((kk, vb) :: ts) = (uv kk ++ (uv vb.length ++ vb)) ++ encT ts := rfl
    rw [he] at hb ⊢
    rw [List.length_append] at hb
    obtain ⟨out1, H1, c1, b1, q1, bk, w1, n1⟩ := clo emp_noS hL hbx hob ho o1 (hv 0 _ _ _ _ rfl rfl) o2 (by omega)
    obtain ⟨out2, H2, r2, b2, q2, w2⟩ := fold hL es ts H1 out1 (bs ++ (uv kk ++ (uv vb.length ++ vb))) h o3 (fun j k v kk vb hj ht => BytesAt.kt (hv (j + 1) k v kk vb (by simpa using hj) (by simpa using ht)) ⟨w1.len, fun i b hi hx => ⟨hi, (w1.at_ i hi).trans hx⟩⟩) b1 n1 q1
      (fun j hj => ⟨(hK j hj).1, Nat.lt_of_lt_of_le (hK j hj).2.1 bk.len, fun i o n e => by have := bk.new i o n e; have := (hK j hj).2.1; omega⟩) (by rw [List.length_append]; omega)
    refine ⟨out2, H2, .cons c1 (fun j hj => ?_) r2, b2, by rw [← List.append_assoc]; exact q2, w1.trans w2⟩
    obtain ⟨h1, h2, h3⟩ := hK j hj
    have hx : H[j]? = some (H[j]'h2) := by simp
    rw [bk.at_ j _ hx h1 h3, hx]
theorem each_det {args : List AV} {H : Heap} {r r' : AV × Heap} (h : EachRel args H r) (k : EachRel args H r') : r = r' := by
  obtain ⟨b, o, dst, x, ty, kn, cs, rfl, hb, hx, hd, hc⟩ := h
  obtain ⟨b', o', dst', x', ty', kn', cs', ha, hb', hx', hd', hc'⟩ := k
  simp only [List.cons.injEq, AV.p.injEq, and_true] at ha
  obtain ⟨⟨rfl, rfl⟩, rfl⟩ := ha
  rw [hb] at hb'; cases hb'
  rw [hx] at hx'; cases hx'
  rcases hc with ⟨hn, rfl⟩ | ⟨i, es, es1, rfl, hi, hp, hso, h0, hbig, hrun, hv⟩ <;> rcases hc' with ⟨hn', rfl⟩ | ⟨i', es', es1', hxe, hi', hp', hso', h0', hbig', hrun', hv'⟩
  · rfl
  · subst hxe
    rcases hn with hn | ⟨j, hn, hj⟩
    · cases hn
    · cases hn; rw [hj] at hi'; cases hi'; simp at h0'
  · rcases hn' with hn | ⟨j, hn, hj⟩
    · cases hn
    · cases hn; rw [hj] at hi; cases hi; simp at h0
  · cases hxe
    rw [hi] at hi'; cases hi'
    have he : es1 = es1' := List.Perm.eq_of_pairwise (le := fun a b : Int × AV => a.1 < b.1) (fun a b _ _ h1 h2 => by omega) (List.pairwise_map.1 hso) (List.pairwise_map.1 hso') (hp.trans hp'.symm)
    subst he
    have : r.2 = r'.2 := eachRun_det hrun hrun'
    have h2 : r.1 = r'.1 := by rw [this] at hv; rw [hv] at hv'; exact Option.some.inj hv'
    exact Prod.ext h2 this
theorem each_ca {args : List AV} {H : Heap} {r : AV × Heap} (h : EachRel args H r) : CA P NS 87 args H r := by
  refine CA.sum ?_
  have hex : ∃ r, EachRel args H r := ⟨r, h⟩
  refine orS_left ?_
  show eachS 87 args H = some r
  unfold eachS
  rw [dif_pos hex]
  exact congrArg some (each_det hex.choose_spec h)
theorem okT_okT' : ∀ {m : Nat} {ts : List (Nat × B)}, okT m ts → okT' ts ∧ (ts.map (fun t => ((t.1 : Nat) : Int))).Pairwise (· < ·) ∧ ∀ t ∈ ts, m ≤ t.1
  | _, [], _ => ⟨trivial, .nil, fun t h => by cases h⟩
  | m, (k, v) :: r, h => by
    obtain ⟨h1, h2, h3, h4⟩ := h
    obtain ⟨a, b, c⟩ := okT_okT' h4
    refine ⟨⟨h2, h3, a⟩, List.pairwise_cons.2 ⟨fun x hx => ?_, b⟩, fun t ht => ?_⟩
    · obtain ⟨t, ht, rfl⟩ := List.mem_map.1 hx
      have := c t ht
      show ((k : Nat) : Int) < ((t.1 : Nat) : Int)
      omega
    · rcases List.mem_cons.1 ht with rfl | ht
      · exact h1
      · have := c t ht; omega
theorem enc_ge : ∀ (ts : List (Nat × B)), ts.length ≤ (encT ts).length
  | [] => by simp [encT]
  | (k, v) :: r => by
    have he : encT ((k, v) :: r) = (uv k ++ (uv v.length ++ v)) ++ encT r := rfl
    have := enc_ge r
    have := uv_pos k
    rw [he]; simp; omega
theorem ape_each : ApE 87 := ⟨fun L0 H out bs b o ty kn cs x ts hL ho hb hx hbl hr hlen => by
  obtain ⟨ts', e, hok, h⟩ := hr
  cases e
  have h1 := ho.one
  rcases h with ⟨rfl, hx0⟩ | ⟨i, es, hx0, hil, hi, es', hp, hk, hv⟩
  · simp at hx0; subst hx0
    exact ⟨out, H, each_ca ⟨b, o, out, _, ty, kn, cs, rfl, hb, hx, h1.2, .inl ⟨.inl rfl, rfl⟩⟩, by simpa [encT] using ho, .refl _ _⟩
  · simp at hx0; subst hx0
    by_cases h0 : es.length = 0
    · obtain rfl : es = [] := List.eq_nil_of_length_eq_zero h0
      have : ts = [] := by
        have a := hp.length_eq
        have c := congrArg List.length hk
        simp at a c
        exact List.eq_nil_of_length_eq_zero (by rw [← c, a]; rfl)
      subst this
      exact ⟨out, H, each_ca ⟨b, o, out, _, ty, kn, cs, rfl, hb, hx, h1.2, .inl ⟨.inr ⟨i, rfl, hi⟩, rfl⟩⟩, by simpa [encT] using ho, .refl _ _⟩
    · obtain ⟨q1, q2, _⟩ := okT_okT' hok
      have hln : es'.length = ts.length := by have := congrArg List.length hk; simpa using this
      have hel := hp.length_eq
      have hts := enc_ge ts
      have hwe : WKeep L0 H (eachHeap H out es') := WKeep.app L0 H _ hL
      have hbx : (eachHeap H out es')[H.length]? = some (.cells tB .vr [out]) := by unfold eachHeap; rw [List.getElem?_append_right (Nat.le_refl _)]; simp
      have hbn : ∀ i o n, out = .sl i o n → i < H.length := fun i o n e => by
        rcases ho with ⟨rfl, _⟩ | ⟨j, _, rfl, hj, _⟩
        · cases e
        · cases e; exact (List.getElem?_eq_some_iff.1 hj).1
      have hbo : ∀ i o n, out = .sl i o n → L0 ≤ i := fun i o n e => by
        rcases ho with ⟨rfl, _⟩ | ⟨j, hj, rfl, _, _⟩
        · cases e
        · cases e; exact hj
      have hle : (eachHeap H out es').length = H.length + 3 := by simp [eachHeap]
      obtain ⟨out', H', r1, b1, o1, w1⟩ := fold (K := [b, i, H.length + 1, H.length + 2]) hL es' ts (eachHeap H out es') out bs hk q1 (fun j k v kk vb hj ht => BytesAt.kt (hv j k v kk vb hj ht) ⟨hwe.len, fun i b hi hx => ⟨hi, (hwe.at_ i hi).trans hx⟩⟩) hbx (fun i o n e => by have := hbn i o n e; omega) (ho.app _)
        (fun j hj => by
          have hil : i < L0 := hil
          simp at hj
          refine ⟨by omega, by omega, fun q o n e => ?_⟩
          have := hbn q o n e
          have := hbo q o n e
          omega) hlen
      refine ⟨out', H', each_ca ⟨b, o, out, _, ty, kn, cs, rfl, hb, hx, h1.2, .inr ⟨i, es, es', rfl, hi, hp, by rw [hk]; exact q2, by omega, by omega, r1, ld_cell aggB b1 rfl⟩⟩, o1, hwe.trans w1⟩⟩
end Go.Proofs.YtdanlkiojkimaaaGreatDoor.Rd

namespace Go.Proofs.YtdanlkiojkimaaaGreatDoor.Rd
open Go Go.Proofs.YtdanlkiojkimaaaGreatDoor.Ax Go.Proofs.YtdanlkiojkimaaaGreatDoor.Wire
theorem lookup_mem {α β : Type} [BEq α] [LawfulBEq α] : ∀ {l : List (α × β)} {a : α} {b : β}, l.lookup a = some b → (a, b) ∈ l
  | (a', b') :: l, a, b, h => by
    simp only [List.lookup] at h
    split at h
    · rename_i e
      have e := eq_of_beq e
      simp at h; subst h; subst e; exact List.mem_cons_self
    · exact List.mem_cons_of_mem _ (lookup_mem h)
end Go.Proofs.YtdanlkiojkimaaaGreatDoor.Rd

