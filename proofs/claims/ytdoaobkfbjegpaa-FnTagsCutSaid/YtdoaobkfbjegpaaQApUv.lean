/-
  NUMBERS IN GROUPS OF SEVEN BITS, as kbin writes them.
-/
import Derived.Test.YtdoaobkfbjegpaaQApKit
import Derived.Test.YtdoaobkfbjegpaaQRdStr
import Derived.Test.YtdoaobkfbjegpaaQTrKit
import Derived.Test.YtdoaobkfbjegpaaQWireS
import Derived.Test.YtdoaobkfbjegpaaQRdStep
set_option linter.constructorNameAsVariable false
set_option linter.unusedVariables false
set_option linter.unusedSimpArgs false
namespace Go.Proofs.Ytdoaobkfbjegpaa.Rd
open Go Go.Proofs.Ytdoaobkfbjegpaa.Ax Go.Proofs.Ytdoaobkfbjegpaa.Wire
set_option maxRecDepth 100000
set_option maxHeartbeats 1000000
end Go.Proofs.Ytdoaobkfbjegpaa.Rd

namespace Go.Proofs.Ytdoaobkfbjegpaa.Rd
open Go Go.Proofs.Ytdoaobkfbjegpaa.Ax Go.Proofs.Ytdoaobkfbjegpaa.Wire
set_option maxRecDepth 100000
set_option maxHeartbeats 1000000
theorem remk (n m : Nat) (hm : 0 < m) : binA P .rem 3 false (.i .i64 (n : Int)) (.i .i64 (m : Int)) = some (.i .i64 ((n % m : Nat) : Int)) := by
  show ofSem (Op.intDiv .rem .i64 (n : Int) (m : Int)) = _
  have e : Op.intDiv .rem .i64 (n : Int) (m : Int) = pure (.int .i64 ((n : Int).tmod (m : Int))) := by
    unfold Op.intDiv
    rw [if_neg (by omega)]
  rw [e]
  have : (n : Int).tmod (m : Int) = ((n % m : Nat) : Int) := by rw [Int.tmod_eq_emod_of_nonneg (by omega)]; rfl
  rw [this]
  rfl
end Go.Proofs.Ytdoaobkfbjegpaa.Rd

namespace Go.Proofs.Ytdoaobkfbjegpaa.Rd
open Go Go.Proofs.Ytdoaobkfbjegpaa.Ax Go.Proofs.Ytdoaobkfbjegpaa.Wire
set_option maxRecDepth 100000
set_option maxHeartbeats 1000000
theorem uv_le10 {n : Nat} (h : n < 18446744073709551616) : (uv n).length ≤ 10 := by
  rw [uv]; split
  · simp
  · have := uv_le5 (n := n / 128 / 128 / 128 / 128 / 128) (by omega)
    rw [List.length_cons, uv]; split
    · simp
    · rw [List.length_cons, uv]; split
      · simp
      · rw [List.length_cons, uv]; split
        · simp
        · rw [List.length_cons, uv]; split
          · simp
          · rw [List.length_cons]; omega
theorem uv_big {n : Nat} (h : ¬ n < 128) : uv n = UInt8.ofNat (n % 128 + 128) :: uv (n / 128) := by
  conv => lhs; rw [uv]
  rw [dif_neg h]
theorem uv_small {n : Nat} (h : n < 128) : uv n = [UInt8.ofNat n] := by rw [uv, dif_pos h]
theorem uv_pos (n : Nat) : 0 < (uv n).length := by
  rw [uv]; split <;> simp
theorem gtr64 (t : TypeId) (c : Bool) (a b : Int) : binA P .gtr t c (.i .u64 a) (.i .u64 b) = some (.b (decide (a > b))) := by
  simp [binA, binOp, Op.intCmp, ofSem, ofV1]
  rfl
theorem and64 (t : TypeId) (c : Bool) (m : Nat) (h : m < 18446744073709551616) : binA P .and t c (.i .u64 (m : Nat)) (.i .u64 127) = some (.i .u64 ((m % 128 : Nat) : Int)) := by
  show ofSem (Op.intBits .and .u64 (m : Int) 127) = _
  have e : (BitVec.ofInt 64 (m : Int) &&& BitVec.ofInt 64 127).toNat = m % 128 := by
    have h1 : BitVec.ofInt 64 (m : Int) = BitVec.ofNat 64 m := BitVec.ofInt_natCast 64 m
    have h2 : BitVec.ofInt 64 127 = BitVec.ofNat 64 127 := rfl
    rw [h1, h2, BitVec.toNat_and, BitVec.toNat_ofNat, BitVec.toNat_ofNat, Nat.mod_eq_of_lt (by omega), Nat.mod_eq_of_lt (by omega)]
    have := Nat.and_two_pow_sub_one_eq_mod m 7
    simpa using this
  rw [show Op.intBits .and .u64 (m : Int) 127 = pure (.int .u64 (IntKind.u64.wrap ((BitVec.ofInt 64 (m : Int) &&& BitVec.ofInt 64 127).toNat : Int))) from rfl, e]
  have : IntKind.u64.wrap ((m % 128 : Nat) : Int) = ((m % 128 : Nat) : Int) := by simp [IntKind.wrap, IntKind.signed, IntKind.bits]; omega
  rw [this]; rfl
theorem or8_128 (t : TypeId) (c : Bool) (m : Nat) (h : m < 128) : binA P .or t c (.i .u8 (m : Nat)) (.i .u8 128) = some (.i .u8 ((m + 128 : Nat) : Int)) := by
  have ha : ((List.range 128).all fun x => match binA P .or t c (.i .u8 (x : Nat)) (.i .u8 128) with | some (.i .u8 n) => n == ((x + 128 : Nat) : Int) | _ => false) = true := by
    cases c <;> kernel_rfl
  have := List.all_eq_true.1 ha m (List.mem_range.2 h)
  split at this
  · rename_i n hn
    rw [hn]
    have : n = ((m + 128 : Nat) : Int) := by simpa using this
    rw [this]
  · cases this
theorem cv64_8 (n : Int) : convA P 30 5 (.i .u64 n) = some (U8 (UInt8.ofNat (n % 256).toNat)) := by
  have e : convA P 30 5 (.i .u64 n) = some (.i .u8 (IntKind.u8.wrap n)) := by kernel_rfl
  rw [e, U8_wrap]
theorem u8_small {m : Nat} (h : m < 256) : U8 (UInt8.ofNat m) = .i .u8 (m : Nat) := by
  unfold U8
  have : (UInt8.ofNat m).toNat = m := by simp [UInt8.toNat_ofNat']; omega
  rw [this]
theorem shr64_7 (n : Nat) : binA P .shr 30 true (.i .u64 (n : Nat)) (.i .u64 7) = some (.i .u64 ((n / 128 : Nat) : Int)) := by
  have := shr 30 .u64 true (n : Nat) 7 (by simp [IntKind.bits]); simpa using this
theorem push_x {L0 : Nat} {H : Heap} {out : AV} {bs : B} (b : UInt8) (hL : L0 ≤ H.length) (ho : OutAt L0 H out bs) (hb : bs.length + 1 ≤ 1099511627776) :
    ∃ sl H1 out' H', buildSliceA P H 28 1 [(0, U8 b)] = some (sl, H1) ∧ appendA P H1 28 false out sl = some (out', H') ∧ sl.isS = false ∧ OutAt L0 H' out' (bs ++ [b]) ∧ WKeep L0 H H' := by
  have hbl := build_1 H b
  have hfi := first_new H 5 [b] (by simp)
  obtain ⟨out', H', ha, h1, h2⟩ := ap_bytes (str := false) (x := .sl H.length 0 1) (new := [b]) (by simp; omega) (ho.app [.cells 5 .row (u8s [b])]) hfi (by simpa using hb)
  exact ⟨_, _, out', H', hbl, ha, rfl, h1, (WKeep.app L0 H _ hL).trans h2⟩
theorem OutAt.cells {L0 : Nat} {H : Heap} {out : AV} {bs : B} (h : OutAt L0 H out bs) : out.isS = false := by
  rcases h with ⟨rfl, _⟩ | ⟨i, _, rfl, _⟩ <;> rfl
theorem OutAt.wk {L0 : Nat} {H H' : Heap} {out : AV} {bs : B} (h : OutAt L0 H out bs) (k : Kp H H') : OutAt L0 H' out bs := by
  rcases h with h | ⟨i, h1, h2, h3, h4⟩
  · exact .inl h
  · exact .inr ⟨i, h1, h2, k.at_ h3, h4⟩
theorem OutAt.mono {L0 L1 : Nat} {H : Heap} {out : AV} {bs : B} (h : OutAt L0 H out bs) (hl : L1 ≤ L0) : OutAt L1 H out bs := by
  rcases h with h | ⟨i, h1, h2⟩
  · exact .inl h
  · exact .inr ⟨i, by omega, h2⟩
theorem Kp.wt {H H1 H2 : Heap} (h : Kp H H1) (k : WKeep H.length H1 H2) : Kp H H2 := ⟨Nat.le_trans h.1 k.len, fun i hi => by rw [k.at_ i (by omega), h.2 i hi]⟩
theorem uvs_x {n : Nat} (hn : n < 18446744073709551616) (H : Heap) : ∃ out H', CA P NS 8 [.i .u64 (n : Nat)] H (out, H') ∧ OutAt H.length H' out (uv n) ∧ Kp H H' := by
  refine CA.wp (fn := Try.f8) (R := fun out H' => OutAt H.length H' out (uv n) ∧ Kp H H') (by kernel_rfl) rfl ?_
  dsimp only [Try.f8]
  dsimp only [List.length_cons, List.length_nil, List.cons_append, List.nil_append, Nat.reduceSub, Nat.reduceAdd, List.replicate]
  ((repeat with_reducible refine WP.seqs ?_); refine WP.rg ?_)
  ((repeat with_reducible refine WP.seqs ?_); refine WP.rg ?_)
  ((repeat with_reducible refine WP.seqs ?_); first | refine WP.seq (WP.block ?_) | refine WP.block ?_)
  refine WP.loop (Inv := fun j fr H1 => ∃ (x1 x2 x4 x5 x6 x7 x8 x9 x10 x11 x12 x13 x14 x15 x16 x17 x18 x19 : AV), ∃ (out : AV) (m : Nat) (acc : B), fr = [.i .u64 (m : Nat), x1, x2, out, x4, x5, x6, x7, x8, x9, x10, x11, x12, x13, x14, x15, x16, x17, x18, x19] ∧ m < 18446744073709551616 ∧ acc ++ uv m = uv n ∧ acc.length = j ∧ OutAt H.length H1 out acc ∧ Kp H H1) (uv n).length ?_ (uv n).length 0 _ _ (by omega) ?_
  rotate_left
  · exact ⟨_, _, _, _, _, _, _, _, _, _, _, _, _, _, _, _, _, _, _, n, [], rfl, hn, rfl, rfl, .inl ⟨rfl, rfl⟩, Kp.refl H⟩
  intro j fr H1 hj ⟨x1, x2, x4, x5, x6, x7, x8, x9, x10, x11, x12, x13, x14, x15, x16, x17, x18, x19, out, m, acc, hfr, hm, hacc, hlen, ho, hk⟩
  subst hfr
  have h10 := uv_le10 hn
  have hal : acc.length + (uv m).length = (uv n).length := by rw [← hacc, List.length_append]
  by_cases hlt : m < 128
  · have hg : binA P .gtr 30 true (.i .u64 (m : Nat)) (.i .u64 127) = some (.b false) := by rw [gtr64]; simp; omega
    obtain ⟨sl, H2, out', H3, hb, ha, hs, ho', hk'⟩ := push_x (UInt8.ofNat m) hk.1 ho (by omega)
    have hcv : convA P 30 5 (.i .u64 (m : Nat)) = some (U8 (UInt8.ofNat m)) := by
      rw [cv64_8]; congr 3; omega
    generalize U8 (UInt8.ofNat m) = y at hb hcv
    rw [uv_small hlt] at hacc
    rw [hacc] at ho'
    generalize ((m : Nat) : Int) = mi at hg hcv
    ((repeat with_reducible refine WP.seqs ?_); refine WP.rg ?_)
    ((repeat with_reducible refine WP.seqs ?_); first | refine WP.seq (WP.condF rfl ?_) | refine WP.condF rfl ?_)
    refine WP.exit ?_; repeat (first | with_reducible refine Sq.n ?_ | with_reducible refine Sq.ret ?_ | with_reducible refine Sq.exit ?_ | with_reducible refine Bk.n ?_ | with_reducible refine Bk.ret ?_ | with_reducible refine Bk.exit ?_ | with_reducible refine Bk.ex' (by decide) ?_ | with_reducible refine Lp.ret ?_ | with_reducible refine Lp.exit ?_ | with_reducible refine Lx.exit ?_)
    ((repeat with_reducible refine WP.seqs ?_); refine WP.rg ?_)
    refine WP.ret ?_; repeat (first | with_reducible refine Sq.n ?_ | with_reducible refine Sq.ret ?_ | with_reducible refine Sq.exit ?_ | with_reducible refine Bk.n ?_ | with_reducible refine Bk.ret ?_ | with_reducible refine Bk.exit ?_ | with_reducible refine Bk.ex' (by decide) ?_ | with_reducible refine Lp.ret ?_ | with_reducible refine Lp.exit ?_ | with_reducible refine Lx.exit ?_)
    exact Fe.ret rfl ⟨ho', hk.wt hk'⟩
  · have hg : binA P .gtr 30 true (.i .u64 (m : Nat)) (.i .u64 127) = some (.b true) := by rw [gtr64]; simp; omega
    have ha1 := and64 30 true m hm
    have hcv : convA P 30 5 (.i .u64 ((m % 128 : Nat) : Int)) = some (.i .u8 ((m % 128 : Nat) : Int)) := by
      rw [cv64_8, ← u8_small (show m % 128 < 256 by omega)]; congr 3; omega
    have hor := or8_128 5 true (m % 128) (by omega)
    rw [← u8_small (show m % 128 + 128 < 256 by omega)] at hor
    have hsh := shr64_7 m
    obtain ⟨sl, H2, out', H3, hb, ha, hs, ho', hk'⟩ := push_x (UInt8.ofNat (m % 128 + 128)) hk.1 ho (by omega)
    generalize U8 (UInt8.ofNat (m % 128 + 128)) = y at hb hor
    rw [uv_big hlt] at hacc hal
    have hp := uv_pos (m / 128)
    have h128 : m / 128 < 18446744073709551616 := by omega
    simp only [List.length_cons] at hal
    have hacc' : (acc ++ [UInt8.ofNat (m % 128 + 128)]) ++ uv (m / 128) = uv n := by rw [← hacc]; simp
    generalize hm1 : m / 128 = m1 at hsh hacc' h128 hal hp
    generalize ((m : Nat) : Int) = mi at hg ha1 hsh
    generalize ((m % 128 : Nat) : Int) = m2 at ha1 hcv hor
    ((repeat with_reducible refine WP.seqs ?_); refine WP.rg ?_)
    ((repeat with_reducible refine WP.seqs ?_); first | refine WP.seq (WP.condT rfl ?_) | refine WP.condT rfl ?_)
    refine WP.skip ?_; repeat (first | with_reducible refine Sq.n ?_ | with_reducible refine Sq.ret ?_ | with_reducible refine Sq.exit ?_ | with_reducible refine Bk.n ?_ | with_reducible refine Bk.ret ?_ | with_reducible refine Bk.exit ?_ | with_reducible refine Bk.ex' (by decide) ?_ | with_reducible refine Lp.ret ?_ | with_reducible refine Lp.exit ?_ | with_reducible refine Lx.exit ?_)
    ((repeat with_reducible refine WP.seqs ?_); first | refine WP.seq (WP.block ?_) | refine WP.block ?_)
    ((repeat with_reducible refine WP.seqs ?_); refine WP.rg ?_)
    refine WP.re ?_; repeat (first | with_reducible refine Sq.n ?_ | with_reducible refine Sq.ret ?_ | with_reducible refine Sq.exit ?_ | with_reducible refine Bk.n ?_ | with_reducible refine Bk.ret ?_ | with_reducible refine Bk.exit ?_ | with_reducible refine Bk.ex' (by decide) ?_ | with_reducible refine Lp.ret ?_ | with_reducible refine Lp.exit ?_ | with_reducible refine Lx.exit ?_)
    refine Lp.n ⟨by omega, _, _, _, _, _, _, _, _, _, _, _, _, _, _, _, _, _, _, _, m1, _, rfl, h128, hacc', by simp [hlen], ho', hk.wt hk'⟩
end Go.Proofs.Ytdoaobkfbjegpaa.Rd

namespace Go.Proofs.Ytdoaobkfbjegpaa.Wire
def lastT (l : List (Nat × B)) : List (Nat × B) := l.foldl (fun a t => put t.1 t.2 a) []
theorem foldP_ok : ∀ (l a : List (Nat × B)), (∀ x ∈ l, x.1 < 2 ^ 32 ∧ x.2.length < 2 ^ 32) → okT 0 a → okT 0 (l.foldl (fun a t => put t.1 t.2 a) a)
  | [], a, _, h => h
  | t :: l, a, hl, h => foldP_ok l _ (fun x hx => hl x (List.mem_cons_of_mem _ hx)) (okT_put a 0 t.1 t.2 h (Nat.zero_le _) (hl t List.mem_cons_self).1 (hl t List.mem_cons_self).2)
theorem foldP_len : ∀ (l a : List (Nat × B)), (l.foldl (fun a t => put t.1 t.2 a) a).length ≤ a.length + l.length
  | [], a => by simp
  | t :: l, a => by
    have h1 := foldP_len l (put t.1 t.2 a)
    have h2 := put_len a t.1 t.2
    simp only [List.foldl_cons, List.length_cons]
    omega
def tgB (ts : List (Nat × B)) : B := uv ts.length ++ encT ts
theorem tg_enc (ts : List (Nat × B)) : enc true (.tags 0 .nil) (.c (.t ts) .u) = tgB ts := by simp [enc, tgB]
theorem tg_dec (bs : B) : dec true (.tags 0 .nil) bs = (Ev.tags.dec true bs).map fun (v, r) => (.c v .u, r) := by
  have := dec_node true .tags 0 .nil bs
  rw [show Ev.node .tags 0 .nil = F.tags 0 .nil from rfl] at this
  rw [this]
  cases Ev.tags.dec true bs with
  | none => rfl
  | some x => rfl
theorem tg_whole {ts : List (Nat × B)} (h : okT 0 ts) (hl : ts.length < 2 ^ 32) : Ev.tags.dec true (tgB ts) = some (.t ts, []) := by
  unfold tgB
  simp only [Ev.dec, rdV_uv hl, Option.bind_some]
  have := decT_encT ts [] [] (by simpa using h)
  simp only [List.append_nil, List.nil_append] at this
  rw [this]; rfl
theorem tg_cut {ts : List (Nat × B)} (h : okT 0 ts) (hl : ts.length < 2 ^ 32) {p q : B} (hpq : tgB ts = p ++ q) (hq : q ≠ []) : Ev.tags.dec true p = none := by
  have hk : ok true (.tags 0 .nil) (.c (.t ts) .u) := ⟨h, hl, trivial⟩
  have := dec_cut (flex := true) (f := .tags 0 .nil) rfl hk (p := p) (q := q) (by rw [tg_enc]; exact hpq) hq
  rw [tg_dec] at this
  cases hd : Ev.tags.dec true p with
  | none => rfl
  | some x => rw [hd] at this; cases this
def skT : Nat → B → Option B
  | 0, bs => some bs
  | n + 1, bs => (rdV bs).bind fun (_, r) => (rdV r).bind fun (l, r) => (cut l r).bind fun (_, r) => skT n r
def skipT (bs : B) : Option B := (rdV bs).bind fun (n, r) => skT n r
theorem skT_dec : ∀ (n : Nat) (ts : List (Nat × B)) (bs : B), skT n bs = (decT n ts bs).map (·.2)
  | 0, ts, bs => rfl
  | n + 1, ts, bs => by
    simp only [skT, decT]
    cases rdV bs with
    | none => rfl
    | some x =>
      simp only [Option.bind_some]
      cases rdV x.2 with
      | none => rfl
      | some y =>
        simp only [Option.bind_some]
        cases cut y.1 y.2 with
        | none => rfl
        | some z =>
          simp only [Option.bind_some]
          exact skT_dec n _ _
theorem skip_none {bs : B} (h : Ev.tags.dec true bs = none) : skipT bs = none := by
  unfold skipT
  simp only [Ev.dec] at h
  cases hv : rdV bs with
  | none => rfl
  | some x =>
    rw [hv] at h
    simp only [Option.bind_some] at h ⊢
    rw [skT_dec x.1 []]
    cases hd : decT x.1 [] x.2 with
    | none => rfl
    | some y => rw [hd] at h; cases h
end Go.Proofs.Ytdoaobkfbjegpaa.Wire

namespace Go.Proofs.Ytdoaobkfbjegpaa.Rd
open Go Go.Proofs.Ytdoaobkfbjegpaa.Ax Go.Proofs.Ytdoaobkfbjegpaa.Wire
set_option maxRecDepth 100000
set_option maxHeartbeats 1000000
theorem eqlI (t : TypeId) (c : Bool) (a b : Int) : binA P .eql t c (.i .i64 a) (.i .i64 b) = some (.b (decide (a = b))) := by
  have e : binA P .eql t c (.i .i64 a) (.i .i64 b) = some (.b (a == b)) := by
    simp [binA, binOp, Op.intCmp, ofSem, ofV1]
    rfl
  rw [e]; congr 2
theorem lssI (t : TypeId) (c : Bool) (a b : Int) : binA P .lss t c (.i .i64 a) (.i .i64 b) = some (.b (decide (a < b))) := by
  simp [binA, binOp, Op.intCmp, ofSem, ofV1]
  rfl
theorem gtrJ (t : TypeId) (c : Bool) (a b : Int) : binA P .gtr t c (.i .i64 a) (.i .i64 b) = some (.b (decide (a > b))) := by
  simp [binA, binOp, Op.intCmp, ofSem, ofV1]
  rfl
theorem lssU (t : TypeId) (c : Bool) (a b : Int) : binA P .lss t c (.i .u32 a) (.i .u32 b) = some (.b (decide (a < b))) := by
  simp [binA, binOp, Op.intCmp, ofSem, ofV1]
  rfl
theorem eqlU (t : TypeId) (c : Bool) (a b : Int) : binA P .eql t c (.i .u32 a) (.i .u32 b) = some (.b (decide (a = b))) := by
  have e : binA P .eql t c (.i .u32 a) (.i .u32 b) = some (.b (a == b)) := by
    simp [binA, binOp, Op.intCmp, ofSem, ofV1]
    rfl
  rw [e]; congr 2
theorem addJ (t : TypeId) (c : Bool) (a b : Int) (h : -9223372036854775808 ≤ a + b ∧ a + b ≤ 9223372036854775807) : binA P .add t c (.i .i64 a) (.i .i64 b) = some (.i .i64 (a + b)) := by
  have e : binA P .add t c (.i .i64 a) (.i .i64 b) = some (.i .i64 (IntKind.i64.wrap (a + b))) := by
    simp [binA, binOp, Op.intArith, ofSem, ofV1]
    rfl
  rw [e]; congr 2; simp [IntKind.wrap, IntKind.signed, IntKind.bits]; omega
theorem SlAt.len {H : Heap} {sz n : Nat} {av : AV} (h : SlAt H sz av n) {t : TypeId} (ht : (elemA P t).isSome = true) : lenA P t av = some (.i .i64 (n : Nat)) := by
  have hu : ∃ e, P.underlying t = some (.slice e) := by
    unfold elemA at ht
    split at ht
    · rename_i e he; exact ⟨e, he⟩
    · simp at ht
  obtain ⟨e, hu⟩ := hu
  unfold lenA
  rcases h with ⟨rfl | rfl, rfl⟩ | ⟨i, o, ty, kn, cs, rfl, h0, h1, h2⟩ <;> simp [hu]
theorem SlAt.hi {H : Heap} {sz n : Nat} {av : AV} (h : SlAt H sz av n) {t e : TypeId} (ht : elemA P t = some e) (hz : sizeA P e = some sz) {m : Nat} (hm : m ≤ n) (h0 : 0 < m ∨ n = 0) :
    ∃ av', sliceA P t av none (some (.i .i64 (m : Nat))) = some av' ∧ SlAt H sz av' m ∧ ∀ j, elAt H sz av' j = elAt H sz av j := by
  unfold sliceA
  simp only [ht, hz]
  rcases h with ⟨rfl | rfl, rfl⟩ | ⟨i, o, ty, kn, cs, rfl, h1, h2, h3⟩
  · obtain rfl : m = 0 := by omega
    exact ⟨.s0, by simp, .inl ⟨.inl rfl, rfl⟩, fun j => rfl⟩
  · obtain rfl : m = 0 := by omega
    exact ⟨.se, by simp, .inl ⟨.inr rfl, rfl⟩, fun j => rfl⟩
  · refine ⟨.sl i o m, by simp; omega, .inr ⟨i, o, ty, kn, cs, rfl, by omega, h2, ?_⟩, fun j => rfl⟩
    have : m * sz ≤ n * sz := Nat.mul_le_mul_right _ hm
    omega
theorem elG : elemA P 25 = some 42 := by kernel_rfl
theorem SlAt.idx {H : Heap} {sz n : Nat} {av : AV} (h : SlAt H sz av n) {t e : TypeId} (ht : elemA P t = some e) (hz : sizeA P e = some sz) (ha : aggA P e = some true) {j : Nat} (hj : j < n) :
    ∃ p c, indexAddrA P t av (.i .i64 (j : Nat)) = some p ∧ loadA P H e p = some (.g c) ∧ elAt H sz av j = some c ∧ c.length = sz := by
  obtain ⟨c, hc, hcl⟩ := h.get hj
  rcases h with ⟨_, h⟩ | ⟨i, o, ty, kn, cs, rfl, h1, h2, h3⟩
  · omega
  · have hle : (j + 1) * sz ≤ n * sz := Nat.mul_le_mul_right _ hj
    have e1 : (j + 1) * sz = j * sz + sz := by rw [Nat.add_mul, Nat.one_mul]
    refine ⟨.p i (o + j * sz), c, ?_, ?_, hc, hcl⟩
    · simp only [indexAddrA, ht, hz]
      rw [if_pos ⟨by omega, by omega⟩]; simp
    · simp only [elAt, h2, Option.some.injEq] at hc
      simp only [loadA, loadAt, h2, ha, hz]
      rw [if_pos (by omega), hc]
theorem SlAt.one {H : Heap} {sz n : Nat} {av : AV} (h : SlAt H sz av n) : av.one = true := by
  rcases h with ⟨rfl | rfl, _⟩ | ⟨i, o, ty, kn, cs, rfl, _⟩ <;> rfl
theorem SlAt.idxk {H : Heap} {sz n : Nat} {av : AV} (h : SlAt H sz av n) {t e : TypeId} (ht : elemA P t = some e) (hz : sizeA P e = some sz) (ha : aggA P e = some true) {j : Nat} (hj : j < n) :
    ∃ p c, indexAddrA P t av (.i .i64 (j : Nat)) = some p ∧ (∀ H', Kp H H' → loadA P H' e p = some (.g c)) ∧ elAt H sz av j = some c ∧ c.length = sz := by
  obtain ⟨p, c, h1, h2, h3, h4⟩ := h.idx ht hz ha hj
  refine ⟨p, c, h1, fun H' k => ?_, h3, h4⟩
  obtain ⟨p', c', q1, q2, q3, _⟩ := (h.kp k).idx ht hz ha hj
  rw [h1] at q1; cases q1
  rw [h.el k hj, h3] at q3; cases q3
  exact q2
theorem exM : ∀ (n : Nat) (fr : List AV), fr.length = n → ∃ g : Nat → AV, fr = (List.range n).map g := fun n fr h => ⟨fun i => fr.getD i .u, by
  apply List.ext_getElem
  · simp [h]
  · intro i h1 h2
    simp [List.getD_eq_getElem?_getD, h1]⟩
abbrev Tg := Nat × AV × B
def tgc (ts : List Tg) : List AV := ts.flatMap fun t => [.i .u32 (t.1 : Nat), t.2.1]
theorem tgc_cons (t : Tg) (ts : List Tg) : tgc (t :: ts) = .i .u32 (t.1 : Nat) :: t.2.1 :: tgc ts := rfl
theorem tgc_app (a b : List Tg) : tgc (a ++ b) = tgc a ++ tgc b := by simp [tgc]
theorem tgc_len : ∀ ts : List Tg, (tgc ts).length = ts.length * 2
  | [] => rfl
  | t :: r => by rw [tgc_cons, List.length_cons, List.length_cons, tgc_len r, List.length_cons]; omega
theorem tgc_el : ∀ (ts : List Tg) (j : Nat) (t : Tg), ts[j]? = some t → ((tgc ts).drop (j * 2)).take 2 = [.i .u32 (t.1 : Nat), t.2.1]
  | [], j, t, h => by simp at h
  | x :: r, 0, t, h => by simp at h; subst h; rfl
  | x :: r, j + 1, t, h => by
    rw [tgc_cons, show (j + 1) * 2 = j * 2 + 1 + 1 by omega, List.drop_succ_cons, List.drop_succ_cons]
    exact tgc_el r j t (by simpa using h)
theorem tgc_key {ts : List Tg} {j : Nat} {t : Tg} (h : ts[j]? = some t) : (tgc ts)[j * 2]? = some (.i .u32 (t.1 : Nat)) := by
  have := congrArg (·[0]?) (tgc_el ts j t h)
  simpa [List.getElem?_take, List.getElem?_drop] using this
theorem tgc_set : ∀ (ts : List Tg) (j : Nat) (t : Tg), j < ts.length → over (tgc ts) [.i .u32 (t.1 : Nat), t.2.1] (j * 2) = tgc (ts.set j t)
  | [], j, t, h => by simp at h
  | x :: r, 0, t, h => by simp [over, tgc_cons]
  | x :: r, j + 1, t, h => by
    have := tgc_set r j t (by simpa using h)
    unfold over at this ⊢
    rw [List.set_cons_succ, tgc_cons, tgc_cons, ← this, show (j + 1) * 2 = j * 2 + 1 + 1 by omega]
    simp only [List.take_succ_cons, List.cons_append, List.length_cons, List.length_nil]
    congr 3
def AllOne (ts : List Tg) : Prop := ∀ t ∈ ts, t.2.1.one = true
theorem tgc_one {ts : List Tg} (h : AllOne ts) : (tgc ts).all AV.one = true := by
  rw [List.all_eq_true]
  intro x hx
  obtain ⟨t, ht, hx⟩ := List.mem_flatMap.1 hx
  simp at hx
  rcases hx with rfl | rfl
  · rfl
  · exact h t ht
def OutG (L0 : Nat) (H : Heap) (out : AV) (ts : List Tg) : Prop := AllOne ts ∧ ((out = .s0 ∧ ts = []) ∨ ∃ i, L0 ≤ i ∧ out = .sl i 0 ts.length ∧ H[i]? = some (.cells 42 .row (tgc ts)) ∧ 0 < ts.length)
theorem elGs : (elemA P 25).isSome = true := by kernel_rfl
theorem OutG.len {L0 : Nat} {H : Heap} {out : AV} {ts : List Tg} (h : OutG L0 H out ts) : lenA P 25 out = some (.i .i64 (ts.length : Nat)) := by
  have hu : P.underlying 25 = some (.slice 42) := by kernel_rfl
  unfold lenA
  rcases h.2 with ⟨rfl, rfl⟩ | ⟨i, _, rfl, _⟩ <;> simp [hu]
theorem OutG.kp {L0 : Nat} {H H' : Heap} {out : AV} {ts : List Tg} (h : OutG L0 H out ts) (k : Kp H H') : OutG L0 H' out ts := by
  refine ⟨h.1, ?_⟩
  rcases h.2 with h | ⟨i, h1, h2, h3, h4⟩
  · exact .inl h
  · exact .inr ⟨i, h1, h2, k.at_ h3, h4⟩
theorem OutG.el {L0 : Nat} {H : Heap} {out : AV} {ts : List Tg} (h : OutG L0 H out ts) {j : Nat} {t : Tg} (hj : ts[j]? = some t) :
    ∃ p pk, indexAddrA P 25 out (.i .i64 (j : Nat)) = some p ∧ fieldAddrA P 42 p 0 = some pk ∧ loadA P H 37 pk = some (.i .u32 (t.1 : Nat)) ∧ loadA P H 42 p = some (.g [.i .u32 (t.1 : Nat), t.2.1]) := by
  have hjl := (List.getElem?_eq_some_iff.1 hj).1
  rcases h.2 with ⟨rfl, rfl⟩ | ⟨i, h1, rfl, h3, h4⟩
  · simp at hj
  · have hfa : ∀ o : Nat, fieldAddrA P 42 (.p i o) 0 = some (.p i (o + 0)) := fun o => by kernel_rfl
    refine ⟨.p i (0 + j * 2), _, ?_, hfa _, ?_, ?_⟩
    · simp only [indexAddrA, elG, zG]
      rw [if_pos ⟨by omega, by omega⟩]; simp
    · simp only [loadA, loadAt, h3, a_u32]
      rw [show 0 + j * 2 + 0 = j * 2 by omega]
      exact tgc_key hj
    · simp only [loadA, loadAt, h3, aG, zG]
      rw [if_pos (by rw [tgc_len]; omega), show 0 + j * 2 = j * 2 by omega, tgc_el ts j t hj]
theorem OutG.set {L0 : Nat} {H : Heap} {out : AV} {ts : List Tg} (h : OutG L0 H out ts) {j : Nat} (hj : j < ts.length) (t : Tg) (h1 : t.2.1.one = true) :
    ∃ p H', indexAddrA P 25 out (.i .i64 (j : Nat)) = some p ∧ storeA P H 42 p (.g [.i .u32 (t.1 : Nat), t.2.1]) = some H' ∧ OutG L0 H' out (ts.set j t) ∧ WKeep L0 H H' ∧ (∀ (b : Nat) (ty : TypeId) (cs : List AV), H[b]? = some (.cells ty .vr cs) → H'[b]? = some (.cells ty .vr cs)) := by
  have hone : AllOne (ts.set j t) := fun x hx => by
    rcases List.mem_or_eq_of_mem_set hx with hx | rfl
    · exact h.1 x hx
    · exact h1
  rcases h.2 with ⟨rfl, rfl⟩ | ⟨i, hi, rfl, h3, h4⟩
  · simp at hj
  · have hil := (List.getElem?_eq_some_iff.1 h3).1
    refine ⟨.p i (0 + j * 2), H.set i (.cells 42 .row (tgc (ts.set j t))), ?_, ?_, ⟨hone, .inr ⟨i, hi, by simp, by rw [List.getElem?_set_self hil], by simpa using h4⟩⟩, ⟨fun k hk => by rw [List.getElem?_set_ne (by omega)], by simp⟩, fun b ty cs hb => ?_⟩
    · simp only [indexAddrA, elG, zG]
      rw [if_pos ⟨by omega, by omega⟩]; simp
    · have hall : (AV.g [.i .u32 (t.1 : Nat), t.2.1]).cells.all AV.one = true := by
        have : (AV.i .u32 (t.1 : Nat)).one = true := rfl
        simp [AV.cells, this, h1]
      simp only [storeA, h3, zG]
      rw [if_pos ⟨rfl, rfl, by rw [tgc_len]; omega, hall⟩, show 0 + j * 2 = j * 2 by omega]
      have : over (tgc ts) (AV.g [.i .u32 (t.1 : Nat), t.2.1]).cells (j * 2) = tgc (ts.set j t) := tgc_set ts j t hj
      rw [this]
    · by_cases e : i = b
      · subst e; rw [h3] at hb; cases hb
      · rw [List.getElem?_set_ne e]; exact hb
theorem zeroG : zeroA P 42 = some (.g [.i .u32 0, .s0]) := by kernel_rfl
theorem bytesG : bytesA P 42 = some 32 := by kernel_rfl
theorem OutG.push {L0 : Nat} {H : Heap} {out : AV} {ts : List Tg} (hL : L0 ≤ H.length) (h : OutG L0 H out ts) (hn : ts.length ≤ 32767) :
    ∃ sl H1 out' H', buildSliceA P H 25 1 [(0, .g [.i .u32 0, .s0])] = some (sl, H1) ∧ sl.isS = false ∧ appendA P H1 25 false out sl = some (out', H') ∧ OutG L0 H' out' (ts ++ [(0, .s0, [])]) ∧ WKeep L0 H H' ∧ (∀ (b : Nat) (ty : TypeId) (cs : List AV), H[b]? = some (.cells ty .vr cs) → H'[b]? = some (.cells ty .vr cs)) := by
  have hbs : buildSliceA P H 25 1 [(0, .g [.i .u32 0, .s0])] = some (.sl H.length 0 1, H ++ [.cells 42 .row [.i .u32 0, .s0]]) := by kernel_rfl
  have hone : AllOne (ts ++ [(0, .s0, [])]) := fun x hx => by
    rcases List.mem_append.1 hx with hx | hx
    · exact h.1 x hx
    · simp at hx; subst hx; rfl
  have hf : firstA (H ++ [.cells 42 .row [.i .u32 0, .s0]]) 2 (.sl H.length 0 1) = some (1, [.i .u32 0, .s0]) := by
    simp only [firstA, List.getElem?_concat_length]; rfl
  have hz : (AV.g [.i .u32 0, .s0]).cells.length = 2 ∧ (AV.g [.i .u32 0, .s0]).cells.all AV.one = true := ⟨rfl, rfl⟩
  rcases h.2 with ⟨rfl, rfl⟩ | ⟨i, hi, rfl, h3, h4⟩
  · refine ⟨_, _, .sl (H ++ [Blk.cells 42 .row [.i .u32 0, .s0]]).length 0 1, (H ++ [Blk.cells 42 .row [.i .u32 0, .s0]]) ++ [Blk.cells 42 .row [.i .u32 0, .s0]], hbs, rfl, ?_, ⟨hone, .inr ⟨(H ++ [Blk.cells 42 .row [.i .u32 0, .s0]]).length, by simp; omega, by simp, by rw [List.getElem?_concat_length]; rfl, by simp⟩⟩, ⟨fun k hk => by rw [List.getElem?_append_left (by simp; omega), List.getElem?_append_left (by omega)], by simp⟩, fun b ty cs hb => ?_⟩
    · unfold appendA
      simp only [elG, zG, bytesG, zeroG]
      rw [if_pos ⟨by omega, hz.1, hz.2, by simp⟩]
      simp only [hf]
      rw [if_neg (by omega), if_pos ⟨by omega, by omega⟩]
      rfl
    · have := (List.getElem?_eq_some_iff.1 hb).1
      rw [List.getElem?_append_left (by simp; omega), List.getElem?_append_left (by omega)]; exact hb
  · have hil := (List.getElem?_eq_some_iff.1 h3).1
    have h3' : (H ++ [Blk.cells 42 .row [.i .u32 0, .s0]])[i]? = some (.cells 42 .row (tgc ts)) := by rw [List.getElem?_append_left hil]; exact h3
    have ht : (tgc ts).take (ts.length * 2) = tgc ts := by rw [← tgc_len, List.take_length]
    refine ⟨_, _, .sl (H ++ [Blk.cells 42 .row [.i .u32 0, .s0]]).length 0 (ts.length + 1), ((H ++ [Blk.cells 42 .row [.i .u32 0, .s0]]).set i .dead) ++ [Blk.cells 42 .row (tgc ts ++ [.i .u32 0, .s0])], hbs, rfl, ?_, ⟨hone, .inr ⟨(H ++ [Blk.cells 42 .row [.i .u32 0, .s0]]).length, by simp; omega, by simp, ?_, by simp⟩⟩, ⟨fun k hk => ?_, by simp; omega⟩, fun b ty cs hb => ?_⟩
    · unfold appendA
      simp only [elG, zG, bytesG, zeroG]
      rw [if_pos ⟨by omega, hz.1, hz.2, by simp⟩]
      simp only [hf, h3']
      rw [if_pos (by refine ⟨?_, ?_, ?_, ?_⟩ <;> first | trivial | rfl | omega | (rw [tgc_len]; omega)), ht]
      have hall : (tgc ts ++ [AV.i .u32 0, AV.s0]).all AV.one = true := by rw [List.all_append, tgc_one h.1]; rfl
      simp only [newBlk, hall, if_true, Option.map_some, List.length_set]
    · rw [tgc_app]
      have : ((H ++ [Blk.cells 42 .row [.i .u32 0, .s0]]).set i .dead).length = (H ++ [Blk.cells 42 .row [.i .u32 0, .s0]]).length := by simp
      rw [← this, List.getElem?_concat_length]
      rfl
    · rw [List.getElem?_append_left (by simp; omega), List.getElem?_set_ne (by omega), List.getElem?_append_left (by omega)]
    · have hlt := (List.getElem?_eq_some_iff.1 hb).1
      have hne : i ≠ b := fun e => by subst e; rw [h3] at hb; cases hb
      rw [List.getElem?_append_left (by simp; omega), List.getElem?_set_ne hne, List.getElem?_append_left (by omega)]
      exact hb
def posG (k : Nat) : List Tg → Nat
  | [] => 0
  | t :: r => if t.1 < k then posG k r + 1 else 0
theorem posG_le (k : Nat) : ∀ ts, posG k ts ≤ ts.length
  | [] => Nat.le_refl _
  | t :: r => by unfold posG; split <;> have := posG_le k r <;> simp <;> omega
theorem posG_lt {k : Nat} : ∀ {ts : List Tg} {j : Nat} {t : Tg}, ts[j]? = some t → j < posG k ts → t.1 < k
  | x :: r, j, t, h, hj => by
    unfold posG at hj
    split at hj
    · rename_i hx
      cases j with
      | zero => simp at h; subst h; exact hx
      | succ j => exact posG_lt (by simpa using h) (by omega)
    · omega
theorem posG_at {k : Nat} : ∀ {ts : List Tg} {t : Tg}, ts[posG k ts]? = some t → k ≤ t.1
  | x :: r, t, h => by
    unfold posG at h
    split at h
    · exact posG_at (ts := r) (by simpa using h)
    · simp at h; subst h; omega
def pr3 (t : Tg) : Nat × B := (t.1, t.2.2)
def insG (t : Tg) (ts : List Tg) : List Tg := match ts[posG t.1 ts]? with
  | some x => if x.1 = t.1 then ts else ts.take (posG t.1 ts) ++ [t] ++ ts.drop (posG t.1 ts)
  | none => ts ++ [t]
theorem insG_put (t : Tg) : ∀ ts : List Tg, (insG t ts).map pr3 = putF t.1 t.2.2 (ts.map pr3)
  | [] => rfl
  | x :: r => by
    have ih := insG_put t r
    unfold insG at ih ⊢
    simp only [posG, List.map_cons, pr3, putF]
    by_cases h1 : x.1 < t.1
    · rw [if_pos h1]
      simp only [List.getElem?_cons_succ, List.take_succ_cons, List.drop_succ_cons]
      rw [if_neg (by omega), if_neg (by omega)]
      cases hx : r[posG t.1 r]? with
      | none =>
        rw [hx] at ih
        simp only [List.cons_append, List.map_cons] at ih ⊢
        rw [← ih]; rfl
      | some y =>
        rw [hx] at ih
        simp only at ih ⊢
        split
        · rename_i h2
          rw [if_pos h2] at ih
          rw [← ih]; rfl
        · rename_i h2
          rw [if_neg h2] at ih
          simp only [List.cons_append, List.map_cons]
          rw [← ih]; rfl
    · rw [if_neg h1]
      simp only [List.getElem?_cons_zero, List.take_zero, List.drop_zero, List.nil_append]
      by_cases h2 : x.1 = t.1
      · rw [if_pos h2, if_neg (by omega), if_pos h2.symm]; rfl
      · rw [if_neg h2, if_pos (by omega)]; rfl
end Go.Proofs.Ytdoaobkfbjegpaa.Rd

