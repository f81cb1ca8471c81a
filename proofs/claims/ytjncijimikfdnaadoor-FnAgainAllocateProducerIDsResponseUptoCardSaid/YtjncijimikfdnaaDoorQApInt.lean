import Derived.Test.YtjncijimikfdnaaDoorQWxLoop
import Derived.Test.YtjncijimikfdnaaDoorQRdStep
import Derived.Test.YtjncijimikfdnaaDoorQSxDef
/-
  NUMBERS, as kbin writes them.
-/
namespace Go.Proofs.YtjncijimikfdnaaDoor.Rd
set_option linter.constructorNameAsVariable false
set_option linter.unusedVariables false
set_option linter.unusedSimpArgs false
open Go Go.Proofs.YtjncijimikfdnaaDoor.Ax Go.Proofs.YtjncijimikfdnaaDoor.Wire
set_option linter.unusedSimpArgs false
set_option linter.unusedVariables false
set_option maxRecDepth 100000
set_option maxHeartbeats 1000000
theorem be2 (n : Int) : be 2 n = [UInt8.ofNat ((n / 256) % 256).toNat, UInt8.ofNat (n % 256).toNat] := by simp [be]
theorem be4 (n : Int) : be 4 n = [UInt8.ofNat ((n / 16777216) % 256).toNat, UInt8.ofNat ((n / 65536) % 256).toNat, UInt8.ofNat ((n / 256) % 256).toNat, UInt8.ofNat (n % 256).toNat] := by simp [be]
theorem be_mod2 (n : Int) : be 2 (n % 65536) = be 2 n := by
  rw [be2, be2]
  have h1 : n % 65536 / 256 % 256 = n / 256 % 256 := by omega
  have h2 : n % 65536 % 256 = n % 256 := by omega
  rw [h1, h2]
theorem be_mod4 (n : Int) : be 4 (n % 4294967296) = be 4 n := by
  rw [be4, be4]
  have h1 : n % 4294967296 / 16777216 % 256 = n / 16777216 % 256 := by omega
  have h2 : n % 4294967296 / 65536 % 256 = n / 65536 % 256 := by omega
  have h3 : n % 4294967296 / 256 % 256 = n / 256 % 256 := by omega
  have h4 : n % 4294967296 % 256 = n % 256 := by omega
  rw [h1, h2, h3, h4]
theorem shr_8 (t : TypeId) (k : IntKind) (c : Bool) (a : Int) (hk : 8 ≤ k.bits) : binA P .shr t c (.i k a) (.i .u64 8) = some (.i k (a / 256)) := by have := shr t k c a 8 hk; simpa using this
theorem shr_16 (t : TypeId) (k : IntKind) (c : Bool) (a : Int) (hk : 16 ≤ k.bits) : binA P .shr t c (.i k a) (.i .u64 16) = some (.i k (a / 65536)) := by have := shr t k c a 16 hk; simpa using this
theorem shr_24 (t : TypeId) (k : IntKind) (c : Bool) (a : Int) (hk : 24 ≤ k.bits) : binA P .shr t c (.i k a) (.i .u64 24) = some (.i k (a / 16777216)) := by have := shr t k c a 24 hk; simpa using this
theorem build_1 (H : Heap) (b0 : UInt8) : buildSliceA P H 22 1 [(0, U8 b0)] = some (.sl H.length 0 1, H ++ [.cells 5 .row (u8s [b0])]) := by kernel_rfl
theorem build_2 (H : Heap) (b0 b1 : UInt8) : buildSliceA P H 22 2 [(0, U8 b0), (1, U8 b1)] = some (.sl H.length 0 2, H ++ [.cells 5 .row (u8s [b0, b1])]) := by kernel_rfl
theorem build_3 (H : Heap) (b0 b1 b2 : UInt8) : buildSliceA P H 22 3 [(0, U8 b0), (1, U8 b1), (2, U8 b2)] = some (.sl H.length 0 3, H ++ [.cells 5 .row (u8s [b0, b1, b2])]) := by kernel_rfl
theorem build_4 (H : Heap) (b0 b1 b2 b3 : UInt8) : buildSliceA P H 22 4 [(0, U8 b0), (1, U8 b1), (2, U8 b2), (3, U8 b3)] = some (.sl H.length 0 4, H ++ [.cells 5 .row (u8s [b0, b1, b2, b3])]) := by kernel_rfl
theorem build_5 (H : Heap) (b0 b1 b2 b3 b4 : UInt8) : buildSliceA P H 22 5 [(0, U8 b0), (1, U8 b1), (2, U8 b2), (3, U8 b3), (4, U8 b4)] = some (.sl H.length 0 5, H ++ [.cells 5 .row (u8s [b0, b1, b2, b3, b4])]) := by kernel_rfl
theorem cv_u16_8 (m : Int) : convA P 39 5 (.i .u16 m) = some (U8 (UInt8.ofNat (m % 256).toNat)) := by rw [← U8_wrap]; kernel_rfl
theorem ap_u16_run {L0 : Nat} {H : Heap} {out : AV} {bs : B} {n n0 : Int} {b0 b1 : UInt8} (hL : L0 ≤ H.length) (ho : OutAt L0 H out bs) (hb : bs.length + 2 ≤ 1099511627776)
    (s0 : binA P .shr 39 true (.i .u16 n) (.i .u64 8) = some (.i .u16 n0)) (c0 : convA P 39 5 (.i .u16 n0) = some (U8 b0))
    (c1 : convA P 39 5 (.i .u16 n) = some (U8 b1)) :
    ∃ out' H', CA P NS 97 [out, .i .u16 n] H (out', H') ∧ OutAt L0 H' out' (bs ++ [b0, b1]) ∧ WKeep L0 H H' := by
  have hbl := build_2 H b0 b1
  have hfi := first_new H 5 [b0, b1] (by simp)
  obtain ⟨out', H', ha, h1, h2⟩ := ap_bytes (str := false) (x := .sl H.length 0 2) (new := [b0, b1]) (by simp; omega) (ho.app [.cells 5 .row (u8s [b0, b1])]) hfi (by simpa using hb)
  refine ⟨out', H', ?_, h1, (WKeep.app L0 H _ hL).trans h2⟩
  generalize H ++ [Blk.cells 5 Kn.row (u8s [b0, b1])] = H1 at hbl ha
  refine CA.go (fn := Tryd.f97) (vs := [_]) (by kernel_rfl) rfl (.inr rfl) ?_
  apply Exists.intro
  apply And.intro
  · dsimp only [Tryd.f97]
    dsimp only [List.length_cons, List.length_nil, List.cons_append, List.nil_append, Nat.reduceSub, Nat.reduceAdd, List.replicate]
    refine RU.seq RU.rg ?_
    refine RU.seq RU.rg ?_
    exact RU.ret
  · rfl
theorem ap_u16 {L0 : Nat} {H : Heap} {out : AV} {bs : B} {n : Int} (hL : L0 ≤ H.length) (ho : OutAt L0 H out bs) (hb : bs.length + 2 ≤ 1099511627776) :
    ∃ out' H', CA P NS 97 [out, .i .u16 n] H (out', H') ∧ OutAt L0 H' out' (bs ++ be 2 n) ∧ WKeep L0 H H' := by
  rw [be2]
  exact ap_u16_run hL ho hb (shr_8 _ _ _ _ (by simp [IntKind.bits])) (cv_u16_8 _) (cv_u16_8 n)
theorem cv_u32_8 (m : Int) : convA P 62 5 (.i .u32 m) = some (U8 (UInt8.ofNat (m % 256).toNat)) := by rw [← U8_wrap]; kernel_rfl
theorem ap_u32_run {L0 : Nat} {H : Heap} {out : AV} {bs : B} {n n0 n1 n2 : Int} {b0 b1 b2 b3 : UInt8} (hL : L0 ≤ H.length) (ho : OutAt L0 H out bs) (hb : bs.length + 4 ≤ 1099511627776)
    (s0 : binA P .shr 62 true (.i .u32 n) (.i .u64 24) = some (.i .u32 n0)) (c0 : convA P 62 5 (.i .u32 n0) = some (U8 b0))
    (s1 : binA P .shr 62 true (.i .u32 n) (.i .u64 16) = some (.i .u32 n1)) (c1 : convA P 62 5 (.i .u32 n1) = some (U8 b1))
    (s2 : binA P .shr 62 true (.i .u32 n) (.i .u64 8) = some (.i .u32 n2)) (c2 : convA P 62 5 (.i .u32 n2) = some (U8 b2))
    (c3 : convA P 62 5 (.i .u32 n) = some (U8 b3)) :
    ∃ out' H', CA P NS 91 [out, .i .u32 n] H (out', H') ∧ OutAt L0 H' out' (bs ++ [b0, b1, b2, b3]) ∧ WKeep L0 H H' := by
  have hbl := build_4 H b0 b1 b2 b3
  have hfi := first_new H 5 [b0, b1, b2, b3] (by simp)
  obtain ⟨out', H', ha, h1, h2⟩ := ap_bytes (str := false) (x := .sl H.length 0 4) (new := [b0, b1, b2, b3]) (by simp; omega) (ho.app [.cells 5 .row (u8s [b0, b1, b2, b3])]) hfi (by simpa using hb)
  refine ⟨out', H', ?_, h1, (WKeep.app L0 H _ hL).trans h2⟩
  generalize H ++ [Blk.cells 5 Kn.row (u8s [b0, b1, b2, b3])] = H1 at hbl ha
  refine CA.go (fn := Tryd.f91) (vs := [_]) (by kernel_rfl) rfl (.inr rfl) ?_
  apply Exists.intro
  apply And.intro
  · dsimp only [Tryd.f91]
    dsimp only [List.length_cons, List.length_nil, List.cons_append, List.nil_append, Nat.reduceSub, Nat.reduceAdd, List.replicate]
    refine RU.seq RU.rg ?_
    refine RU.seq RU.rg ?_
    exact RU.ret
  · rfl
theorem ap_u32 {L0 : Nat} {H : Heap} {out : AV} {bs : B} {n : Int} (hL : L0 ≤ H.length) (ho : OutAt L0 H out bs) (hb : bs.length + 4 ≤ 1099511627776) :
    ∃ out' H', CA P NS 91 [out, .i .u32 n] H (out', H') ∧ OutAt L0 H' out' (bs ++ be 4 n) ∧ WKeep L0 H H' := by
  rw [be4]
  exact ap_u32_run hL ho hb (shr_24 _ _ _ _ (by simp [IntKind.bits])) (cv_u32_8 _) (shr_16 _ _ _ _ (by simp [IntKind.bits])) (cv_u32_8 _) (shr_8 _ _ _ _ (by simp [IntKind.bits])) (cv_u32_8 _) (cv_u32_8 n)
theorem cv_i16_u16 (n : Int) : convA P 42 39 (.i .i16 n) = some (.i .u16 (n % 65536)) := by
  have e : convA P 42 39 (.i .i16 n) = some (.i .u16 (IntKind.u16.wrap n)) := by kernel_rfl
  rw [e]
  simp [IntKind.wrap, IntKind.signed, IntKind.bits]
theorem ap_i16 {L0 : Nat} {H : Heap} {out : AV} {bs : B} {n : Int} (hL : L0 ≤ H.length) (ho : OutAt L0 H out bs) (hb : bs.length + 2 ≤ 1099511627776) :
    ∃ out' H', CA P NS 74 [out, .i .i16 n] H (out', H') ∧ OutAt L0 H' out' (bs ++ be 2 n) ∧ WKeep L0 H H' := by
  obtain ⟨out', H', hca, h1, h2⟩ := ap_u16 (n := n % 65536) hL ho hb
  rw [be_mod2] at h1
  have hc := cv_i16_u16 n
  refine ⟨out', H', ?_, h1, h2⟩
  generalize n % 65536 = m at hca hc
  refine CA.go (fn := Tryd.f74) (vs := [_]) (by kernel_rfl) rfl (.inr rfl) ?_
  apply Exists.intro
  apply And.intro
  · dsimp only [Tryd.f74]
    dsimp only [List.length_cons, List.length_nil, List.cons_append, List.nil_append, Nat.reduceSub, Nat.reduceAdd, List.replicate]
    refine RU.seq RU.rg ?_
    refine RU.seq RU.rg ?_
    exact RU.ret
  · rfl
theorem apk_i16 (flex null : Bool) : ApK 74 flex .i16 null := ⟨fun L0 H out bs av v hL ho hr hk hb => by
  cases v <;> simp only [RepK] at hr <;> first | exact hr.elim | skip
  subst hr
  rename_i n
  have hl : (encK flex .i16 (.i n)).length = 2 := be_length _ _
  exact ap_i16 hL ho (by omega)⟩
theorem cv_i32_u32 (n : Int) : convA P 21 62 (.i .i32 n) = some (.i .u32 (n % 4294967296)) := by
  have e : convA P 21 62 (.i .i32 n) = some (.i .u32 (IntKind.u32.wrap n)) := by kernel_rfl
  rw [e]
  simp [IntKind.wrap, IntKind.signed, IntKind.bits]
theorem ap_i32 {L0 : Nat} {H : Heap} {out : AV} {bs : B} {n : Int} (hL : L0 ≤ H.length) (ho : OutAt L0 H out bs) (hb : bs.length + 4 ≤ 1099511627776) :
    ∃ out' H', CA P NS 65 [out, .i .i32 n] H (out', H') ∧ OutAt L0 H' out' (bs ++ be 4 n) ∧ WKeep L0 H H' := by
  obtain ⟨out', H', hca, h1, h2⟩ := ap_u32 (n := n % 4294967296) hL ho hb
  rw [be_mod4] at h1
  have hc := cv_i32_u32 n
  refine ⟨out', H', ?_, h1, h2⟩
  generalize n % 4294967296 = m at hca hc
  refine CA.go (fn := Tryd.f65) (vs := [_]) (by kernel_rfl) rfl (.inr rfl) ?_
  apply Exists.intro
  apply And.intro
  · dsimp only [Tryd.f65]
    dsimp only [List.length_cons, List.length_nil, List.cons_append, List.nil_append, Nat.reduceSub, Nat.reduceAdd, List.replicate]
    refine RU.seq RU.rg ?_
    refine RU.seq RU.rg ?_
    exact RU.ret
  · rfl
theorem apk_i32 (flex null : Bool) : ApK 65 flex .i32 null := ⟨fun L0 H out bs av v hL ho hr hk hb => by
  cases v <;> simp only [RepK] at hr <;> first | exact hr.elim | skip
  subst hr
  rename_i n
  have hl : (encK flex .i32 (.i n)).length = 4 := be_length _ _
  exact ap_i32 hL ho (by omega)⟩
end Go.Proofs.YtjncijimikfdnaaDoor.Rd

/-
  TEXTS AND LENGTHS, as kbin writes them.
-/
namespace Go.Proofs.YtjncijimikfdnaaDoor.Rd
set_option linter.constructorNameAsVariable false
set_option linter.unusedVariables false
set_option linter.unusedSimpArgs false
open Go Go.Proofs.YtjncijimikfdnaaDoor.Ax Go.Proofs.YtjncijimikfdnaaDoor.Wire
set_option linter.unusedSimpArgs false
set_option linter.unusedVariables false
set_option maxRecDepth 100000
set_option maxHeartbeats 1000000
theorem first_s (H : Heap) (bs : B) : firstA H 1 (.s (bst bs)) = some (bs.length, u8s bs) := by
  simp [firstA, bst, ByteArray.size, u8s, U8]
theorem be2_wrap (n : Int) : be 2 (IntKind.i16.wrap n) = be 2 n := by
  rw [← be_mod2 (IntKind.i16.wrap n), ← be_mod2 n]
  congr 1
  simp [IntKind.wrap, IntKind.signed, IntKind.bits]
  split <;> omega
theorem be4_wrap (n : Int) : be 4 (IntKind.i32.wrap n) = be 4 n := by
  rw [← be_mod4 (IntKind.i32.wrap n), ← be_mod4 n]
  congr 1
  simp [IntKind.wrap, IntKind.signed, IntKind.bits]
  split <;> omega
theorem cv_i64_i16 (n : Int) : convA P 3 42 (.i .i64 n) = some (.i .i16 (IntKind.i16.wrap n)) := by kernel_rfl
theorem cv_i64_i32 (n : Int) : convA P 3 21 (.i .i64 n) = some (.i .i32 (IntKind.i32.wrap n)) := by kernel_rfl
theorem len_s (x : ByteArray) : lenA P 9 (.s x) = some (.i .i64 (x.size : Nat)) := by kernel_rfl
end Go.Proofs.YtjncijimikfdnaaDoor.Rd

/-
  NUMBERS, as kbin reads them.
-/
namespace Go.Proofs.YtjncijimikfdnaaDoor.Rd
set_option linter.constructorNameAsVariable false
set_option linter.unusedVariables false
set_option linter.unusedSimpArgs false
open Go Go.Proofs.YtjncijimikfdnaaDoor.Ax Go.Proofs.YtjncijimikfdnaaDoor.Wire
set_option linter.unusedSimpArgs false
set_option linter.unusedVariables false
set_option maxRecDepth 100000
set_option maxHeartbeats 1000000
theorem int16_short {H : Heap} {rb : Nat} {src : AV} {bad : Bool} {n : Nat} (hH : H[rb]? = some (.cells tR .vr [src, .b bad])) (hlen : lenA P 22 src = some (.i .i64 n)) (hl : n < 2) :
    CA P NS 96 [.p rb 0] H (.i .i16 0, RH H rb .s0 true) := by
  have hc : binA P .lss 3 true (.i .i64 (n : Int)) (.i .i64 2) = some (.b true) := by rw [lss]; simp; omega
  have l0 := rd_src hH
  have s1 := st_bad hH
  have s2 : storeA P (RH H rb src true) 22 (.p rb 0) .s0 = some (RH H rb .s0 true) := by rw [st_src (RH_at hH _ _) rfl rfl, RH_RH]
  refine CA.go (fn := Tryd.f96) (vs := [_]) (by kernel_rfl) rfl (.inr rfl) ?_
  apply Exists.intro
  apply And.intro
  · dsimp only [Tryd.f96]
    dsimp only [List.length_cons, List.length_nil, List.cons_append, List.nil_append, Nat.reduceSub, Nat.reduceAdd, List.replicate]
    refine RU.seq RU.rg ?_
    (apply RU.seqx; rotate_left; focus (simp)); refine RU.seq RU.rg ?_; apply RU.condT rfl
    refine RU.seq RU.rg ?_
    refine RU.seq RU.rg ?_
    refine RU.seq RU.rg ?_
    exact RU.ret
  · rfl
theorem cv_int16 (n : Int) : convA P 39 42 (.i .u16 n) = some (.i .i16 (IntKind.i16.wrap n)) := by kernel_rfl
theorem int16_good {A : Nat → Prop} {H : Heap} {rb : Nat} {src src' : AV} {b0 b1 : UInt8} {r : B} (R : Room A H rb) (hH : H[rb]? = some (.cells tR .vr [src, .b false])) (hb : BytesAt A H src (b0 :: b1 :: r)) (hs : sliceA P 22 src (some (.i .i64 2)) none = some src') (hs1 : src'.cells = [src']) (hs2 : src'.one = true) :
    CA P NS 96 [.p rb 0] H (.i .i16 (sgn 2 (nat [b0, b1])), RH (H ++ [.cells 118 .vr []]) rb src' false) := by
  have hlen := hb.len bty
  have hc : binA P .lss 3 true (.i .i64 ((b0 :: b1 :: r).length : Int)) (.i .i64 2) = some (.b false) := by rw [lss]; simp; omega
  generalize ((b0 :: b1 :: r).length : Int) = n at hlen hc
  have l0 := rd_src hH
  have lg := R.ldBE
  obtain ⟨n1, hcall⟩ := be16 hb
  rw [nat2] at hcall
  have hgr : Grows H (H ++ [.cells 118 .vr []]) := .app _ _
  have hH1 := hgr.at hH
  have l1 := rd_src hH1
  have s1 := st_src hH1 hs1 hs2
  have hcv : convA P 39 42 (.i .u16 ((nat [b0, b1] : Nat) : Int)) = some (.i .i16 (sgn 2 (nat [b0, b1]))) := (cv_int16 _).trans (congrArg (fun x => some (AV.i .i16 x)) (wrap_sgn2 (nat_lt2 b0 b1)))
  generalize sgn 2 (nat [b0, b1]) = v at hcv ⊢
  generalize ((nat [b0, b1] : Nat) : Int) = u at *
  generalize H ++ [Blk.cells 118 Kn.vr []] = H1 at *
  refine CA.go (fn := Tryd.f96) (vs := [_]) (by kernel_rfl) rfl (.inr rfl) ?_
  apply Exists.intro
  apply And.intro
  · dsimp only [Tryd.f96]
    dsimp only [List.length_cons, List.length_nil, List.cons_append, List.nil_append, Nat.reduceSub, Nat.reduceAdd, List.replicate]
    refine RU.seq RU.rg ?_
    refine RU.seq (RU.seq RU.rg (RU.condF rfl RU.skip)) ?_
    refine RU.seq (RU.dr hcall) ?_
    refine RU.seq RU.rg ?_
    refine RU.seq RU.rg ?_
    exact RU.ret
  · rfl
/-- Int16. -/
theorem rd_int16 : RdN 96 .i16 (rdI 2) where
  good A H rb nn bs n r R h hd := by
    obtain ⟨src, hH, hb, hn⟩ := h
    obtain ⟨h, hc, rfl⟩ := rdI_some hd
    obtain ⟨b0, b1, rfl, rfl⟩ := cut2 hc
    obtain ⟨src', hs, hb', hn'⟩ := hb.lo bty .i64 (n := 2) (by simp)
    have g : Keep A H (H ++ [.cells 118 .vr []]) := .app A _ _
    have hH1 := (Grows.app H [.cells 118 .vr []]).at hH
    exact ⟨_, int16_good R hH hb hs (BytesAt.one' hb').1 (BytesAt.one' hb').2, RdAt.good R.no hH1 (hb'.keep g) (fun _ => hn' (.inl (by omega))), g.trans (RH_keep R.no _ _)⟩
  bad A H rb nn st R h hd := by
    obtain ⟨src, b, hH, hl, _⟩ := RdAt.cell h
    exact ⟨_, int16_short hH hl (rdI_none (by omega) hd), RdAt.bad hH, RH_keep R.no _ _⟩
theorem int32_short {H : Heap} {rb : Nat} {src : AV} {bad : Bool} {n : Nat} (hH : H[rb]? = some (.cells tR .vr [src, .b bad])) (hlen : lenA P 22 src = some (.i .i64 n)) (hl : n < 4) :
    CA P NS 88 [.p rb 0] H (.i .i32 0, RH H rb .s0 true) := by
  have hc : binA P .lss 3 true (.i .i64 (n : Int)) (.i .i64 4) = some (.b true) := by rw [lss]; simp; omega
  have l0 := rd_src hH
  have s1 := st_bad hH
  have s2 : storeA P (RH H rb src true) 22 (.p rb 0) .s0 = some (RH H rb .s0 true) := by rw [st_src (RH_at hH _ _) rfl rfl, RH_RH]
  refine CA.go (fn := Tryd.f88) (vs := [_]) (by kernel_rfl) rfl (.inr rfl) ?_
  apply Exists.intro
  apply And.intro
  · dsimp only [Tryd.f88]
    dsimp only [List.length_cons, List.length_nil, List.cons_append, List.nil_append, Nat.reduceSub, Nat.reduceAdd, List.replicate]
    refine RU.seq RU.rg ?_
    (apply RU.seqx; rotate_left; focus (simp)); refine RU.seq RU.rg ?_; apply RU.condT rfl
    refine RU.seq RU.rg ?_
    refine RU.seq RU.rg ?_
    refine RU.seq RU.rg ?_
    exact RU.ret
  · rfl
theorem cv_int32 (n : Int) : convA P 62 21 (.i .u32 n) = some (.i .i32 (IntKind.i32.wrap n)) := by kernel_rfl
theorem int32_good {A : Nat → Prop} {H : Heap} {rb : Nat} {src src' : AV} {b0 b1 b2 b3 : UInt8} {r : B} (R : Room A H rb) (hH : H[rb]? = some (.cells tR .vr [src, .b false])) (hb : BytesAt A H src (b0 :: b1 :: b2 :: b3 :: r)) (hs : sliceA P 22 src (some (.i .i64 4)) none = some src') (hs1 : src'.cells = [src']) (hs2 : src'.one = true) :
    CA P NS 88 [.p rb 0] H (.i .i32 (sgn 4 (nat [b0, b1, b2, b3])), RH (H ++ [.cells 118 .vr []]) rb src' false) := by
  have hlen := hb.len bty
  have hc : binA P .lss 3 true (.i .i64 ((b0 :: b1 :: b2 :: b3 :: r).length : Int)) (.i .i64 4) = some (.b false) := by rw [lss]; simp; omega
  generalize ((b0 :: b1 :: b2 :: b3 :: r).length : Int) = n at hlen hc
  have l0 := rd_src hH
  have lg := R.ldBE
  obtain ⟨n1, hcall⟩ := be32 hb
  rw [nat4] at hcall
  have hgr : Grows H (H ++ [.cells 118 .vr []]) := .app _ _
  have hH1 := hgr.at hH
  have l1 := rd_src hH1
  have s1 := st_src hH1 hs1 hs2
  have hcv : convA P 62 21 (.i .u32 ((nat [b0, b1, b2, b3] : Nat) : Int)) = some (.i .i32 (sgn 4 (nat [b0, b1, b2, b3]))) := (cv_int32 _).trans (congrArg (fun x => some (AV.i .i32 x)) (wrap_sgn4 (nat_lt4 b0 b1 b2 b3)))
  generalize sgn 4 (nat [b0, b1, b2, b3]) = v at hcv ⊢
  generalize ((nat [b0, b1, b2, b3] : Nat) : Int) = u at *
  generalize H ++ [Blk.cells 118 Kn.vr []] = H1 at *
  refine CA.go (fn := Tryd.f88) (vs := [_]) (by kernel_rfl) rfl (.inr rfl) ?_
  apply Exists.intro
  apply And.intro
  · dsimp only [Tryd.f88]
    dsimp only [List.length_cons, List.length_nil, List.cons_append, List.nil_append, Nat.reduceSub, Nat.reduceAdd, List.replicate]
    refine RU.seq RU.rg ?_
    refine RU.seq (RU.seq RU.rg (RU.condF rfl RU.skip)) ?_
    refine RU.seq (RU.dr hcall) ?_
    refine RU.seq RU.rg ?_
    refine RU.seq RU.rg ?_
    exact RU.ret
  · rfl
/-- Int32. -/
theorem rd_int32 : RdN 88 .i32 (rdI 4) where
  good A H rb nn bs n r R h hd := by
    obtain ⟨src, hH, hb, hn⟩ := h
    obtain ⟨h, hc, rfl⟩ := rdI_some hd
    obtain ⟨b0, b1, b2, b3, rfl, rfl⟩ := cut4 hc
    obtain ⟨src', hs, hb', hn'⟩ := hb.lo bty .i64 (n := 4) (by simp)
    have g : Keep A H (H ++ [.cells 118 .vr []]) := .app A _ _
    have hH1 := (Grows.app H [.cells 118 .vr []]).at hH
    exact ⟨_, int32_good R hH hb hs (BytesAt.one' hb').1 (BytesAt.one' hb').2, RdAt.good R.no hH1 (hb'.keep g) (fun _ => hn' (.inl (by omega))), g.trans (RH_keep R.no _ _)⟩
  bad A H rb nn st R h hd := by
    obtain ⟨src, b, hH, hl, _⟩ := RdAt.cell h
    exact ⟨_, int32_short hH hl (rdI_none (by omega) hd), RdAt.bad hH, RH_keep R.no _ _⟩
end Go.Proofs.YtjncijimikfdnaaDoor.Rd

/-
  SPANS AND STATES of a reader, as kbin has them.
-/
namespace Go.Proofs.YtjncijimikfdnaaDoor.Rd
set_option linter.constructorNameAsVariable false
set_option linter.unusedVariables false
set_option linter.unusedSimpArgs false
open Go Go.Proofs.YtjncijimikfdnaaDoor.Ax Go.Proofs.YtjncijimikfdnaaDoor.Wire
set_option linter.unusedSimpArgs false
set_option linter.unusedVariables false
set_option maxRecDepth 100000
set_option maxHeartbeats 1000000
theorem span_short {H : Heap} {rb : Nat} {src : AV} {bad : Bool} {n l : Int} (hH : H[rb]? = some (.cells tR .vr [src, .b bad])) (hlen : lenA P 22 src = some (.i .i64 n)) (hl : n < l ∨ l < 0) :
    CA P NS 105 [.p rb 0, .i .i64 l] H (.s0, RH H rb .s0 true) := by
  have l0 := rd_src hH
  have s1 := st_bad hH
  have s2 : storeA P (RH H rb src true) 22 (.p rb 0) .s0 = some (RH H rb .s0 true) := by rw [st_src (RH_at hH _ _) rfl rfl, RH_RH]
  by_cases hx : n < l
  · have hc : binA P .lss 3 false (.i .i64 n) (.i .i64 l) = some (.b true) := by rw [lss]; simp [hx]
    have hc2 : binA P .lss 3 true (.i .i64 l) (.i .i64 0) = some (.b (decide (l < 0))) := lss _ _ _ _ _
    generalize decide (l < 0) = z at hc2
    refine CA.go (fn := Tryd.f105) (vs := [_]) (by kernel_rfl) rfl (.inr rfl) ?_
    apply Exists.intro
    apply And.intro
    · dsimp only [Tryd.f105]
      dsimp only [List.length_cons, List.length_nil, List.cons_append, List.nil_append, Nat.reduceSub, Nat.reduceAdd, List.replicate]
      refine RU.seq RU.rg ?_
      (apply RU.seqx; rotate_left; focus (simp)); refine RU.seq RU.rg ?_; apply RU.condT rfl
      refine RU.seq RU.rg ?_
      refine RU.seq RU.rg ?_
      refine RU.seq RU.rg ?_
      exact RU.ret
    · rfl
  · have hc : binA P .lss 3 false (.i .i64 n) (.i .i64 l) = some (.b false) := by rw [lss]; simp [hx]
    have hc2 : binA P .lss 3 true (.i .i64 l) (.i .i64 0) = some (.b true) := by rw [lss]; simp; omega
    refine CA.go (fn := Tryd.f105) (vs := [_]) (by kernel_rfl) rfl (.inr rfl) ?_
    apply Exists.intro
    apply And.intro
    · dsimp only [Tryd.f105]
      dsimp only [List.length_cons, List.length_nil, List.cons_append, List.nil_append, Nat.reduceSub, Nat.reduceAdd, List.replicate]
      refine RU.seq RU.rg ?_
      (apply RU.seqx; rotate_left; focus (simp)); refine RU.seq RU.rg ?_; apply RU.condT rfl
      refine RU.seq RU.rg ?_
      refine RU.seq RU.rg ?_
      refine RU.seq RU.rg ?_
      exact RU.ret
    · rfl
theorem span_ok {H : Heap} {rb : Nat} {src src' av : AV} {bad : Bool} {n l : Int} (hH : H[rb]? = some (.cells tR .vr [src, .b bad])) (hlen : lenA P 22 src = some (.i .i64 n)) (hl : ¬ n < l) (hl0 : ¬ l < 0)
    (hm : sliceMaxA P 22 src (.i .i64 l) (.i .i64 l) = some av) (hs : sliceA P 22 src (some (.i .i64 l)) none = some src') (hs1 : src'.cells = [src']) (hs2 : src'.one = true) :
    CA P NS 105 [.p rb 0, .i .i64 l] H (av, RH H rb src' bad) := by
  have l0 := rd_src hH
  have s1 := st_src hH hs1 hs2
  have hc : binA P .lss 3 false (.i .i64 n) (.i .i64 l) = some (.b false) := by rw [lss]; simp [hl]
  have hc2 : binA P .lss 3 true (.i .i64 l) (.i .i64 0) = some (.b false) := by rw [lss]; simp [hl0]
  refine CA.go (fn := Tryd.f105) (vs := [_]) (by kernel_rfl) rfl (.inr rfl) ?_
  apply Exists.intro
  apply And.intro
  · dsimp only [Tryd.f105]
    dsimp only [List.length_cons, List.length_nil, List.cons_append, List.nil_append, Nat.reduceSub, Nat.reduceAdd, List.replicate]
    refine RU.seq RU.rg ?_
    refine RU.seq (RU.seq RU.rg (RU.condF rfl RU.skip)) ?_
    refine RU.seq RU.rg ?_
    refine RU.seq RU.rg ?_
    refine RU.seq RU.rg ?_
    exact RU.ret
  · rfl
theorem rd_span_good {A : Nat → Prop} {H : Heap} {rb : Nat} {nn : Bool} {bs h r : B} {l : Int} (R : Room A H rb) (h0 : RdAt A tR H rb nn (some bs)) (hd : rdS l bs = some (h, r)) :
    ∃ av H', CA P NS 105 [.p rb 0, .i .i64 l] H (av, H') ∧ BytesAt A H' av h ∧ (nn = true → av ≠ .s0) ∧ RdAt A tR H' rb nn (some r) ∧ Keep A H H' := by
  obtain ⟨src, hH, hb, hn⟩ := h0
  obtain ⟨n, rfl, hle, rfl, rfl⟩ := rdS_some hd
  obtain ⟨av, hm, hb1, hn1⟩ := hb.max bty .i64 .i64 hle
  obtain ⟨src', hs, hb2, hn2⟩ := hb.lo bty .i64 hle
  exact ⟨av, _, span_ok hH (hb.len bty) (by omega) (by omega) hm hs (BytesAt.one' hb2).1 (BytesAt.one' hb2).2, hb1.keep (RH_keep R.no _ _), fun x => hn1 (hn x), RdAt.good R.no hH hb2 (fun x => hn2 (.inr (hn x))), RH_keep R.no _ _⟩
theorem rd_span_bad {A : Nat → Prop} {H : Heap} {rb : Nat} {nn : Bool} {st : Option B} {l : Int} (R : Room A H rb) (h0 : RdAt A tR H rb nn st) (hd : st.bind (rdS l) = none) :
    ∃ H', CA P NS 105 [.p rb 0, .i .i64 l] H (.s0, H') ∧ RdAt A tR H' rb true none ∧ Keep A H H' := by
  obtain ⟨src, b, hH, hl, hn⟩ := RdAt.cell h0
  by_cases hx : ((st.getD []).length : Int) < l ∨ l < 0
  · exact ⟨_, span_short hH hl hx, RdAt.bad hH, RH_keep R.no _ _⟩
  · cases st with
    | some bs => exact absurd hd (by simp only [Option.bind_some]; intro h; exact hx (rdS_none h))
    | none =>
      simp at hx
      obtain rfl : l = 0 := by omega
      have hH' : H[rb]? = some (.cells tR .vr [.s0, .b true]) := h0
      refine ⟨_, span_ok hH' (n := 0) (by kernel_rfl) (by omega) (by omega) (av := .s0) (src' := .s0) (by kernel_rfl) (by kernel_rfl) rfl rfl, RdAt.bad hH, RH_keep R.no _ _⟩
theorem rd_done_good {A : Nat → Prop} {H : Heap} {rb : Nat} {nn : Bool} {bs : B} (h0 : RdAt A tR H rb nn (some bs)) : CA P NS 90 [.p rb 0] H (.n, H) := by
  obtain ⟨src, hH, _, _⟩ := h0
  have l0 := rd_bad hH
  refine CA.go (fn := Tryd.f90) (vs := [_]) (by kernel_rfl) rfl (.inr rfl) ?_
  apply Exists.intro
  apply And.intro
  · dsimp only [Tryd.f90]
    dsimp only [List.length_cons, List.length_nil, List.cons_append, List.nil_append, Nat.reduceSub, Nat.reduceAdd, List.replicate]
    refine RU.seq RU.rg ?_
    refine RU.seq (RU.seq RU.rg (RU.condF rfl RU.skip)) ?_
    refine RU.seq RU.rg ?_
    exact RU.ret
  · rfl
theorem rd_done_bad {A : Nat → Prop} {H : Heap} {rb : Nat} {nn : Bool} (R : Room A H rb) (h0 : RdAt A tR H rb nn none) : CA P NS 90 [.p rb 0] H (.e, H) := by
  have hH : H[rb]? = some (.cells tR .vr [.s0, .b true]) := h0
  have l0 := rd_bad hH
  have l1 := R.ldErr
  refine CA.go (fn := Tryd.f90) (vs := [_]) (by kernel_rfl) rfl (.inr rfl) ?_
  apply Exists.intro
  apply And.intro
  · dsimp only [Tryd.f90]
    dsimp only [List.length_cons, List.length_nil, List.cons_append, List.nil_append, Nat.reduceSub, Nat.reduceAdd, List.replicate]
    refine RU.seq RU.rg ?_
    (apply RU.seqx; rotate_left; focus (simp)); refine RU.seq RU.rg ?_; apply RU.condT rfl
    refine RU.seq RU.rg ?_
    exact RU.ret
  · rfl
end Go.Proofs.YtjncijimikfdnaaDoor.Rd

/-
  TEXTS AND LENGTHS, as kbin reads them.
-/
namespace Go.Proofs.YtjncijimikfdnaaDoor.Rd
set_option linter.constructorNameAsVariable false
set_option linter.unusedVariables false
set_option linter.unusedSimpArgs false
open Go Go.Proofs.YtjncijimikfdnaaDoor.Ax Go.Proofs.YtjncijimikfdnaaDoor.Wire
set_option linter.unusedSimpArgs false
set_option linter.unusedVariables false
set_option maxRecDepth 100000
set_option maxHeartbeats 1000000
theorem cvr_i16_i64 (n : Int) (h : inI 2 n) : convA P 42 3 (.i .i16 n) = some (.i .i64 n) := by
  have e : convA P 42 3 (.i .i16 n) = some (.i .i64 (IntKind.i64.wrap n)) := by kernel_rfl
  have h1 := h.1
  have h2 := h.2
  simp at h1 h2
  rw [e]
  simp [IntKind.wrap, IntKind.signed, IntKind.bits]
  split <;> omega
theorem cvr_i32_i64 (n : Int) (h : inI 4 n) : convA P 21 3 (.i .i32 n) = some (.i .i64 n) := by
  have e : convA P 21 3 (.i .i32 n) = some (.i .i64 (IntKind.i64.wrap n)) := by kernel_rfl
  have h1 := h.1
  have h2 := h.2
  simp at h1 h2
  rw [e]
  simp [IntKind.wrap, IntKind.signed, IntKind.bits]
  split <;> omega
theorem cvB_str (a : AV) (h : a = .s0 ∨ a = .se ∨ ∃ i o n, a = .sl i o n) : convA P 22 9 a = none := by
  rcases h with rfl | rfl | ⟨i, o, n, rfl⟩ <;> kernel_rfl
theorem strA_eq (H : Heap) (a : AV) : strA P H 22 9 a = (strOf H a).map .s := by kernel_rfl
theorem BytesAt.sl_of {A : Nat → Prop} {H : Heap} {av : AV} {bs : B} (h : BytesAt A H av bs) : av = .s0 ∨ av = .se ∨ ∃ i o n, av = .sl i o n := by
  cases h with
  | z => exact .inl rfl
  | e => exact .inr (.inl rfl)
  | s => exact .inr (.inr ⟨_, _, _, rfl⟩)
theorem inI20 : inI 2 0 := by simp [inI]
theorem rdv_i16 (flex null : Bool) : RdV 96 flex .i16 null where
  good A H rb nn bs v r R h hd := by
    simp only [decK, Option.map_eq_some_iff] at hd
    obtain ⟨⟨n, r1⟩, hi, hh⟩ := hd
    simp at hh
    obtain ⟨rfl, rfl⟩ := hh
    obtain ⟨H1, c1, R1, k1⟩ := rd_int16.good A H rb nn bs n r1 R h hi
    exact ⟨_, H1, c1, rfl, rfl, rfl, R1, k1⟩
  bad A H rb nn st R h hd := by
    have hi : st.bind (rdI (K.size .i16)) = none := by
      cases st with
      | none => rfl
      | some bs => simpa [decK] using hd
    obtain ⟨H1, c1, R1, k1⟩ := rd_int16.bad A H rb nn st R h hi
    exact ⟨_, H1, c1, rfl, rfl, R1, k1⟩
theorem rdv_i32 (flex null : Bool) : RdV 88 flex .i32 null where
  good A H rb nn bs v r R h hd := by
    simp only [decK, Option.map_eq_some_iff] at hd
    obtain ⟨⟨n, r1⟩, hi, hh⟩ := hd
    simp at hh
    obtain ⟨rfl, rfl⟩ := hh
    obtain ⟨H1, c1, R1, k1⟩ := rd_int32.good A H rb nn bs n r1 R h hi
    exact ⟨_, H1, c1, rfl, rfl, rfl, R1, k1⟩
  bad A H rb nn st R h hd := by
    have hi : st.bind (rdI (K.size .i32)) = none := by
      cases st with
      | none => rfl
      | some bs => simpa [decK] using hd
    obtain ⟨H1, c1, R1, k1⟩ := rd_int32.bad A H rb nn st R h hi
    exact ⟨_, H1, c1, rfl, rfl, R1, k1⟩
theorem rddone : RdDone 90 := ⟨fun A H rb nn st R h => by
  cases st with
  | none => exact rd_done_bad R h
  | some bs => exact rd_done_good h⟩
end Go.Proofs.YtjncijimikfdnaaDoor.Rd

/-
  HOW LONG: what is written of what was read is no longer than that. Plain Lean: no program here.
-/
namespace Go.Proofs.YtjncijimikfdnaaDoor.Wire
set_option linter.constructorNameAsVariable false
set_option linter.unusedVariables false
set_option linter.unusedSimpArgs false

theorem uvd_len : ∀ (k : Nat) {p r : B} {n : Nat}, uvd k p = some (n, r) → (uv n).length + r.length ≤ p.length
  | _, [], r, n, h => by simp [uvd] at h
  | 0, b :: p, r, n, h => by
    simp only [uvd] at h
    split at h
    · simp at h
      obtain ⟨rfl, rfl⟩ := h
      rename_i hb
      rw [uv, dif_pos (by omega)]
      simp
      omega
    · cases h
  | k + 1, b :: p, r, n, h => by
    simp only [uvd] at h
    split at h
    · simp at h
      obtain ⟨rfl, rfl⟩ := h
      rename_i hb
      rw [uv, dif_pos hb]
      simp
      omega
    · rename_i hb
      simp only [Option.map_eq_some_iff] at h
      obtain ⟨⟨m, r'⟩, h1, h2⟩ := h
      simp at h2
      obtain ⟨rfl, rfl⟩ := h2
      have ih := uvd_len k h1
      have hb2 := u8_lt b
      rw [uv]
      split
      · rename_i hlt
        have : 1 ≤ (uv m).length := uv_pos m
        simp; omega
      · rename_i hlt
        have : (b.toNat - 128 + 128 * m) / 128 = m := by omega
        rw [this]
        simp; omega
theorem rdV_len {p r : B} {n : Nat} (h : rdV p = some (n, r)) : (uv n).length + r.length ≤ p.length := uvd_len 4 h
theorem uv_mono : ∀ (b a : Nat), a ≤ b → (uv a).length ≤ (uv b).length := by
  intro b
  induction b using Nat.strongRecOn with
  | ind b ih =>
    intro a hab
    rw [uv]
    split
    · simp; exact uv_pos b
    · rename_i ha
      have hb : uv b = UInt8.ofNat (b % 128 + 128) :: uv (b / 128) := by rw [uv.eq_1 b, dif_neg (by omega)]
      rw [hb]
      simp
      exact ih (b / 128) (by omega) (a / 128) (Nat.div_le_div_right hab)
theorem rdI_len {s : Nat} {p r : B} {n : Int} (h : rdI s p = some (n, r)) : s + r.length = p.length := by
  unfold rdI at h
  simp only [Option.map_eq_some_iff] at h
  obtain ⟨⟨a, b⟩, h1, h2⟩ := h
  simp at h2
  obtain ⟨hl, rfl⟩ := cut_len h1
  rw [← h2.2]; simp [hl]
theorem rdU_len {s : Nat} {p r : B} {n : Int} (h : rdU s p = some (n, r)) : s + r.length = p.length := by
  unfold rdU at h
  simp only [Option.map_eq_some_iff] at h
  obtain ⟨⟨a, b⟩, h1, h2⟩ := h
  simp at h2
  obtain ⟨hl, rfl⟩ := cut_len h1
  rw [← h2.2]; simp [hl]
theorem rdC_len {flex : Bool} {s : Nat} {p r : B} {l : Int} (h : rdC flex s p = some (l, r)) : (l < 0 → (cnt0 flex s).length + r.length ≤ p.length) ∧ (∀ n : Nat, l = n → (cnt flex s n).length + r.length ≤ p.length) ∧ (cnt flex s 0).length + r.length ≤ p.length := by
  unfold rdC at h
  split at h
  · rename_i hf
    simp only [Option.map_eq_some_iff] at h
    obtain ⟨⟨n, r'⟩, h1, h2⟩ := h
    simp at h2
    obtain ⟨rfl, rfl⟩ := h2
    have hl := rdV_len h1
    have hp := uv_pos n
    have h1' : (uv 1).length = 1 := by rw [uv, dif_pos (by omega)]; rfl
    refine ⟨fun _ => ?_, fun m hm => ?_, ?_⟩
    · simp only [cnt0, hf, if_true, List.length_singleton]; omega
    · have : n = m + 1 := by omega
      simp only [cnt, hf, if_true]
      rw [← this]; exact hl
    · simp only [cnt, hf, if_true, Nat.zero_add]
      rw [h1']; omega
  · rename_i hf
    have hl := rdI_len h
    have hf : flex = false := by simpa using hf
    subst hf
    refine ⟨fun _ => ?_, fun m hm => ?_, ?_⟩ <;> simp only [cnt0, cnt, Bool.false_eq_true, if_false, be_length] <;> omega
theorem decK_len {flex : Bool} {k : K} {null : Bool} {v : V} {p r : B} (h : decK flex k null p = some (v, r)) : (encK flex k v).length + r.length ≤ p.length := by
  have num : ∀ (k : K) {s : Nat}, (∀ n, encK flex k (.i n) = be s n) → ∀ {n : Int} {r' : B}, (rdI s p = some (n, r') ∨ rdU s p = some (n, r')) → v = .i n → r' = r → (encK flex k v).length + r.length ≤ p.length := by
    intro k s he n r' h1 h2 h3
    subst h2 h3
    rw [he, be_length]
    rcases h1 with h1 | h1
    · exact Nat.le_of_eq (rdI_len h1)
    · exact Nat.le_of_eq (rdU_len h1)
  have txt : ∀ (s : Nat), (((rdC flex s p).bind fun (l, r) => if null && l < 0 then some (V.nul, r) else (rdS l r).map fun (h, r) => (V.s h, r)) = some (v, r)) → (v = .nul ∧ (cnt0 flex s).length + r.length ≤ p.length) ∨ ∃ x, v = .s x ∧ (cnt flex s x.length).length + x.length + r.length ≤ p.length := by
    intro s h
    cases hc : rdC flex s p with
    | none => rw [hc] at h; cases h
    | some q =>
      obtain ⟨l, r1⟩ := q
      rw [hc] at h
      simp only [Option.bind_some] at h
      obtain ⟨h1, h2, h3⟩ := rdC_len hc
      split at h
      · rename_i hn
        simp at h
        obtain ⟨rfl, rfl⟩ := h
        simp at hn
        exact .inl ⟨rfl, h1 hn.2⟩
      · simp only [Option.map_eq_some_iff] at h
        obtain ⟨⟨x, r2⟩, hs, hh⟩ := h
        simp at hh
        obtain ⟨rfl, rfl⟩ := hh
        obtain ⟨hx, rfl⟩ := rdS_len hs
        have := h2 x.length hx.symm
        simp at this
        exact .inr ⟨x, rfl, by omega⟩
  cases k with
  | bool =>
    simp only [decK, Option.map_eq_some_iff] at h
    obtain ⟨⟨a, b⟩, h1, h2⟩ := h
    simp at h2
    obtain ⟨hl, rfl⟩ := cut_len h1
    rw [← h2.1, ← h2.2]
    simp [encK, hl]
    try omega
  | uuid =>
    simp only [decK, Option.map_eq_some_iff] at h
    obtain ⟨⟨a, b⟩, h1, h2⟩ := h
    simp at h2
    obtain ⟨hl, rfl⟩ := cut_len h1
    rw [← h2.1, ← h2.2]
    simp [encK]
  | u16 =>
    simp only [decK, Option.map_eq_some_iff] at h
    obtain ⟨⟨a, b⟩, h1, h2⟩ := h
    simp at h2
    exact num .u16 (s := 2) (fun n => rfl) (.inr h1) h2.1.symm h2.2
  | f64 =>
    simp only [decK, Option.map_eq_some_iff] at h
    obtain ⟨⟨a, b⟩, h1, h2⟩ := h
    simp at h2
    exact num .f64 (s := 8) (fun n => rfl) (.inr h1) h2.1.symm h2.2
  | i8 =>
    simp only [decK, Option.map_eq_some_iff] at h
    obtain ⟨⟨a, b⟩, h1, h2⟩ := h
    simp at h2
    exact num .i8 (s := 1) (fun n => rfl) (.inl h1) h2.1.symm h2.2
  | i16 =>
    simp only [decK, Option.map_eq_some_iff] at h
    obtain ⟨⟨a, b⟩, h1, h2⟩ := h
    simp at h2
    exact num .i16 (s := 2) (fun n => rfl) (.inl h1) h2.1.symm h2.2
  | i32 =>
    simp only [decK, Option.map_eq_some_iff] at h
    obtain ⟨⟨a, b⟩, h1, h2⟩ := h
    simp at h2
    exact num .i32 (s := 4) (fun n => rfl) (.inl h1) h2.1.symm h2.2
  | i64 =>
    simp only [decK, Option.map_eq_some_iff] at h
    obtain ⟨⟨a, b⟩, h1, h2⟩ := h
    simp at h2
    exact num .i64 (s := 8) (fun n => rfl) (.inl h1) h2.1.symm h2.2
  | str =>
    rcases txt 2 h with ⟨rfl, h2⟩ | ⟨x, rfl, h2⟩
    · exact h2
    · show (cnt flex 2 x.length ++ x).length + r.length ≤ p.length
      simp; omega
  | bytes =>
    simp only [decK] at h
    cases hc : rdC flex 4 p with
    | none => rw [hc] at h; cases h
    | some q =>
      obtain ⟨l, r1⟩ := q
      rw [hc] at h
      simp only [Option.bind_some] at h
      obtain ⟨h1, h2, h3⟩ := rdC_len hc
      split at h
      · rename_i hn
        simp at h
        obtain ⟨rfl, rfl⟩ := h
        simp at hn
        exact h1 hn.2
      · split at h
        · simp at h
          obtain ⟨rfl, rfl⟩ := h
          show (cnt flex 4 0 ++ []).length + r1.length ≤ p.length
          rw [List.append_nil]; exact h3
        · simp only [Option.map_eq_some_iff] at h
          obtain ⟨⟨x, r2⟩, hs, hh⟩ := h
          simp at hh
          obtain ⟨rfl, rfl⟩ := hh
          obtain ⟨hx, rfl⟩ := rdS_len hs
          have := h2 x.length hx.symm
          show (cnt flex 4 x.length ++ x).length + r2.length ≤ p.length
          simp at this ⊢; omega
theorem rdL_len {flex : Bool} {p r : B} {l : Int} (h : rdL flex p = some (l, r)) : (cnt0 flex 4).length + r.length ≤ p.length ∧ (cnt flex 4 l.toNat).length + r.length ≤ p.length := by
  unfold rdL at h
  split at h
  · rename_i hf
    cases hv : rdV p with
    | none => rw [hv] at h; cases h
    | some q =>
      obtain ⟨n, r1⟩ := q
      rw [hv] at h
      simp only [Option.map_some, Option.bind_some] at h
      split at h
      · cases h
      · simp at h
        obtain ⟨rfl, rfl⟩ := h
        have hl := rdV_len hv
        have hp := uv_pos n
        have hn := rdV_lt hv
        have h1' : (uv 1).length = 1 := by rw [uv, dif_pos (by omega)]; rfl
        refine ⟨by simp only [cnt0, hf, if_true, List.length_singleton]; omega, ?_⟩
        simp only [cnt, hf, if_true]
        have key : (sgn 4 (((sgn 4 n) - 1) % 4294967296).toNat).toNat + 1 ≤ n ∨ (sgn 4 (((sgn 4 n) - 1) % 4294967296).toNat).toNat = 0 := by
          unfold sgn
          simp only [Nat.reduceMul, Nat.reduceSub, Nat.reducePow]
          split <;> split <;> omega
        rcases key with hk | hk
        · have := uv_mono n _ hk
          omega
        · rw [hk]; simp only [Nat.zero_add]; omega
  · rename_i hf
    have hf : flex = false := by simpa using hf
    subst hf
    cases hv : rdI 4 p with
    | none => rw [hv] at h; cases h
    | some q =>
      obtain ⟨n, r1⟩ := q
      rw [hv] at h
      simp only [Option.bind_some] at h
      split at h
      · cases h
      · simp at h
        obtain ⟨rfl, rfl⟩ := h
        have hl := rdI_len hv
        simp only [cnt0, cnt, Bool.false_eq_true, if_false, be_length]
        omega
theorem many_len {d : B → Option (V × B)} {e : V → B} (hd : ∀ {p r : B} {v : V}, d p = some (v, r) → (e v).length + r.length ≤ p.length) : ∀ (n : Nat) {p r : B} {vs : List V}, many d n p = some (vs, r) → (vs.flatMap e).length + r.length ≤ p.length
  | 0, p, r, vs, h => by simp [many] at h; obtain ⟨rfl, rfl⟩ := h; simp
  | n + 1, p, r, vs, h => by
    simp only [many] at h
    cases hq : d p with
    | none => rw [hq] at h; cases h
    | some q =>
      obtain ⟨v, r1⟩ := q
      rw [hq] at h
      simp only [Option.bind_some, Option.map_eq_some_iff] at h
      obtain ⟨⟨us, r2⟩, h1, h2⟩ := h
      simp at h2
      obtain ⟨rfl, rfl⟩ := h2
      have a := hd hq
      have b := many_len hd n h1
      rw [List.flatMap_cons, List.length_append]
      omega
theorem put_enc (k : Nat) (v : B) : ∀ (ts : List (Nat × B)), (encT (put k v ts)).length ≤ (encT ts).length + ((uv k).length + ((uv v.length).length + v.length))
  | [] => by simp [put, encT]
  | (k', v') :: r => by
    unfold put
    split
    · simp [encT]; omega
    · split
      · simp [encT]; omega
      · have := put_enc k v r
        simp only [encT, List.flatMap_cons, List.length_append] at this ⊢
        omega
theorem decT_len : ∀ (n : Nat) {ts us : List (Nat × B)} {p r : B}, decT n ts p = some (us, r) → (encT us).length + r.length ≤ (encT ts).length + p.length
  | 0, ts, us, p, r, h => by simp [decT] at h; obtain ⟨rfl, rfl⟩ := h; omega
  | n + 1, ts, us, p, r, h => by
    simp only [decT] at h
    cases hk : rdV p with
    | none => rw [hk] at h; cases h
    | some q =>
      obtain ⟨k, r1⟩ := q
      rw [hk] at h
      simp only [Option.bind_some] at h
      cases hl : rdV r1 with
      | none => rw [hl] at h; cases h
      | some q =>
        obtain ⟨l, r2⟩ := q
        rw [hl] at h
        simp only [Option.bind_some] at h
        cases hc : cut l r2 with
        | none => rw [hc] at h; cases h
        | some q =>
          obtain ⟨x, r3⟩ := q
          rw [hc] at h
          simp only [Option.bind_some] at h
          have ih := decT_len n h
          have a := rdV_len hk
          have b := rdV_len hl
          obtain ⟨hx, rfl⟩ := cut_len hc
          have c := put_enc k x ts
          rw [hx] at c
          simp at b
          omega
/-- What is written of what was read is no longer. -/
theorem dec_len {flex : Bool} : ∀ {f : F} {v : V} {p r : B}, dec flex f p = some (v, r) → (enc flex f v).length + r.length ≤ p.length
  | .nil, v, p, r, h => by simp [dec] at h; obtain ⟨rfl, rfl⟩ := h; simp [enc]
  | .leaf o k n f, v, p, r, h => by
    simp only [dec] at h
    cases hk : decK flex k n p with
    | none => rw [hk] at h; cases h
    | some q =>
      obtain ⟨x, r1⟩ := q
      rw [hk] at h
      simp only [Option.bind_some, Option.map_eq_some_iff] at h
      obtain ⟨⟨w, r2⟩, h1, h2⟩ := h
      simp at h2
      obtain ⟨rfl, rfl⟩ := h2
      have a := decK_len hk
      have b := dec_len h1
      simp only [enc, List.length_append]
      omega
  | .list o sz n e f, v, p, r, h => by
    simp only [dec] at h
    cases hk : rdL flex p with
    | none => rw [hk] at h; cases h
    | some q =>
      obtain ⟨l, r1⟩ := q
      rw [hk] at h
      simp only [Option.bind_some] at h
      obtain ⟨g1, g2⟩ := rdL_len hk
      split at h
      · simp only [Option.bind_some, Option.map_eq_some_iff] at h
        obtain ⟨⟨w, r2⟩, h1, h2⟩ := h
        simp at h2
        obtain ⟨rfl, rfl⟩ := h2
        have b := dec_len h1
        simp only [enc, List.length_append]
        omega
      · cases hm : many (dec flex e) l.toNat r1 with
        | none => rw [hm] at h; cases h
        | some q =>
          obtain ⟨us, r2⟩ := q
          rw [hm] at h
          simp only [Option.map_some, Option.bind_some, Option.map_eq_some_iff] at h
          obtain ⟨⟨w, r3⟩, h1, h2⟩ := h
          simp at h2
          obtain ⟨rfl, rfl⟩ := h2
          have a := many_len (d := dec flex e) (e := enc flex e) (fun h => dec_len h) _ hm
          have b := dec_len h1
          have hu := (many_ok _ hm).1
          simp only [enc, List.length_append]
          rw [hu]
          omega
  | .tags o f, v, p, r, h => by
    simp only [dec] at h
    cases hk : rdV p with
    | none => rw [hk] at h; cases h
    | some q =>
      obtain ⟨n, r1⟩ := q
      rw [hk] at h
      simp only [Option.bind_some] at h
      cases hm : decT n [] r1 with
      | none => rw [hm] at h; cases h
      | some q =>
        obtain ⟨ts, r2⟩ := q
        rw [hm] at h
        simp only [Option.bind_some, Option.map_eq_some_iff] at h
        obtain ⟨⟨w, r3⟩, h1, h2⟩ := h
        simp at h2
        obtain ⟨rfl, rfl⟩ := h2
        have a := rdV_len hk
        have b := decT_len n hm
        have c := dec_len h1
        have d := (decT_ok n hm trivial).2
        have e := uv_mono n ts.length (by simpa using d)
        have f0 : (encT []).length = 0 := rfl
        simp only [enc, List.length_append]
        omega
end Go.Proofs.YtjncijimikfdnaaDoor.Wire

