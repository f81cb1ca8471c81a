/-
  MORE LEAVES, as kbin writes them.
-/
import Derived.Test.YtdanlkiojkimaaaGreatDoorQApUv
import Derived.Test.YtdanlkiojkimaaaGreatDoorQApKit
set_option linter.constructorNameAsVariable false
set_option linter.unusedVariables false
set_option linter.unusedSimpArgs false
namespace Go.Proofs.YtdanlkiojkimaaaGreatDoor.Rd
open Go Go.Proofs.YtdanlkiojkimaaaGreatDoor.Ax Go.Proofs.YtdanlkiojkimaaaGreatDoor.Wire
set_option maxRecDepth 100000
set_option maxHeartbeats 1000000
theorem wk_kt {L0 : Nat} {H H' : Heap} (k : WKeep L0 H H') : KT (fun i => i < L0) H (fun i => i < L0) H' := ⟨k.len, fun i b hi hx => ⟨hi, (k.at_ i hi).trans hx⟩⟩
theorem bytes_noS {A : Nat → Prop} {H : Heap} {av : AV} {x : B} (h : BytesAt A H av x) : av.isS = false := by cases h <;> rfl
theorem apk_u16 (flex null : Bool) : ApK 145 flex .u16 null := ⟨fun L0 H out bs av v hL ho hr hk hb => by
  cases v <;> simp only [RepK] at hr <;> first | exact hr.elim | skip
  rename_i n
  subst hr
  have he : encK flex .u16 (.i n) = be 2 n := rfl
  rw [he, be_length] at hb
  exact ap_u16 hL ho hb⟩
theorem bool_t {H H1 H2 : Heap} {out x out' : AV} (hbl : buildSliceA P H 22 1 [(0, .i .u8 1)] = some (x, H1)) (hx : x.isS = false) (ha : appendA P H1 22 false out x = some (out', H2)) :
    CA P NS 99 [out, .b true] H (out', H2) := by
  refine CA.go (fn := Tryz.f99) (vs := [_]) (by kernel_rfl) rfl (.inr rfl) ?_
  apply Exists.intro
  apply And.intro
  · dsimp only [Tryz.f99]
    dsimp only [List.length_cons, List.length_nil, List.cons_append, List.nil_append, Nat.reduceSub, Nat.reduceAdd, List.replicate]
    refine RU.seq RU.rg ?_
    (apply RU.seqx; rotate_left; focus (simp)); refine RU.seq RU.rg ?_; apply RU.condT rfl
    refine RU.seq RU.rg ?_
    exact RU.ret
  · rfl
theorem bool_f {H H1 H2 : Heap} {out x out' : AV} (hbl : buildSliceA P H 22 1 [(0, .i .u8 0)] = some (x, H1)) (hx : x.isS = false) (ha : appendA P H1 22 false out x = some (out', H2)) :
    CA P NS 99 [out, .b false] H (out', H2) := by
  refine CA.go (fn := Tryz.f99) (vs := [_]) (by kernel_rfl) rfl (.inr rfl) ?_
  apply Exists.intro
  apply And.intro
  · dsimp only [Tryz.f99]
    dsimp only [List.length_cons, List.length_nil, List.cons_append, List.nil_append, Nat.reduceSub, Nat.reduceAdd, List.replicate]
    refine RU.seq RU.rg ?_
    refine RU.seq (RU.seq RU.rg (RU.condF rfl RU.skip)) ?_
    refine RU.seq RU.rg ?_
    exact RU.ret
  · rfl
theorem apk_bool (flex null : Bool) : ApK 99 flex .bool null := ⟨fun L0 H out bs av v hL ho hr hk hb => by
  cases v <;> simp only [RepK] at hr <;> first | exact hr.elim | skip
  rename_i x
  subst hr
  have he : encK flex .bool (.b x) = [if x then 1 else 0] := rfl
  rw [he] at hb ⊢
  have hfi := first_new H 5 [if x then 1 else 0] (by simp)
  obtain ⟨out', H', ha, h1, h2⟩ := ap_bytes (str := false) (x := .sl H.length 0 1) (new := [if x then 1 else 0]) (by simp; omega) (ho.app [.cells 5 .row (u8s [if x then 1 else 0])]) hfi hb
  refine ⟨out', H', ?_, h1, (WKeep.app L0 H _ hL).trans h2⟩
  cases x with
  | true => exact bool_t (build_1 H 1) rfl ha
  | false => exact bool_f (build_1 H 0) rfl ha⟩
theorem be8 (n : Int) : be 8 n = [UInt8.ofNat ((n / 72057594037927936) % 256).toNat, UInt8.ofNat ((n / 281474976710656) % 256).toNat, UInt8.ofNat ((n / 1099511627776) % 256).toNat, UInt8.ofNat ((n / 4294967296) % 256).toNat, UInt8.ofNat ((n / 16777216) % 256).toNat, UInt8.ofNat ((n / 65536) % 256).toNat, UInt8.ofNat ((n / 256) % 256).toNat, UInt8.ofNat (n % 256).toNat] := by simp [be]
theorem be8_wrap (n : Int) : be 8 (IntKind.u64.wrap n) = be 8 n := by
  have e : IntKind.u64.wrap n = n % 18446744073709551616 := by simp [IntKind.wrap, IntKind.signed, IntKind.bits]
  rw [e, be8, be8]
  have h1 : n % 18446744073709551616 / 72057594037927936 % 256 = n / 72057594037927936 % 256 := by omega
  have h2 : n % 18446744073709551616 / 281474976710656 % 256 = n / 281474976710656 % 256 := by omega
  have h3 : n % 18446744073709551616 / 1099511627776 % 256 = n / 1099511627776 % 256 := by omega
  have h4 : n % 18446744073709551616 / 4294967296 % 256 = n / 4294967296 % 256 := by omega
  have h5 : n % 18446744073709551616 / 16777216 % 256 = n / 16777216 % 256 := by omega
  have h6 : n % 18446744073709551616 / 65536 % 256 = n / 65536 % 256 := by omega
  have h7 : n % 18446744073709551616 / 256 % 256 = n / 256 % 256 := by omega
  have h8 : n % 18446744073709551616 % 256 = n % 256 := by omega
  rw [h1, h2, h3, h4, h5, h6, h7, h8]
theorem cv_u64_8 (m : Int) : convA P 86 5 (.i .u64 m) = some (U8 (UInt8.ofNat (m % 256).toNat)) := by rw [← U8_wrap]; kernel_rfl
theorem build_8 (H : Heap) (b0 b1 b2 b3 b4 b5 b6 b7 : UInt8) : buildSliceA P H 22 8 [(0, U8 b0), (1, U8 b1), (2, U8 b2), (3, U8 b3), (4, U8 b4), (5, U8 b5), (6, U8 b6), (7, U8 b7)] = some (.sl H.length 0 8, H ++ [.cells 5 .row (u8s [b0, b1, b2, b3, b4, b5, b6, b7])]) := by kernel_rfl
theorem ap_u64_run {L0 : Nat} {H : Heap} {out : AV} {bs : B} {n n0 n1 n2 n3 n4 n5 n6 : Int} {b0 b1 b2 b3 b4 b5 b6 b7 : UInt8} (hL : L0 ≤ H.length) (ho : OutAt L0 H out bs) (hb : bs.length + 8 ≤ 1099511627776)
    (s0 : binA P .shr 86 true (.i .u64 n) (.i .u64 56) = some (.i .u64 n0)) (c0 : convA P 86 5 (.i .u64 n0) = some (U8 b0))
    (s1 : binA P .shr 86 true (.i .u64 n) (.i .u64 48) = some (.i .u64 n1)) (c1 : convA P 86 5 (.i .u64 n1) = some (U8 b1))
    (s2 : binA P .shr 86 true (.i .u64 n) (.i .u64 40) = some (.i .u64 n2)) (c2 : convA P 86 5 (.i .u64 n2) = some (U8 b2))
    (s3 : binA P .shr 86 true (.i .u64 n) (.i .u64 32) = some (.i .u64 n3)) (c3 : convA P 86 5 (.i .u64 n3) = some (U8 b3))
    (s4 : binA P .shr 86 true (.i .u64 n) (.i .u64 24) = some (.i .u64 n4)) (c4 : convA P 86 5 (.i .u64 n4) = some (U8 b4))
    (s5 : binA P .shr 86 true (.i .u64 n) (.i .u64 16) = some (.i .u64 n5)) (c5 : convA P 86 5 (.i .u64 n5) = some (U8 b5))
    (s6 : binA P .shr 86 true (.i .u64 n) (.i .u64 8) = some (.i .u64 n6)) (c6 : convA P 86 5 (.i .u64 n6) = some (U8 b6))
    (c7 : convA P 86 5 (.i .u64 n) = some (U8 b7)) :
    ∃ out' H', CA P NS 131 [out, .i .u64 n] H (out', H') ∧ OutAt L0 H' out' (bs ++ [b0, b1, b2, b3, b4, b5, b6, b7]) ∧ WKeep L0 H H' := by
  have hbl := build_8 H b0 b1 b2 b3 b4 b5 b6 b7
  have hfi := first_new H 5 [b0, b1, b2, b3, b4, b5, b6, b7] (by simp)
  obtain ⟨out', H', ha, h1, h2⟩ := ap_bytes (str := false) (x := .sl H.length 0 8) (new := [b0, b1, b2, b3, b4, b5, b6, b7]) (by simp; omega) (ho.app [.cells 5 .row (u8s [b0, b1, b2, b3, b4, b5, b6, b7])]) hfi (by simpa using hb)
  refine ⟨out', H', ?_, h1, (WKeep.app L0 H _ hL).trans h2⟩
  generalize H ++ [Blk.cells 5 Kn.row (u8s [b0, b1, b2, b3, b4, b5, b6, b7])] = H1 at hbl ha
  refine CA.go (fn := Tryz.f131) (vs := [_]) (by kernel_rfl) rfl (.inr rfl) ?_
  apply Exists.intro
  apply And.intro
  · dsimp only [Tryz.f131]
    dsimp only [List.length_cons, List.length_nil, List.cons_append, List.nil_append, Nat.reduceSub, Nat.reduceAdd, List.replicate]
    refine RU.seq RU.rg ?_
    (apply RU.seq; focus (apply RU.region; refine OS.st rfl rfl ?_ (op_move rfl); dsimp only [AV.cells, putA, List.set_cons_zero, List.set_cons_succ]; refine OS.st rfl rfl ?_ (op_move rfl); dsimp only [AV.cells, putA, List.set_cons_zero, List.set_cons_succ]; refine OS.st rfl rfl ?_ (op_bin (c := true) rfl rfl rfl s0); dsimp only [AV.cells, putA, List.set_cons_zero, List.set_cons_succ]; refine OS.st rfl rfl ?_ (op_conv rfl c0); dsimp only [AV.cells, putA, List.set_cons_zero, List.set_cons_succ]; refine OS.st rfl rfl ?_ (op_move rfl); dsimp only [AV.cells, putA, List.set_cons_zero, List.set_cons_succ]; refine OS.st rfl rfl ?_ (op_bin (c := true) rfl rfl rfl s1); dsimp only [AV.cells, putA, List.set_cons_zero, List.set_cons_succ]; refine OS.st rfl rfl ?_ (op_conv rfl c1); dsimp only [AV.cells, putA, List.set_cons_zero, List.set_cons_succ]; refine OS.st rfl rfl ?_ (op_move rfl); dsimp only [AV.cells, putA, List.set_cons_zero, List.set_cons_succ]; refine OS.st rfl rfl ?_ (op_bin (c := true) rfl rfl rfl s2); dsimp only [AV.cells, putA, List.set_cons_zero, List.set_cons_succ]; refine OS.st rfl rfl ?_ (op_conv rfl c2); dsimp only [AV.cells, putA, List.set_cons_zero, List.set_cons_succ]; refine OS.st rfl rfl ?_ (op_move rfl); dsimp only [AV.cells, putA, List.set_cons_zero, List.set_cons_succ]; refine OS.st rfl rfl ?_ (op_bin (c := true) rfl rfl rfl s3); dsimp only [AV.cells, putA, List.set_cons_zero, List.set_cons_succ]; refine OS.st rfl rfl ?_ (op_conv rfl c3); dsimp only [AV.cells, putA, List.set_cons_zero, List.set_cons_succ]; refine OS.st rfl rfl ?_ (op_move rfl); dsimp only [AV.cells, putA, List.set_cons_zero, List.set_cons_succ]; refine OS.st rfl rfl ?_ (op_bin (c := true) rfl rfl rfl s4); dsimp only [AV.cells, putA, List.set_cons_zero, List.set_cons_succ]; refine OS.st rfl rfl ?_ (op_conv rfl c4); dsimp only [AV.cells, putA, List.set_cons_zero, List.set_cons_succ]; refine OS.st rfl rfl ?_ (op_move rfl); dsimp only [AV.cells, putA, List.set_cons_zero, List.set_cons_succ]; refine OS.st rfl rfl ?_ (op_bin (c := true) rfl rfl rfl s5); dsimp only [AV.cells, putA, List.set_cons_zero, List.set_cons_succ]; refine OS.st rfl rfl ?_ (op_conv rfl c5); dsimp only [AV.cells, putA, List.set_cons_zero, List.set_cons_succ]; refine OS.st rfl rfl ?_ (op_move rfl); dsimp only [AV.cells, putA, List.set_cons_zero, List.set_cons_succ]; refine OS.st rfl rfl ?_ (op_bin (c := true) rfl rfl rfl s6); dsimp only [AV.cells, putA, List.set_cons_zero, List.set_cons_succ]; refine OS.st rfl rfl ?_ (op_conv rfl c6); dsimp only [AV.cells, putA, List.set_cons_zero, List.set_cons_succ]; refine OS.st rfl rfl ?_ (op_move rfl); dsimp only [AV.cells, putA, List.set_cons_zero, List.set_cons_succ]; refine OS.st rfl rfl ?_ (op_conv rfl c7); dsimp only [AV.cells, putA, List.set_cons_zero, List.set_cons_succ]; refine OS.st rfl rfl ?_ (op_buildSlice rfl hbl); dsimp only [AV.cells, putA, List.set_cons_zero, List.set_cons_succ]; refine OS.st rfl rfl ?_ (op_append rfl rfl rfl elemBs rfl ha); dsimp only [AV.cells, putA, List.set_cons_zero, List.set_cons_succ]; refine OS.st rfl rfl ?_ (op_assign rfl); dsimp only [AV.cells, putA, List.set_cons_zero, List.set_cons_succ]; exact OS.nil))
    exact RU.ret
  · rfl
theorem shr_p (t : TypeId) (c : Bool) (a : Int) (n : Nat) (hn : n ≤ 64) (m : Int) (hm : (2 : Int) ^ n = m) : binA P .shr t c (.i .u64 a) (.i .u64 (n : Int)) = some (.i .u64 (a / m)) := by rw [shr t .u64 c a n hn, hm]
theorem ap_u64 {L0 : Nat} {H : Heap} {out : AV} {bs : B} {n : Int} (hL : L0 ≤ H.length) (ho : OutAt L0 H out bs) (hb : bs.length + 8 ≤ 1099511627776) :
    ∃ out' H', CA P NS 131 [out, .i .u64 n] H (out', H') ∧ OutAt L0 H' out' (bs ++ be 8 n) ∧ WKeep L0 H H' := by
  rw [be8]
  exact ap_u64_run hL ho hb (shr_p _ _ _ 56 (by omega) 72057594037927936 (by decide)) (cv_u64_8 _) (shr_p _ _ _ 48 (by omega) 281474976710656 (by decide)) (cv_u64_8 _) (shr_p _ _ _ 40 (by omega) 1099511627776 (by decide)) (cv_u64_8 _) (shr_p _ _ _ 32 (by omega) 4294967296 (by decide)) (cv_u64_8 _) (shr_p _ _ _ 24 (by omega) 16777216 (by decide)) (cv_u64_8 _) (shr_p _ _ _ 16 (by omega) 65536 (by decide)) (cv_u64_8 _) (shr_p _ _ _ 8 (by omega) 256 (by decide)) (cv_u64_8 _) (cv_u64_8 n)
theorem cv_i64_u64 (n : Int) : convA P 2 86 (.i .i64 n) = some (.i .u64 (IntKind.u64.wrap n)) := by kernel_rfl
theorem ap_i64_run {H H' : Heap} {out out' : AV} {n m : Int} (hc : convA P 2 86 (.i .i64 n) = some (.i .u64 m)) (c1 : CA P NS 131 [out, .i .u64 m] H (out', H')) :
    CA P NS 81 [out, .i .i64 n] H (out', H') := by
  refine CA.go (fn := Tryz.f81) (vs := [_]) (by kernel_rfl) rfl (.inr rfl) ?_
  apply Exists.intro
  apply And.intro
  · dsimp only [Tryz.f81]
    dsimp only [List.length_cons, List.length_nil, List.cons_append, List.nil_append, Nat.reduceSub, Nat.reduceAdd, List.replicate]
    refine RU.seq RU.rg ?_
    refine RU.seq RU.rg ?_
    exact RU.ret
  · rfl
theorem apk_i64 (flex null : Bool) : ApK 81 flex .i64 null := ⟨fun L0 H out bs av v hL ho hr hk hb => by
  cases v <;> simp only [RepK] at hr <;> first | exact hr.elim | skip
  rename_i n
  subst hr
  have he : encK flex .i64 (.i n) = be 8 n := rfl
  rw [he, be_length] at hb
  obtain ⟨out', H', c1, h1, h2⟩ := ap_u64 (n := IntKind.u64.wrap n) hL ho hb
  rw [be8_wrap] at h1
  exact ⟨out', H', ap_i64_run (cv_i64_u64 n) c1, h1, h2⟩⟩
theorem cv_i64_u32 (n : Nat) (h : n < 4294967296) : convA P 3 73 (.i .i64 (n : Int)) = some (.i .u32 (n : Int)) := by
  have e : convA P 3 73 (.i .i64 (n : Int)) = some (.i .u32 (IntKind.u32.wrap (n : Int))) := by kernel_rfl
  rw [e]
  simp [IntKind.wrap, IntKind.signed, IntKind.bits]; omega
theorem add1u (n : Nat) (h : n + 1 < 4294967296) (c : Bool) : binA P .add 73 c (.i .u32 1) (.i .u32 (n : Int)) = some (.i .u32 ((n + 1 : Nat) : Int)) := by
  have e : binA P .add 73 c (.i .u32 1) (.i .u32 (n : Int)) = some (.i .u32 (IntKind.u32.wrap (1 + (n : Int)))) := by kernel_rfl
  rw [e]
  simp [IntKind.wrap, IntKind.signed, IntKind.bits]; omega
theorem cstr_run {H H1 H2 : Heap} {out out1 out2 x : AV} {n m : Int} (hlen : lenA P 9 x = some (.i .i64 n)) (hc : convA P 3 73 (.i .i64 n) = some (.i .u32 n)) (hd : binA P .add 73 true (.i .u32 1) (.i .u32 n) = some (.i .u32 m)) (c1 : CA P NS 85 [out, .i .u32 m] H (out1, H1)) (ha : appendA P H1 22 true out1 x = some (out2, H2)) :
    CA P NS 90 [out, x] H (out2, H2) := by
  refine CA.go (fn := Tryz.f90) (vs := [_]) (by kernel_rfl) rfl (.inr rfl) ?_
  apply Exists.intro
  apply And.intro
  · dsimp only [Tryz.f90]
    dsimp only [List.length_cons, List.length_nil, List.cons_append, List.nil_append, Nat.reduceSub, Nat.reduceAdd, List.replicate]
    refine RU.seq RU.rg ?_
    refine RU.seq RU.rg ?_
    refine RU.seq RU.rg ?_
    exact RU.ret
  · rfl
theorem ap_cstr {L0 : Nat} {H : Heap} {out : AV} {bs x : B} (hL : L0 ≤ H.length) (ho : OutAt L0 H out bs) (hx : x.length + 1 < 4294967296) (hb : bs.length + ((uv (x.length + 1)).length + x.length) ≤ 1099511627776) :
    ∃ out' H', CA P NS 90 [out, .s (bst x)] H (out', H') ∧ OutAt L0 H' out' (bs ++ (uv (x.length + 1) ++ x)) ∧ WKeep L0 H H' := by
  obtain ⟨out1, H1, c1, h1, k1, _⟩ := ap_uv emp_ns (n := x.length + 1) hL ho hx (by omega)
  obtain ⟨out2, H2, a2, h2, k2⟩ := ap_bytes (str := true) (Nat.le_trans hL k1.len) h1 (first_s H1 x) (by simp only [List.length_append]; omega)
  rw [List.append_assoc] at h2
  have hlen := len_s (bst x)
  have hsz : (bst x).size = x.length := rfl
  rw [hsz] at hlen
  exact ⟨out2, H2, cstr_run hlen (cv_i64_u32 _ (by omega)) (add1u _ hx true) c1 a2, h2, k1.trans k2⟩
theorem apk_cstr : ApK 90 true .str false := ⟨fun L0 H out bs av v hL ho hr hk hb => by
  cases v <;> simp only [RepK] at hr <;> first | exact hr.elim | skip
  · rename_i x
    simp only [Bool.false_eq_true, if_false] at hr
    subst hr
    have he : encK true .str (.s x) = uv (x.length + 1) ++ x := rfl
    rw [he, List.length_append] at hb
    exact ap_cstr hL ho hk hb
  · cases hk⟩
theorem cby_run {H H1 H2 : Heap} {out out1 out2 x : AV} {n m : Int} (hlen : lenA P 22 x = some (.i .i64 n)) (hc : convA P 3 73 (.i .i64 n) = some (.i .u32 n)) (hd : binA P .add 73 true (.i .u32 1) (.i .u32 n) = some (.i .u32 m)) (c1 : CA P NS 85 [out, .i .u32 m] H (out1, H1)) (hx : x.isS = false) (ha : appendA P H1 22 false out1 x = some (out2, H2)) :
    CA P NS 106 [out, x] H (out2, H2) := by
  refine CA.go (fn := Tryz.f106) (vs := [_]) (by kernel_rfl) rfl (.inr rfl) ?_
  apply Exists.intro
  apply And.intro
  · dsimp only [Tryz.f106]
    dsimp only [List.length_cons, List.length_nil, List.cons_append, List.nil_append, Nat.reduceSub, Nat.reduceAdd, List.replicate]
    refine RU.seq RU.rg ?_
    refine RU.seq RU.rg ?_
    refine RU.seq RU.rg ?_
    exact RU.ret
  · rfl
theorem ap_cby {L0 : Nat} {H : Heap} {out av : AV} {bs x : B} (hL : L0 ≤ H.length) (ho : OutAt L0 H out bs) (hx : x.length + 1 < 4294967296) (hr : BytesAt (fun i => i < L0) H av x) (hb : bs.length + ((uv (x.length + 1)).length + x.length) ≤ 1099511627776) :
    ∃ out' H', CA P NS 106 [out, av] H (out', H') ∧ OutAt L0 H' out' (bs ++ (uv (x.length + 1) ++ x)) ∧ WKeep L0 H H' := by
  obtain ⟨out1, H1, c1, h1, k1, _⟩ := ap_uv emp_ns (n := x.length + 1) hL ho hx (by omega)
  obtain ⟨out2, H2, a2, h2, k2⟩ := ap_bytes (str := false) (Nat.le_trans hL k1.len) h1 (BytesAt.first (BytesAt.kt hr (wk_kt k1))) (by simp only [List.length_append]; omega)
  rw [List.append_assoc] at h2
  exact ⟨out2, H2, cby_run (hr.len bty) (cv_i64_u32 _ (by omega)) (add1u _ hx true) c1 (bytes_noS hr) a2, h2, k1.trans k2⟩
theorem apk_cby : ApK 106 true .bytes false := ⟨fun L0 H out bs av v hL ho hr hk hb => by
  cases v <;> simp only [RepK] at hr <;> first | exact hr.elim | skip
  · rename_i x
    have he : encK true .bytes (.s x) = uv (x.length + 1) ++ x := rfl
    rw [he, List.length_append] at hb
    exact ap_cby hL ho hk hr.1 hb
  · cases hk⟩
theorem by_run {H H1 H2 : Heap} {out out1 out2 x : AV} {n m : Int} (hlen : lenA P 22 x = some (.i .i64 n)) (hc : convA P 3 21 (.i .i64 n) = some (.i .i32 m)) (c1 : CA P NS 80 [out, .i .i32 m] H (out1, H1)) (hx : x.isS = false) (ha : appendA P H1 22 false out1 x = some (out2, H2)) :
    CA P NS 107 [out, x] H (out2, H2) := by
  refine CA.go (fn := Tryz.f107) (vs := [_]) (by kernel_rfl) rfl (.inr rfl) ?_
  apply Exists.intro
  apply And.intro
  · dsimp only [Tryz.f107]
    dsimp only [List.length_cons, List.length_nil, List.cons_append, List.nil_append, Nat.reduceSub, Nat.reduceAdd, List.replicate]
    refine RU.seq RU.rg ?_
    refine RU.seq RU.rg ?_
    refine RU.seq RU.rg ?_
    exact RU.ret
  · rfl
theorem ap_by {L0 : Nat} {H : Heap} {out av : AV} {bs x : B} (hL : L0 ≤ H.length) (ho : OutAt L0 H out bs) (hx : x.length < 2147483648) (hr : BytesAt (fun i => i < L0) H av x) (hb : bs.length + ((be 4 x.length).length + x.length) ≤ 1099511627776) :
    ∃ out' H', CA P NS 107 [out, av] H (out', H') ∧ OutAt L0 H' out' (bs ++ (be 4 x.length ++ x)) ∧ WKeep L0 H H' := by
  have hl : (be 4 (x.length : Int)).length = 4 := be_length _ _
  obtain ⟨out1, H1, c1, h1, k1⟩ := ap_i32 (n := IntKind.i32.wrap ((x.length : Nat) : Int)) hL ho (by omega)
  rw [be4_wrap] at h1
  obtain ⟨out2, H2, a2, h2, k2⟩ := ap_bytes (str := false) (Nat.le_trans hL k1.len) h1 (BytesAt.first (BytesAt.kt hr (wk_kt k1))) (by simp only [List.length_append]; omega)
  rw [List.append_assoc] at h2
  exact ⟨out2, H2, by_run (hr.len bty) (cv_i64_i32 _) c1 (bytes_noS hr) a2, h2, k1.trans k2⟩
theorem apk_by : ApK 107 false .bytes false := ⟨fun L0 H out bs av v hL ho hr hk hb => by
  cases v <;> simp only [RepK] at hr <;> first | exact hr.elim | skip
  · rename_i x
    have he : encK false .bytes (.s x) = be 4 x.length ++ x := rfl
    rw [he, List.length_append] at hb
    exact ap_by hL ho hk hr.1 hb
  · cases hk⟩
theorem eqlS0 (c : Bool) : binA P .eql 22 c .s0 .s0 = some (.b true) := by kernel_rfl
theorem eqlSe (c : Bool) : binA P .eql 22 c .se .s0 = some (.b false) := by kernel_rfl
theorem eqlSl (c : Bool) (i o n : Nat) : binA P .eql 22 c (.sl i o n) .s0 = some (.b false) := by kernel_rfl
theorem eqlB {A : Nat → Prop} {H : Heap} {av : AV} {x : B} (h : BytesAt A H av x) (h0 : av ≠ .s0) (c : Bool) : binA P .eql 22 c av .s0 = some (.b false) := by
  cases h with
  | z => exact absurd rfl h0
  | e => exact eqlSe c
  | s => exact eqlSl c _ _ _
theorem carr_run {H H1 : Heap} {out out1 : AV} {n m : Int} (hc : convA P 3 73 (.i .i64 n) = some (.i .u32 n)) (hd : binA P .add 73 true (.i .u32 1) (.i .u32 n) = some (.i .u32 m)) (c1 : CA P NS 85 [out, .i .u32 m] H (out1, H1)) :
    CA P NS 82 [out, .i .i64 n] H (out1, H1) := by
  refine CA.go (fn := Tryz.f82) (vs := [_]) (by kernel_rfl) rfl (.inr rfl) ?_
  apply Exists.intro
  apply And.intro
  · dsimp only [Tryz.f82]
    dsimp only [List.length_cons, List.length_nil, List.cons_append, List.nil_append, Nat.reduceSub, Nat.reduceAdd, List.replicate]
    refine RU.seq RU.rg ?_
    refine RU.seq RU.rg ?_
    exact RU.ret
  · rfl
theorem apl_carr : ApL 82 true false := ⟨fun L0 H out bs n z hL ho hn hb => by
  obtain ⟨out', H', c1, h1, h2, _⟩ := ap_uv emp_ns (n := n + 1) hL ho (by omega) (by have := uv_le (n := n + 1) (by omega); omega)
  exact ⟨out', H', carr_run (cv_i64_u32 _ (by omega)) (add1u _ (by omega) true) c1, h1, h2⟩⟩
theorem uuid_run {H H1 H2 : Heap} {out out1 : AV} {cs : List AV} (hH : H1 = H ++ [Blk.cells 93 .vr cs]) (h1 : cs.all AV.one = true) (hs : sliceArrA P H1 93 (.p H.length 0) = some (.sl H.length 0 16)) (ha : appendA P H1 22 false out (.sl H.length 0 16) = some (out1, H2)) :
    CA P NS 84 [out, .g cs] H (out1, H2) := by
  refine CA.go (fn := Tryz.f84) (vs := [_]) (by kernel_rfl) rfl (.inr rfl) ?_
  apply Exists.intro
  apply And.intro
  · dsimp only [Tryz.f84]
    dsimp only [List.length_cons, List.length_nil, List.cons_append, List.nil_append, Nat.reduceSub, Nat.reduceAdd, List.replicate]
    (apply RU.seq; focus (apply RU.region; refine OS.st rfl rfl ?_ (op_box rfl h1); dsimp only [AV.cells, putA, List.set_cons_zero, List.set_cons_succ]; rw [← hH]; refine OS.st rfl rfl ?_; dsimp only [AV.cells, putA, List.set_cons_zero, List.set_cons_succ]; exact OS.nil))
    refine RU.seq RU.rg ?_
    exact RU.ret
  · rfl
theorem szA : sizeA P 93 = some 16 := by kernel_rfl
theorem apk_uuid (flex null : Bool) : ApK 84 flex .uuid null := ⟨fun L0 H out bs av v hL ho hr hk hb => by
  cases v <;> simp only [RepK] at hr <;> first | exact hr.elim | skip
  rename_i x
  subst hr
  have hx : x.length = 16 := hk
  have he : encK flex .uuid (.s x) = x := rfl
  rw [he] at hb ⊢
  have hfi : firstA (H ++ [.cells 93 .vr (u8s x)]) 1 (.sl H.length 0 16) = some (x.length, u8s x) := by
    have ht : ((u8s x).drop 0).take (16 * 1) = u8s x := by rw [List.drop_zero, Nat.mul_one, ← hx, ← u8s_length x, List.take_length]
    simp only [firstA, List.getElem?_concat_length]
    rw [if_pos ⟨by rw [u8s_length]; omega, by rw [ht]; exact u8s_one _⟩, ht, hx]
  obtain ⟨out', H', ha, h1, h2⟩ := ap_bytes (str := false) (x := .sl H.length 0 16) (new := x) (by simp; omega) (ho.app [.cells 93 .vr (u8s x)]) hfi hb
  refine ⟨out', H', uuid_run rfl (u8s_one x) ?_ ha, h1, (WKeep.app L0 H _ hL).trans h2⟩
  have hu : P.underlying 93 = some (.array 16 5) := by kernel_rfl
  simp [sliceArrA, hu, sizeU]⟩
end Go.Proofs.YtdanlkiojkimaaaGreatDoor.Rd

namespace Go.Proofs.YtdanlkiojkimaaaGreatDoor.Rd
open Go Go.Proofs.YtdanlkiojkimaaaGreatDoor.Ax Go.Proofs.YtdanlkiojkimaaaGreatDoor.Wire
set_option maxRecDepth 100000
set_option maxHeartbeats 1000000
theorem aggStr : aggA P 9 = some false := by kernel_rfl
theorem nstr_e0 (c : Bool) : binA P .eql 63 c .p0 .p0 = some (.b true) := by kernel_rfl
theorem nstr_e1 (c : Bool) (i : Nat) : binA P .eql 63 c (.p i 0) .p0 = some (.b false) := by kernel_rfl
theorem nstr_nil {H H1 : Heap} {out out1 : AV} (c1 : CA P NS 94 [out, .i .i16 (-1)] H (out1, H1)) : CA P NS 93 [out, .p0] H (out1, H1) := by
  have e0 := nstr_e0 true
  refine CA.go (fn := Tryz.f93) (vs := [_]) (by kernel_rfl) rfl (.inr rfl) ?_
  apply Exists.intro
  apply And.intro
  · dsimp only [Tryz.f93]
    dsimp only [List.length_cons, List.length_nil, List.cons_append, List.nil_append, Nat.reduceSub, Nat.reduceAdd, List.replicate]
    refine RU.seq RU.rg ?_
    (apply RU.seqx; rotate_left; focus (simp)); refine RU.seq RU.rg ?_; apply RU.condT rfl
    refine RU.seq RU.rg ?_
    exact RU.ret
  · rfl
theorem nstr_ptr {H H1 : Heap} {out out1 x : AV} {i : Nat} (l0 : loadA P H 9 (.p i 0) = some x) (c1 : CA P NS 91 [out, x] H (out1, H1)) : CA P NS 93 [out, .p i 0] H (out1, H1) := by
  have e0 := nstr_e1 true i
  refine CA.go (fn := Tryz.f93) (vs := [_]) (by kernel_rfl) rfl (.inr rfl) ?_
  apply Exists.intro
  apply And.intro
  · dsimp only [Tryz.f93]
    dsimp only [List.length_cons, List.length_nil, List.cons_append, List.nil_append, Nat.reduceSub, Nat.reduceAdd, List.replicate]
    refine RU.seq RU.rg ?_
    refine RU.seq (RU.seq RU.rg (RU.condF rfl RU.skip)) ?_
    refine RU.seq RU.rg ?_
    exact RU.ret
  · rfl
theorem apk_nstr : ApK 93 false .str true := ⟨fun L0 H out bs av v hL ho hr hk hb => by
  cases v <;> simp only [RepK] at hr <;> first | exact hr.elim | skip
  · rename_i x
    simp only [if_true] at hr
    obtain ⟨i, ty, _, rfl, hi⟩ := hr
    have l0 : loadA P H 9 (.p i 0) = some (.s (bst x)) := by simp [loadA, loadAt, hi, aggStr]
    have hl : (be 2 (x.length : Int)).length = 2 := be_length _ _
    have he : encK false .str (.s x) = be 2 x.length ++ x := rfl
    rw [he, List.length_append, hl] at hb
    obtain ⟨out', H', c1, h1, h2⟩ := ap_str hL ho hb
    exact ⟨out', H', nstr_ptr l0 c1, h1, h2⟩
  · subst hr
    have he : encK false .str .nul = be 2 (-1) := rfl
    rw [he, be_length] at hb
    obtain ⟨out', H', c1, h1, h2⟩ := ap_i16 (n := -1) hL ho hb
    exact ⟨out', H', nstr_nil c1, h1, h2⟩⟩
theorem cnstr_e0 (c : Bool) : binA P .eql 63 c .p0 .p0 = some (.b true) := by kernel_rfl
theorem cnstr_e1 (c : Bool) (i : Nat) : binA P .eql 63 c (.p i 0) .p0 = some (.b false) := by kernel_rfl
theorem cnstr_nil {H H1 : Heap} {out out1 : AV} (c1 : CA P NS 85 [out, .i .u32 0] H (out1, H1)) : CA P NS 92 [out, .p0] H (out1, H1) := by
  have e0 := cnstr_e0 true
  refine CA.go (fn := Tryz.f92) (vs := [_]) (by kernel_rfl) rfl (.inr rfl) ?_
  apply Exists.intro
  apply And.intro
  · dsimp only [Tryz.f92]
    dsimp only [List.length_cons, List.length_nil, List.cons_append, List.nil_append, Nat.reduceSub, Nat.reduceAdd, List.replicate]
    refine RU.seq RU.rg ?_
    (apply RU.seqx; rotate_left; focus (simp)); refine RU.seq RU.rg ?_; apply RU.condT rfl
    refine RU.seq RU.rg ?_
    exact RU.ret
  · rfl
theorem cnstr_ptr {H H1 : Heap} {out out1 x : AV} {i : Nat} (l0 : loadA P H 9 (.p i 0) = some x) (c1 : CA P NS 90 [out, x] H (out1, H1)) : CA P NS 92 [out, .p i 0] H (out1, H1) := by
  have e0 := cnstr_e1 true i
  refine CA.go (fn := Tryz.f92) (vs := [_]) (by kernel_rfl) rfl (.inr rfl) ?_
  apply Exists.intro
  apply And.intro
  · dsimp only [Tryz.f92]
    dsimp only [List.length_cons, List.length_nil, List.cons_append, List.nil_append, Nat.reduceSub, Nat.reduceAdd, List.replicate]
    refine RU.seq RU.rg ?_
    refine RU.seq (RU.seq RU.rg (RU.condF rfl RU.skip)) ?_
    refine RU.seq RU.rg ?_
    exact RU.ret
  · rfl
theorem apk_cnstr : ApK 92 true .str true := ⟨fun L0 H out bs av v hL ho hr hk hb => by
  cases v <;> simp only [RepK] at hr <;> first | exact hr.elim | skip
  · rename_i x
    simp only [if_true] at hr
    obtain ⟨i, ty, _, rfl, hi⟩ := hr
    have l0 : loadA P H 9 (.p i 0) = some (.s (bst x)) := by simp [loadA, loadAt, hi, aggStr]
    have he : encK true .str (.s x) = uv (x.length + 1) ++ x := rfl
    rw [he, List.length_append] at hb
    obtain ⟨out', H', c1, h1, h2⟩ := ap_cstr hL ho hk hb
    exact ⟨out', H', cnstr_ptr l0 c1, h1, h2⟩
  · subst hr
    have he : encK true .str .nul = uv 0 := by unfold uv; rfl
    rw [he] at hb ⊢
    obtain ⟨out', H', c1, h1, h2, _⟩ := ap_uv emp_ns (n := 0) hL ho (by omega) hb
    exact ⟨out', H', cnstr_nil c1, h1, h2⟩⟩
theorem narr_nil {H H1 : Heap} {out out1 : AV} {n : Int} (c1 : CA P NS 80 [out, .i .i32 (-1)] H (out1, H1)) : CA P NS 98 [out, .i .i64 n, .b true] H (out1, H1) := by
  refine CA.go (fn := Tryz.f98) (vs := [_]) (by kernel_rfl) rfl (.inr rfl) ?_
  apply Exists.intro
  apply And.intro
  · dsimp only [Tryz.f98]
    dsimp only [List.length_cons, List.length_nil, List.cons_append, List.nil_append, Nat.reduceSub, Nat.reduceAdd, List.replicate]
    refine RU.seq RU.rg ?_
    (apply RU.seqx; rotate_left; focus (simp)); refine RU.seq RU.rg ?_; apply RU.condT rfl
    refine RU.seq RU.rg ?_
    exact RU.ret
  · rfl
theorem narr_len {H H1 : Heap} {out out1 : AV} {n m : Int} (hc : convA P 3 21 (.i .i64 n) = some (.i .i32 m)) (c1 : CA P NS 80 [out, .i .i32 m] H (out1, H1)) : CA P NS 98 [out, .i .i64 n, .b false] H (out1, H1) := by
  refine CA.go (fn := Tryz.f98) (vs := [_]) (by kernel_rfl) rfl (.inr rfl) ?_
  apply Exists.intro
  apply And.intro
  · dsimp only [Tryz.f98]
    dsimp only [List.length_cons, List.length_nil, List.cons_append, List.nil_append, Nat.reduceSub, Nat.reduceAdd, List.replicate]
    refine RU.seq RU.rg ?_
    refine RU.seq (RU.seq RU.rg (RU.condF rfl RU.skip)) ?_
    refine RU.seq RU.rg ?_
    exact RU.ret
  · rfl
theorem apl_narr : ApL 98 false true := ⟨fun L0 H out bs n z hL ho hn hb => by
  cases z with
  | true =>
    obtain ⟨out', H', c1, h1, h2⟩ := ap_i32 (n := -1) hL ho (by omega)
    exact ⟨out', H', narr_nil c1, h1, h2⟩
  | false =>
    obtain ⟨out', H', c1, h1, h2⟩ := ap_i32 (n := IntKind.i32.wrap ((n : Nat) : Int)) hL ho (by omega)
    rw [be4_wrap] at h1
    exact ⟨out', H', narr_len (cv_i64_i32 _) c1, h1, h2⟩⟩
theorem cnarr_nil {H H1 : Heap} {out out1 : AV} {n : Int} (c1 : CA P NS 85 [out, .i .u32 0] H (out1, H1)) : CA P NS 97 [out, .i .i64 n, .b true] H (out1, H1) := by
  refine CA.go (fn := Tryz.f97) (vs := [_]) (by kernel_rfl) rfl (.inr rfl) ?_
  apply Exists.intro
  apply And.intro
  · dsimp only [Tryz.f97]
    dsimp only [List.length_cons, List.length_nil, List.cons_append, List.nil_append, Nat.reduceSub, Nat.reduceAdd, List.replicate]
    refine RU.seq RU.rg ?_
    (apply RU.seqx; rotate_left; focus (simp)); refine RU.seq RU.rg ?_; apply RU.condT rfl
    refine RU.seq RU.rg ?_
    exact RU.ret
  · rfl
theorem cnarr_len {H H1 : Heap} {out out1 : AV} {n m : Int} (hc : convA P 3 73 (.i .i64 n) = some (.i .u32 n)) (hd : binA P .add 73 true (.i .u32 1) (.i .u32 n) = some (.i .u32 m)) (c1 : CA P NS 85 [out, .i .u32 m] H (out1, H1)) : CA P NS 97 [out, .i .i64 n, .b false] H (out1, H1) := by
  refine CA.go (fn := Tryz.f97) (vs := [_]) (by kernel_rfl) rfl (.inr rfl) ?_
  apply Exists.intro
  apply And.intro
  · dsimp only [Tryz.f97]
    dsimp only [List.length_cons, List.length_nil, List.cons_append, List.nil_append, Nat.reduceSub, Nat.reduceAdd, List.replicate]
    refine RU.seq RU.rg ?_
    refine RU.seq (RU.seq RU.rg (RU.condF rfl RU.skip)) ?_
    refine RU.seq RU.rg ?_
    exact RU.ret
  · rfl
theorem apl_cnarr : ApL 97 true true := ⟨fun L0 H out bs n z hL ho hn hb => by
  cases z with
  | true =>
    obtain ⟨out', H', c1, h1, h2, _⟩ := ap_uv emp_ns (n := 0) hL ho (by omega) (by have := uv_le (n := 0) (by omega); omega)
    have e : uv 0 = cnt0 true 4 := by unfold uv; rfl
    rw [e] at h1
    exact ⟨out', H', cnarr_nil c1, h1, h2⟩
  | false =>
    obtain ⟨out', H', c1, h1, h2, _⟩ := ap_uv emp_ns (n := n + 1) hL ho (by omega) (by have := uv_le (n := n + 1) (by omega); omega)
    exact ⟨out', H', cnarr_len (cv_i64_u32 _ (by omega)) (add1u _ (by omega) true) c1, h1, h2⟩⟩
theorem f64_ca (H : Heap) (b : Nat) : CA P NS 158 [.f .f64 b] H (.i .u64 (b : Nat), H) := CA.sum rfl
theorem ap_f64_run {H H' : Heap} {out out' y : AV} {m : Int} (c0 : CA P NS 158 [y] H (.i .u64 m, H)) (c1 : CA P NS 131 [out, .i .u64 m] H (out', H')) :
    CA P NS 112 [out, y] H (out', H') := by
  refine CA.go (fn := Tryz.f112) (vs := [_]) (by kernel_rfl) rfl (.inr rfl) ?_
  apply Exists.intro
  apply And.intro
  · dsimp only [Tryz.f112]
    dsimp only [List.length_cons, List.length_nil, List.cons_append, List.nil_append, Nat.reduceSub, Nat.reduceAdd, List.replicate]
    refine RU.seq RU.rg ?_
    refine RU.seq RU.rg ?_
    exact RU.ret
  · rfl
theorem apk_f64 (flex null : Bool) : ApK 112 flex .f64 null := ⟨fun L0 H out bs av v hL ho hr hk hb => by
  cases v <;> simp only [RepK] at hr <;> first | exact hr.elim | skip
  rename_i n
  subst hr
  have hk : 0 ≤ n ∧ n < 2 ^ 64 := hk
  have he : encK flex .f64 (.i n) = be 8 n := rfl
  rw [he, be_length] at hb
  obtain ⟨out', H', c1, h1, h2⟩ := ap_u64 (n := n) hL ho hb
  have c0 := f64_ca H n.toNat
  rw [Int.toNat_of_nonneg hk.1] at c0
  exact ⟨out', H', ap_f64_run c0 c1, h1, h2⟩⟩
end Go.Proofs.YtdanlkiojkimaaaGreatDoor.Rd

