/-
  MORE LEAVES, as kbin writes them.
-/
import Derived.Test.YtiifcfngbbhgoagDoorQApUv
import Derived.Test.YtiifcfngbbhgoagDoorQApKit
import Derived.Test.YtiifcfngbbhgoagDoorProg
import Derived.Shelf.GgSortFunc.Whole
import Derived.Shelf.GgSortFunc.Tiny
set_option linter.constructorNameAsVariable false
set_option linter.unusedVariables false
set_option linter.unusedSimpArgs false
namespace Go.Proofs.YtiifcfngbbhgoagDoor.Rd
open Go Go.Proofs.YtiifcfngbbhgoagDoor.Ax Go.Proofs.YtiifcfngbbhgoagDoor.Wire
set_option maxRecDepth 100000
set_option maxHeartbeats 1000000
theorem bool_t {H H1 H2 : Heap} {out x out' : AV} (hbl : buildSliceA P H 22 1 [(0, .i .u8 1)] = some (x, H1)) (hx : x.isS = false) (ha : appendA P H1 22 false out x = some (out', H2)) :
    CA P NS 17 [out, .b true] H (out', H2) := by
  refine CA.go (fn := Tryd.f17) (vs := [_]) (by kernel_rfl) rfl (.inr rfl) ?_
  apply Exists.intro
  apply And.intro
  · dsimp only [Tryd.f17]
    dsimp only [List.length_cons, List.length_nil, List.cons_append, List.nil_append, Nat.reduceSub, Nat.reduceAdd, List.replicate]
    refine RU.seq RU.rg ?_
    (apply RU.seqx; rotate_left; focus (simp)); refine RU.seq RU.rg ?_; apply RU.condT rfl
    refine RU.seq RU.rg ?_
    exact RU.ret
  · rfl
theorem bool_f {H H1 H2 : Heap} {out x out' : AV} (hbl : buildSliceA P H 22 1 [(0, .i .u8 0)] = some (x, H1)) (hx : x.isS = false) (ha : appendA P H1 22 false out x = some (out', H2)) :
    CA P NS 17 [out, .b false] H (out', H2) := by
  refine CA.go (fn := Tryd.f17) (vs := [_]) (by kernel_rfl) rfl (.inr rfl) ?_
  apply Exists.intro
  apply And.intro
  · dsimp only [Tryd.f17]
    dsimp only [List.length_cons, List.length_nil, List.cons_append, List.nil_append, Nat.reduceSub, Nat.reduceAdd, List.replicate]
    refine RU.seq RU.rg ?_
    refine RU.seq (RU.seq RU.rg (RU.condF rfl RU.skip)) ?_
    refine RU.seq RU.rg ?_
    exact RU.ret
  · rfl
theorem apk_bool (flex null : Bool) : ApK 17 flex .bool null := ⟨fun L0 H out bs av v hL ho hr hk hb => by
  cases v <;> simp only [RepK] at hr <;> first | exact hr.elim | skip
  rename_i x
  subst hr
  have he : encK flex .bool (.b x) = [if x then 1 else 0] := rfl
  rw [he] at hb ⊢
  have hfi := first_new H 5 [if x then 1 else 0] (by simp)
  obtain ⟨out', H', ha, h1, h2⟩ := ap_bytes (str := false) (x := .sl H.length 0 1) (new := [if x then 1 else 0]) (by simp; omega) (ho.app [.cells 5 .row (u8s [if x then 1 else 0])]) hfi hb
  refine ⟨out', H', ?_, h1, (WKeep.app L0 H _ hL).trans h2⟩
  cases x with
  | true => exact bool_t (build_1 H 1) rfl ha
  | false => exact bool_f (build_1 H 0) rfl ha⟩
theorem be8 (n : Int) : be 8 n = [UInt8.ofNat ((n / 72057594037927936) % 256).toNat, UInt8.ofNat ((n / 281474976710656) % 256).toNat, UInt8.ofNat ((n / 1099511627776) % 256).toNat, UInt8.ofNat ((n / 4294967296) % 256).toNat, UInt8.ofNat ((n / 16777216) % 256).toNat, UInt8.ofNat ((n / 65536) % 256).toNat, UInt8.ofNat ((n / 256) % 256).toNat, UInt8.ofNat (n % 256).toNat] := by simp [be]
theorem be8_wrap (n : Int) : be 8 (IntKind.u64.wrap n) = be 8 n := by
  have e : IntKind.u64.wrap n = n % 18446744073709551616 := by simp [IntKind.wrap, IntKind.signed, IntKind.bits]
  rw [e, be8, be8]
  have h1 : n % 18446744073709551616 / 72057594037927936 % 256 = n / 72057594037927936 % 256 := by omega
  have h2 : n % 18446744073709551616 / 281474976710656 % 256 = n / 281474976710656 % 256 := by omega
  have h3 : n % 18446744073709551616 / 1099511627776 % 256 = n / 1099511627776 % 256 := by omega
  have h4 : n % 18446744073709551616 / 4294967296 % 256 = n / 4294967296 % 256 := by omega
  have h5 : n % 18446744073709551616 / 16777216 % 256 = n / 16777216 % 256 := by omega
  have h6 : n % 18446744073709551616 / 65536 % 256 = n / 65536 % 256 := by omega
  have h7 : n % 18446744073709551616 / 256 % 256 = n / 256 % 256 := by omega
  have h8 : n % 18446744073709551616 % 256 = n % 256 := by omega
  rw [h1, h2, h3, h4, h5, h6, h7, h8]
theorem cv_u64_8 (m : Int) : convA P 66 5 (.i .u64 m) = some (U8 (UInt8.ofNat (m % 256).toNat)) := by rw [← U8_wrap]; kernel_rfl
theorem build_8 (H : Heap) (b0 b1 b2 b3 b4 b5 b6 b7 : UInt8) : buildSliceA P H 22 8 [(0, U8 b0), (1, U8 b1), (2, U8 b2), (3, U8 b3), (4, U8 b4), (5, U8 b5), (6, U8 b6), (7, U8 b7)] = some (.sl H.length 0 8, H ++ [.cells 5 .row (u8s [b0, b1, b2, b3, b4, b5, b6, b7])]) := by kernel_rfl
theorem ap_u64_run {L0 : Nat} {H : Heap} {out : AV} {bs : B} {n n0 n1 n2 n3 n4 n5 n6 : Int} {b0 b1 b2 b3 b4 b5 b6 b7 : UInt8} (hL : L0 ≤ H.length) (ho : OutAt L0 H out bs) (hb : bs.length + 8 ≤ 1099511627776)
    (s0 : binA P .shr 66 true (.i .u64 n) (.i .u64 56) = some (.i .u64 n0)) (c0 : convA P 66 5 (.i .u64 n0) = some (U8 b0))
    (s1 : binA P .shr 66 true (.i .u64 n) (.i .u64 48) = some (.i .u64 n1)) (c1 : convA P 66 5 (.i .u64 n1) = some (U8 b1))
    (s2 : binA P .shr 66 true (.i .u64 n) (.i .u64 40) = some (.i .u64 n2)) (c2 : convA P 66 5 (.i .u64 n2) = some (U8 b2))
    (s3 : binA P .shr 66 true (.i .u64 n) (.i .u64 32) = some (.i .u64 n3)) (c3 : convA P 66 5 (.i .u64 n3) = some (U8 b3))
    (s4 : binA P .shr 66 true (.i .u64 n) (.i .u64 24) = some (.i .u64 n4)) (c4 : convA P 66 5 (.i .u64 n4) = some (U8 b4))
    (s5 : binA P .shr 66 true (.i .u64 n) (.i .u64 16) = some (.i .u64 n5)) (c5 : convA P 66 5 (.i .u64 n5) = some (U8 b5))
    (s6 : binA P .shr 66 true (.i .u64 n) (.i .u64 8) = some (.i .u64 n6)) (c6 : convA P 66 5 (.i .u64 n6) = some (U8 b6))
    (c7 : convA P 66 5 (.i .u64 n) = some (U8 b7)) :
    ∃ out' H', CA P NS 38 [out, .i .u64 n] H (out', H') ∧ OutAt L0 H' out' (bs ++ [b0, b1, b2, b3, b4, b5, b6, b7]) ∧ WKeep L0 H H' := by
  have hbl := build_8 H b0 b1 b2 b3 b4 b5 b6 b7
  have hfi := first_new H 5 [b0, b1, b2, b3, b4, b5, b6, b7] (by simp)
  obtain ⟨out', H', ha, h1, h2⟩ := ap_bytes (str := false) (x := .sl H.length 0 8) (new := [b0, b1, b2, b3, b4, b5, b6, b7]) (by simp; omega) (ho.app [.cells 5 .row (u8s [b0, b1, b2, b3, b4, b5, b6, b7])]) hfi (by simpa using hb)
  refine ⟨out', H', ?_, h1, (WKeep.app L0 H _ hL).trans h2⟩
  generalize H ++ [Blk.cells 5 Kn.row (u8s [b0, b1, b2, b3, b4, b5, b6, b7])] = H1 at hbl ha
  refine CA.go (fn := Tryd.f38) (vs := [_]) (by kernel_rfl) rfl (.inr rfl) ?_
  apply Exists.intro
  apply And.intro
  · dsimp only [Tryd.f38]
    dsimp only [List.length_cons, List.length_nil, List.cons_append, List.nil_append, Nat.reduceSub, Nat.reduceAdd, List.replicate]
    refine RU.seq RU.rg ?_
    (apply RU.seq; focus (apply RU.region; refine OS.st rfl rfl ?_ (op_move rfl); dsimp only [AV.cells, putA, List.set_cons_zero, List.set_cons_succ]; refine OS.st rfl rfl ?_ (op_move rfl); dsimp only [AV.cells, putA, List.set_cons_zero, List.set_cons_succ]; refine OS.st rfl rfl ?_ (op_bin (c := true) rfl rfl rfl s0); dsimp only [AV.cells, putA, List.set_cons_zero, List.set_cons_succ]; refine OS.st rfl rfl ?_ (op_conv rfl c0); dsimp only [AV.cells, putA, List.set_cons_zero, List.set_cons_succ]; refine OS.st rfl rfl ?_ (op_move rfl); dsimp only [AV.cells, putA, List.set_cons_zero, List.set_cons_succ]; refine OS.st rfl rfl ?_ (op_bin (c := true) rfl rfl rfl s1); dsimp only [AV.cells, putA, List.set_cons_zero, List.set_cons_succ]; refine OS.st rfl rfl ?_ (op_conv rfl c1); dsimp only [AV.cells, putA, List.set_cons_zero, List.set_cons_succ]; refine OS.st rfl rfl ?_ (op_move rfl); dsimp only [AV.cells, putA, List.set_cons_zero, List.set_cons_succ]; refine OS.st rfl rfl ?_ (op_bin (c := true) rfl rfl rfl s2); dsimp only [AV.cells, putA, List.set_cons_zero, List.set_cons_succ]; refine OS.st rfl rfl ?_ (op_conv rfl c2); dsimp only [AV.cells, putA, List.set_cons_zero, List.set_cons_succ]; refine OS.st rfl rfl ?_ (op_move rfl); dsimp only [AV.cells, putA, List.set_cons_zero, List.set_cons_succ]; refine OS.st rfl rfl ?_ (op_bin (c := true) rfl rfl rfl s3); dsimp only [AV.cells, putA, List.set_cons_zero, List.set_cons_succ]; refine OS.st rfl rfl ?_ (op_conv rfl c3); dsimp only [AV.cells, putA, List.set_cons_zero, List.set_cons_succ]; refine OS.st rfl rfl ?_ (op_move rfl); dsimp only [AV.cells, putA, List.set_cons_zero, List.set_cons_succ]; refine OS.st rfl rfl ?_ (op_bin (c := true) rfl rfl rfl s4); dsimp only [AV.cells, putA, List.set_cons_zero, List.set_cons_succ]; refine OS.st rfl rfl ?_ (op_conv rfl c4); dsimp only [AV.cells, putA, List.set_cons_zero, List.set_cons_succ]; refine OS.st rfl rfl ?_ (op_move rfl); dsimp only [AV.cells, putA, List.set_cons_zero, List.set_cons_succ]; refine OS.st rfl rfl ?_ (op_bin (c := true) rfl rfl rfl s5); dsimp only [AV.cells, putA, List.set_cons_zero, List.set_cons_succ]; refine OS.st rfl rfl ?_ (op_conv rfl c5); dsimp only [AV.cells, putA, List.set_cons_zero, List.set_cons_succ]; refine OS.st rfl rfl ?_ (op_move rfl); dsimp only [AV.cells, putA, List.set_cons_zero, List.set_cons_succ]; refine OS.st rfl rfl ?_ (op_bin (c := true) rfl rfl rfl s6); dsimp only [AV.cells, putA, List.set_cons_zero, List.set_cons_succ]; refine OS.st rfl rfl ?_ (op_conv rfl c6); dsimp only [AV.cells, putA, List.set_cons_zero, List.set_cons_succ]; refine OS.st rfl rfl ?_ (op_move rfl); dsimp only [AV.cells, putA, List.set_cons_zero, List.set_cons_succ]; refine OS.st rfl rfl ?_ (op_conv rfl c7); dsimp only [AV.cells, putA, List.set_cons_zero, List.set_cons_succ]; refine OS.st rfl rfl ?_ (op_buildSlice rfl hbl); dsimp only [AV.cells, putA, List.set_cons_zero, List.set_cons_succ]; refine OS.st rfl rfl ?_ (op_append rfl rfl rfl elemBs rfl ha); dsimp only [AV.cells, putA, List.set_cons_zero, List.set_cons_succ]; refine OS.st rfl rfl ?_ (op_assign rfl); dsimp only [AV.cells, putA, List.set_cons_zero, List.set_cons_succ]; exact OS.nil))
    exact RU.ret
  · rfl
theorem shr_p (t : TypeId) (c : Bool) (a : Int) (n : Nat) (hn : n ≤ 64) (m : Int) (hm : (2 : Int) ^ n = m) : binA P .shr t c (.i .u64 a) (.i .u64 (n : Int)) = some (.i .u64 (a / m)) := by rw [shr t .u64 c a n hn, hm]
theorem ap_u64 {L0 : Nat} {H : Heap} {out : AV} {bs : B} {n : Int} (hL : L0 ≤ H.length) (ho : OutAt L0 H out bs) (hb : bs.length + 8 ≤ 1099511627776) :
    ∃ out' H', CA P NS 38 [out, .i .u64 n] H (out', H') ∧ OutAt L0 H' out' (bs ++ be 8 n) ∧ WKeep L0 H H' := by
  rw [be8]
  exact ap_u64_run hL ho hb (shr_p _ _ _ 56 (by omega) 72057594037927936 (by decide)) (cv_u64_8 _) (shr_p _ _ _ 48 (by omega) 281474976710656 (by decide)) (cv_u64_8 _) (shr_p _ _ _ 40 (by omega) 1099511627776 (by decide)) (cv_u64_8 _) (shr_p _ _ _ 32 (by omega) 4294967296 (by decide)) (cv_u64_8 _) (shr_p _ _ _ 24 (by omega) 16777216 (by decide)) (cv_u64_8 _) (shr_p _ _ _ 16 (by omega) 65536 (by decide)) (cv_u64_8 _) (shr_p _ _ _ 8 (by omega) 256 (by decide)) (cv_u64_8 _) (cv_u64_8 n)
theorem cv_i64_u64 (n : Int) : convA P 2 66 (.i .i64 n) = some (.i .u64 (IntKind.u64.wrap n)) := by kernel_rfl
theorem ap_i64_run {H H' : Heap} {out out' : AV} {n m : Int} (hc : convA P 2 66 (.i .i64 n) = some (.i .u64 m)) (c1 : CA P NS 38 [out, .i .u64 m] H (out', H')) :
    CA P NS 16 [out, .i .i64 n] H (out', H') := by
  refine CA.go (fn := Tryd.f16) (vs := [_]) (by kernel_rfl) rfl (.inr rfl) ?_
  apply Exists.intro
  apply And.intro
  · dsimp only [Tryd.f16]
    dsimp only [List.length_cons, List.length_nil, List.cons_append, List.nil_append, Nat.reduceSub, Nat.reduceAdd, List.replicate]
    refine RU.seq RU.rg ?_
    refine RU.seq RU.rg ?_
    exact RU.ret
  · rfl
theorem apk_i64 (flex null : Bool) : ApK 16 flex .i64 null := ⟨fun L0 H out bs av v hL ho hr hk hb => by
  cases v <;> simp only [RepK] at hr <;> first | exact hr.elim | skip
  rename_i n
  subst hr
  have he : encK flex .i64 (.i n) = be 8 n := rfl
  rw [he, be_length] at hb
  obtain ⟨out', H', c1, h1, h2⟩ := ap_u64 (n := IntKind.u64.wrap n) hL ho hb
  rw [be8_wrap] at h1
  exact ⟨out', H', ap_i64_run (cv_i64_u64 n) c1, h1, h2⟩⟩
theorem cv_i64_u32 (n : Nat) (h : n < 4294967296) : convA P 3 49 (.i .i64 (n : Int)) = some (.i .u32 (n : Int)) := by
  have e : convA P 3 49 (.i .i64 (n : Int)) = some (.i .u32 (IntKind.u32.wrap (n : Int))) := by kernel_rfl
  rw [e]
  simp [IntKind.wrap, IntKind.signed, IntKind.bits]; omega
theorem add1u (n : Nat) (h : n + 1 < 4294967296) (c : Bool) : binA P .add 49 c (.i .u32 1) (.i .u32 (n : Int)) = some (.i .u32 ((n + 1 : Nat) : Int)) := by
  have e : binA P .add 49 c (.i .u32 1) (.i .u32 (n : Int)) = some (.i .u32 (IntKind.u32.wrap (1 + (n : Int)))) := by kernel_rfl
  rw [e]
  simp [IntKind.wrap, IntKind.signed, IntKind.bits]; omega
theorem carr_run {H H1 : Heap} {out out1 : AV} {n m : Int} (hc : convA P 3 49 (.i .i64 n) = some (.i .u32 n)) (hd : binA P .add 49 true (.i .u32 1) (.i .u32 n) = some (.i .u32 m)) (c1 : CA P NS 18 [out, .i .u32 m] H (out1, H1)) :
    CA P NS 20 [out, .i .i64 n] H (out1, H1) := by
  refine CA.go (fn := Tryd.f20) (vs := [_]) (by kernel_rfl) rfl (.inr rfl) ?_
  apply Exists.intro
  apply And.intro
  · dsimp only [Tryd.f20]
    dsimp only [List.length_cons, List.length_nil, List.cons_append, List.nil_append, Nat.reduceSub, Nat.reduceAdd, List.replicate]
    refine RU.seq RU.rg ?_
    refine RU.seq RU.rg ?_
    exact RU.ret
  · rfl
theorem apl_carr : ApL 20 true false := ⟨fun L0 H out bs n z hL ho hn hb => by
  obtain ⟨out', H', c1, h1, h2, _⟩ := ap_uv emp_ns (n := n + 1) hL ho (by omega) (by have := uv_le (n := n + 1) (by omega); omega)
  exact ⟨out', H', carr_run (cv_i64_u32 _ (by omega)) (add1u _ (by omega) true) c1, h1, h2⟩⟩
theorem uuid_run {H H1 H2 : Heap} {out out1 : AV} {cs : List AV} (hH : H1 = H ++ [Blk.cells 52 .vr cs]) (h1 : cs.all AV.one = true) (hs : sliceArrA P H1 52 (.p H.length 0) = some (.sl H.length 0 16)) (ha : appendA P H1 22 false out (.sl H.length 0 16) = some (out1, H2)) :
    CA P NS 22 [out, .g cs] H (out1, H2) := by
  refine CA.go (fn := Tryd.f22) (vs := [_]) (by kernel_rfl) rfl (.inr rfl) ?_
  apply Exists.intro
  apply And.intro
  · dsimp only [Tryd.f22]
    dsimp only [List.length_cons, List.length_nil, List.cons_append, List.nil_append, Nat.reduceSub, Nat.reduceAdd, List.replicate]
    (apply RU.seq; focus (apply RU.region; refine OS.st rfl rfl ?_ (op_box rfl h1); dsimp only [AV.cells, putA, List.set_cons_zero, List.set_cons_succ]; rw [← hH]; refine OS.st rfl rfl ?_; dsimp only [AV.cells, putA, List.set_cons_zero, List.set_cons_succ]; exact OS.nil))
    refine RU.seq RU.rg ?_
    exact RU.ret
  · rfl
theorem apk_uuid (flex null : Bool) : ApK 22 flex .uuid null := ⟨fun L0 H out bs av v hL ho hr hk hb => by
  cases v <;> simp only [RepK] at hr <;> first | exact hr.elim | skip
  rename_i x
  subst hr
  have hx : x.length = 16 := hk
  have he : encK flex .uuid (.s x) = x := rfl
  rw [he] at hb ⊢
  have hfi : firstA (H ++ [.cells 52 .vr (u8s x)]) 1 (.sl H.length 0 16) = some (x.length, u8s x) := by
    have ht : ((u8s x).drop 0).take (16 * 1) = u8s x := by rw [List.drop_zero, Nat.mul_one, ← hx, ← u8s_length x, List.take_length]
    simp only [firstA, List.getElem?_concat_length]
    rw [if_pos ⟨by rw [u8s_length]; omega, by rw [ht]; exact u8s_one _⟩, ht, hx]
  obtain ⟨out', H', ha, h1, h2⟩ := ap_bytes (str := false) (x := .sl H.length 0 16) (new := x) (by simp; omega) (ho.app [.cells 52 .vr (u8s x)]) hfi hb
  refine ⟨out', H', uuid_run rfl (u8s_one x) ?_ ha, h1, (WKeep.app L0 H _ hL).trans h2⟩
  have hu : P.underlying 52 = some (.array 16 5) := by kernel_rfl
  simp [sliceArrA, hu, sizeU]⟩
end Go.Proofs.YtiifcfngbbhgoagDoor.Rd

namespace Go.Proofs.YtiifcfngbbhgoagDoor.Rd
open Go Go.Proofs.YtiifcfngbbhgoagDoor.Ax Go.Proofs.YtiifcfngbbhgoagDoor.Wire
set_option maxRecDepth 100000
set_option maxHeartbeats 1000000
theorem cnarr_nil {H H1 : Heap} {out out1 : AV} {n : Int} (c1 : CA P NS 18 [out, .i .u32 0] H (out1, H1)) : CA P NS 23 [out, .i .i64 n, .b true] H (out1, H1) := by
  refine CA.go (fn := Tryd.f23) (vs := [_]) (by kernel_rfl) rfl (.inr rfl) ?_
  apply Exists.intro
  apply And.intro
  · dsimp only [Tryd.f23]
    dsimp only [List.length_cons, List.length_nil, List.cons_append, List.nil_append, Nat.reduceSub, Nat.reduceAdd, List.replicate]
    refine RU.seq RU.rg ?_
    (apply RU.seqx; rotate_left; focus (simp)); refine RU.seq RU.rg ?_; apply RU.condT rfl
    refine RU.seq RU.rg ?_
    exact RU.ret
  · rfl
theorem cnarr_len {H H1 : Heap} {out out1 : AV} {n m : Int} (hc : convA P 3 49 (.i .i64 n) = some (.i .u32 n)) (hd : binA P .add 49 true (.i .u32 1) (.i .u32 n) = some (.i .u32 m)) (c1 : CA P NS 18 [out, .i .u32 m] H (out1, H1)) : CA P NS 23 [out, .i .i64 n, .b false] H (out1, H1) := by
  refine CA.go (fn := Tryd.f23) (vs := [_]) (by kernel_rfl) rfl (.inr rfl) ?_
  apply Exists.intro
  apply And.intro
  · dsimp only [Tryd.f23]
    dsimp only [List.length_cons, List.length_nil, List.cons_append, List.nil_append, Nat.reduceSub, Nat.reduceAdd, List.replicate]
    refine RU.seq RU.rg ?_
    refine RU.seq (RU.seq RU.rg (RU.condF rfl RU.skip)) ?_
    refine RU.seq RU.rg ?_
    exact RU.ret
  · rfl
theorem apl_cnarr : ApL 23 true true := ⟨fun L0 H out bs n z hL ho hn hb => by
  cases z with
  | true =>
    obtain ⟨out', H', c1, h1, h2, _⟩ := ap_uv emp_ns (n := 0) hL ho (by omega) (by have := uv_le (n := 0) (by omega); omega)
    have e : uv 0 = cnt0 true 4 := by unfold uv; rfl
    rw [e] at h1
    exact ⟨out', H', cnarr_nil c1, h1, h2⟩
  | false =>
    obtain ⟨out', H', c1, h1, h2, _⟩ := ap_uv emp_ns (n := n + 1) hL ho (by omega) (by have := uv_le (n := n + 1) (by omega); omega)
    exact ⟨out', H', cnarr_len (cv_i64_u32 _ (by omega)) (add1u _ (by omega) true) c1, h1, h2⟩⟩
end Go.Proofs.YtiifcfngbbhgoagDoor.Rd

namespace Go.Proofs.YtiifcfngbbhgoagDoor.Rd
open Go Go.Proofs.YtiifcfngbbhgoagDoor.Ax Go.Proofs.YtiifcfngbbhgoagDoor.Wire
set_option maxRecDepth 100000
set_option maxHeartbeats 1000000
theorem fT0 (i o : Nat) : fieldAddrA P 41 (.p i o) 0 = some (.p i o) := by kernel_rfl
theorem aggMw : aggA P 39 = some false := by kernel_rfl
theorem keyMw : keyA P 39 = some .u32 := by kernel_rfl
theorem ld_cell {H : Heap} {b o : Nat} {ty : TypeId} {kn : Kn} {cs : List AV} {x : AV} {t : TypeId} (ha : aggA P t = some false) (hb : H[b]? = some (.cells ty kn cs)) (hx : cs[o]? = some x) : loadA P H t (.p b o) = some x := by
  simp [loadA, loadAt, hb, ha, hx]
theorem st_one {H : Heap} {b : Nat} {ty t : TypeId} {kn : Kn} {x v : AV} (hs : sizeA P t = some 1) (hk : kn.own = true) (hb : H[b]? = some (.cells ty kn [x])) (hc : v.cells = [v]) (h1 : v.one = true) : storeA P H t (.p b 0) v = some (H.set b (.cells ty kn [v])) := by
  simp [storeA, hb, hs, hk, hc, h1, over]
theorem lenM_at {H : Heap} {i : Nat} {kd : IntKind} {es : List (Int × AV)} (h : H[i]? = some (.map kd es)) : lenM P H 39 (.mp i) = some (.i .i64 (es.length : Nat)) := by
  unfold lenM
  rw [keyMw]
  simp only [h]
theorem tlen_0 {H : Heap} {b o : Nat} (hl : loadA P H 39 (.p b o) = some .m0) : CA P NS 19 [.p b o] H (.i .i64 0, H) := by
  have hf := fT0 b o
  have hn : lenA P 39 .m0 = some (.i .i64 0) := by kernel_rfl
  refine CA.goS emp_ns (fn := Tryd.f19) (vs := [_]) (by kernel_rfl) rfl (.inr rfl) ?_
  apply Exists.intro
  apply And.intro
  · dsimp only [Tryd.f19]
    dsimp only [List.length_cons, List.length_nil, List.cons_append, List.nil_append, Nat.reduceSub, Nat.reduceAdd, List.replicate]
    refine RU.seq RU.rg ?_
    refine RU.seq RU.rg ?_
    exact RU.ret
  · rfl
theorem tlen_1 {H : Heap} {b o i : Nat} {n : Int} (hl : loadA P H 39 (.p b o) = some (.mp i)) (hn : lenM P H 39 (.mp i) = some (.i .i64 n)) : CA P NS 19 [.p b o] H (.i .i64 n, H) := by
  have hf := fT0 b o
  refine CA.goS emp_ns (fn := Tryd.f19) (vs := [_]) (by kernel_rfl) rfl (.inr rfl) ?_
  apply Exists.intro
  apply And.intro
  · dsimp only [Tryd.f19]
    dsimp only [List.length_cons, List.length_nil, List.cons_append, List.nil_append, Nat.reduceSub, Nat.reduceAdd, List.replicate]
    refine RU.seq RU.rg ?_
    refine RU.seq RU.rg ?_
    exact RU.ret
  · rfl
theorem apn_len : ApN 19 := ⟨fun H b o ty kn cs x n hb hx hn => by
  cases x with
  | m0 => simp [tagN] at hn; subst hn; exact tlen_0 (ld_cell aggMw hb hx)
  | mp i =>
    simp only [tagN] at hn
    split at hn
    · rename_i kd es hi
      simp at hn; subst hn
      exact tlen_1 (ld_cell aggMw hb hx) (lenM_at hi)
    · cases hn
  | _ => simp [tagN] at hn⟩
theorem BytesAt.noS' {A : Nat → Prop} {H : Heap} {av : AV} {bs : B} (h : BytesAt A H av bs) : av.isS = false := by cases h <;> rfl
theorem cv_int_u32 (m : Nat) (h : m < 4294967296) : convA P 3 49 (.i .i64 (m : Nat)) = some (.i .u32 (m : Nat)) := by
  have e : convA P 3 49 (.i .i64 (m : Nat)) = some (.i .u32 (IntKind.u32.wrap (m : Nat))) := by kernel_rfl
  rw [e]; simp [IntKind.wrap, IntKind.signed, IntKind.bits]; omega
structure BKeep (H : Heap) (box : Nat) (out : AV) (H' : Heap) (out' : AV) : Prop where
  at_ : ∀ (j : Nat) (b : Blk), H[j]? = some b → j ≠ box → (∀ i o n, out = .sl i o n → j ≠ i) → H'[j]? = some b
  new : ∀ i o n, out' = .sl i o n → H.length ≤ i
  len : H.length ≤ H'.length
theorem BKeep.trans {H H' H'' : Heap} {box : Nat} {out out' out'' : AV} (h : BKeep H box out H' out') (k : BKeep H' box out' H'' out'') : BKeep H box out H'' out'' :=
  ⟨fun j b hj hb ho => k.at_ j b (h.at_ j b hj hb ho) hb (fun i o n e => by have := h.new i o n e; have := (List.getElem?_eq_some_iff.1 hj).1; omega), fun i o n e => Nat.le_trans h.len (k.new i o n e), Nat.le_trans h.len k.len⟩
theorem OutAt.one {L0 : Nat} {H : Heap} {out : AV} {bs : B} (h : OutAt L0 H out bs) : out.cells = [out] ∧ out.one = true := by
  rcases h with ⟨rfl, _⟩ | ⟨i, _, rfl, _⟩ <;> exact ⟨rfl, rfl⟩
theorem back {L0 : Nat} {H H1 : Heap} {box : Nat} {ty : TypeId} {out out1 : AV} {bs : B} (hL : L0 ≤ box) (hbx : H[box]? = some (.cells ty .vr [out])) (hob : ∀ i o n, out = .sl i o n → box ≠ i) (ho : OutAt L0 H1 out1 bs) (hk : OKeep H out H1 out1) (hw : WKeep L0 H H1) :
    ∃ H1', storeA P H1 22 (.p box 0) out1 = some H1' ∧ H1'[box]? = some (.cells ty .vr [out1]) ∧ OutAt L0 H1' out1 bs ∧ BKeep H box out H1' out1 ∧ WKeep L0 H H1' ∧ (∀ i o n, out1 = .sl i o n → box ≠ i) := by
  have hlt := (List.getElem?_eq_some_iff.1 hbx).1
  have hb1 := hk.at_ box _ hbx hob
  have hne : ∀ i o n, out1 = .sl i o n → box ≠ i := fun i o n e => by have := hk.new i o n e; omega
  refine ⟨_, st_one sizeB rfl hb1 ho.one.1 ho.one.2, by rw [List.getElem?_set_self (List.getElem?_eq_some_iff.1 hb1).1], ?_, ⟨fun j b hj hjb hjo => by rw [List.getElem?_set, if_neg (fun e => hjb e.symm)]; exact hk.at_ j b hj hjo, hk.new, by simpa using hk.len⟩, ⟨fun i hi => by rw [List.getElem?_set, if_neg (by omega)]; exact hw.at_ i hi, by simpa using hw.len⟩, hne⟩
  rcases ho with ⟨rfl, rfl⟩ | ⟨i, h1, rfl, h2, h3⟩
  · exact .inl ⟨rfl, rfl⟩
  · exact .inr ⟨i, h1, rfl, by rw [List.getElem?_set, if_neg (hne i _ _ rfl)]; exact h2, h3⟩
section
variable {S : CallA} (E : Emp S)
include E
theorem clo_run {H H1 H1' H2 H2' H3 H4 : Heap} {k : Int} {val out out1 out2 out3 : AV} {box : Nat} {n : Int} {l : Int} (l1 : loadA P H 22 (.p box 0) = some out) (c1 : CA P S 18 [out, .i .u32 k] H (out1, H1)) (s1 : storeA P H1 22 (.p box 0) out1 = some H1')
    (l2 : loadA P H1' 22 (.p box 0) = some out1) (hl : lenA P 22 val = some (.i .i64 l)) (hc : convA P 3 49 (.i .i64 l) = some (.i .u32 n)) (c2 : CA P S 18 [out1, .i .u32 n] H1' (out2, H2)) (s2 : storeA P H2 22 (.p box 0) out2 = some H2')
    (l3 : loadA P H2' 22 (.p box 0) = some out2) (hns : val.isS = false) (ha : appendA P H2' 22 false out2 val = some (out3, H3)) (s3 : storeA P H3 22 (.p box 0) out3 = some H4) :
    CA P S 41 [.i .u32 k, val, .p box 0] H (.t [], H4) := by
  refine CA.goS E (fn := Tryd.f41) (vs := []) (by kernel_rfl) rfl (.inl rfl) ?_
  apply Exists.intro
  apply And.intro
  · dsimp only [Tryd.f41]
    dsimp only [List.length_cons, List.length_nil, List.cons_append, List.nil_append, Nat.reduceSub, Nat.reduceAdd, List.replicate]
    refine RU.seq RU.rg ?_
    refine RU.seq RU.rg ?_
    exact RU.rg
  · rfl
theorem clo {L0 : Nat} {H : Heap} {k : Nat} {val out : AV} {bs vb : B} {box : Nat} {ty : TypeId} (hL : L0 ≤ box) (hbx : H[box]? = some (.cells ty .vr [out])) (hob : ∀ i o n, out = .sl i o n → box ≠ i) (ho : OutAt L0 H out bs) (hk : k < 4294967296) (hv : BytesAt (fun i => i < L0) H val vb) (hvl : vb.length < 4294967296)
    (hb : bs.length + (uv k ++ (uv vb.length ++ vb)).length ≤ 1099511627776) :
    ∃ out' H', CA P S 41 [.i .u32 (k : Nat), val, .p box 0] H (.t [], H') ∧ H'[box]? = some (.cells ty .vr [out']) ∧ OutAt L0 H' out' (bs ++ (uv k ++ (uv vb.length ++ vb))) ∧ BKeep H box out H' out' ∧ WKeep L0 H H' ∧ (∀ i o n, out' = .sl i o n → box ≠ i) := by
  have hlt := (List.getElem?_eq_some_iff.1 hbx).1
  have p1 := uv_pos k
  have p2 := uv_pos vb.length
  have q1 := uv_le hk
  have q2 := uv_le hvl
  simp only [List.length_append] at hb
  have hvk : ∀ {H' : Heap}, WKeep L0 H H' → BytesAt (fun i => i < L0) H' val vb := fun w => BytesAt.kt hv ⟨w.len, fun i b hi hx => ⟨hi, (w.at_ i hi).trans hx⟩⟩
  obtain ⟨out1, H1, c1, o1, w1, k1⟩ := ap_uv E (by omega) ho hk (by omega)
  obtain ⟨H1', s1, b1, o1', bk1, w1', n1⟩ := back hL hbx hob o1 k1 w1
  obtain ⟨out2, H2, c2, o2, w2, k2⟩ := ap_uv E (by have := w1'.len; omega) o1' hvl (by simp; omega)
  obtain ⟨H2', s2, b2, o2', bk2, w2', n2⟩ := back hL b1 n1 o2 k2 w2
  have hl2 : L0 ≤ H2'.length := Nat.le_trans (Nat.le_trans hL (Nat.le_of_lt hlt)) (w1'.trans w2').len
  obtain ⟨out3, H3, ha, o3, w3⟩ := ap_bytes (str := false) (x := val) (new := vb) hl2 o2' (hvk (w1'.trans w2')).first (by simp; omega)
  have hne : out2 ≠ .s0 := by
    intro e
    rcases o2 with ⟨_, h⟩ | ⟨i, _, h, _⟩
    · have h2 := congrArg List.length h; simp only [List.length_append, List.length_nil] at h2; omega
    · rw [e] at h; cases h
  have k3 := app_keep ha o2'.shape (hvk (w1'.trans w2')).first (.inr hne)
  obtain ⟨H4, s3, b3, o3', bk3, w3', n3⟩ := back hL b2 n2 o3 k3 w3
  refine ⟨out3, H4, clo_run E (ld_cell aggB hbx rfl) c1 s1 (ld_cell aggB b1 rfl) (hv.len bty) (cv_int_u32 _ hvl) c2 s2 (ld_cell aggB b2 rfl) (BytesAt.noS' hv) ha s3, b3, ?_, (bk1.trans bk2).trans bk3, (w1'.trans w2').trans w3', n3⟩
  simpa [List.append_assoc] using o3'
end
def okT' : List (Nat × B) → Prop
  | [] => True
  | (k, v) :: r => k < 4294967296 ∧ v.length < 4294967296 ∧ okT' r
theorem eachRun_det {box : Nat} {K : List Nat} : ∀ {es : List (Int × AV)} {H H1 H2 : Heap}, EachRun box K H es H1 → EachRun box K H es H2 → H1 = H2
  | [], _, _, _, h, k => by cases h; cases k; rfl
  | (k0, v) :: es, H, H1, H2, h, k => by
    cases h with
    | cons h1 _ t1 =>
      cases k with
      | cons h2 _ t2 =>
        have := CA.det h1 h2
        simp only [Prod.mk.injEq, true_and] at this
        subst this
        exact eachRun_det t1 t2
theorem fold {L0 : Nat} {ty : TypeId} {box : Nat} {K : List Nat} (hL : L0 ≤ box) : ∀ (es : List (Int × AV)) (ts : List (Nat × B)) (H : Heap) (out : AV) (bs : B), es.map (·.1) = ts.map (fun t => ((t.1 : Nat) : Int)) → okT' ts →
    (∀ (j : Nat) (k : Int) (v : AV) (kk : Nat) (vb : B), es[j]? = some (k, v) → ts[j]? = some (kk, vb) → BytesAt (fun i => i < L0) H v vb) → H[box]? = some (.cells ty .vr [out]) → (∀ i o n, out = .sl i o n → box ≠ i) → OutAt L0 H out bs →
    (∀ j ∈ K, j ≠ box ∧ j < H.length ∧ ∀ i o n, out = .sl i o n → j ≠ i) → bs.length + (encT ts).length ≤ 1099511627776 →
    ∃ out' H', EachRun box K H es H' ∧ H'[box]? = some (.cells ty .vr [out']) ∧ OutAt L0 H' out' (bs ++ encT ts) ∧ WKeep L0 H H'
  | [], [], H, out, bs, _, _, _, hbx, _, ho, _, _ => ⟨out, H, .nil H, hbx, by simpa [encT] using ho, .refl _ _⟩
  | [], _ :: _, _, _, _, h, _, _, _, _, _, _, _ => by simp at h
  | _ :: _, [], _, _, _, h, _, _, _, _, _, _, _ => by simp at h
  | (k, v) :: es, (kk, vb) :: ts, H, out, bs, h, hok, hv, hbx, hob, ho, hK, hb => by
    simp only [List.map_cons, List.cons.injEq] at h
    obtain ⟨rfl, h⟩ := h
    obtain ⟨o1, o2, o3⟩ : kk < 4294967296 ∧ vb.length < 4294967296 ∧ okT' ts := hok
    have he : encT ((kk, vb) :: ts) = (uv kk ++ (uv vb.length ++ vb)) ++ encT ts := rfl
    rw [he] at hb ⊢
    rw [List.length_append] at hb
    obtain ⟨out1, H1, c1, b1, q1, bk, w1, n1⟩ := clo emp_noS hL hbx hob ho o1 (hv 0 _ _ _ _ rfl rfl) o2 (by omega)
    obtain ⟨out2, H2, r2, b2, q2, w2⟩ := fold hL es ts H1 out1 (bs ++ (uv kk ++ (uv vb.length ++ vb))) h o3 (fun j k v kk vb hj ht => BytesAt.kt (hv (j + 1) k v kk vb (by simpa using hj) (by simpa using ht)) ⟨w1.len, fun i b hi hx => ⟨hi, (w1.at_ i hi).trans hx⟩⟩) b1 n1 q1
      (fun j hj => ⟨(hK j hj).1, Nat.lt_of_lt_of_le (hK j hj).2.1 bk.len, fun i o n e => by have := bk.new i o n e; have := (hK j hj).2.1; omega⟩) (by rw [List.length_append]; omega)
    refine ⟨out2, H2, .cons c1 (fun j hj => ?_) r2, b2, by rw [← List.append_assoc]; exact q2, w1.trans w2⟩
    obtain ⟨h1, h2, h3⟩ := hK j hj
    have hx : H[j]? = some (H[j]'h2) := by simp
    rw [bk.at_ j _ hx h1 h3, hx]
theorem each_det {args : List AV} {H : Heap} {r r' : AV × Heap} (h : EachRel args H r) (k : EachRel args H r') : r = r' := by
  obtain ⟨b, o, dst, x, ty, kn, cs, rfl, hb, hx, hd, hc⟩ := h
  obtain ⟨b', o', dst', x', ty', kn', cs', ha, hb', hx', hd', hc'⟩ := k
  simp only [List.cons.injEq, AV.p.injEq, and_true] at ha
  obtain ⟨⟨rfl, rfl⟩, rfl⟩ := ha
  rw [hb] at hb'; cases hb'
  rw [hx] at hx'; cases hx'
  rcases hc with ⟨hn, rfl⟩ | ⟨i, es, es1, rfl, hi, hp, hso, h0, hbig, hrun, hv⟩ <;> rcases hc' with ⟨hn', rfl⟩ | ⟨i', es', es1', hxe, hi', hp', hso', h0', hbig', hrun', hv'⟩
  · rfl
  · subst hxe
    rcases hn with hn | ⟨j, hn, hj⟩
    · cases hn
    · cases hn; rw [hj] at hi'; cases hi'; simp at h0'
  · rcases hn' with hn | ⟨j, hn, hj⟩
    · cases hn
    · cases hn; rw [hj] at hi; cases hi; simp at h0
  · cases hxe
    rw [hi] at hi'; cases hi'
    have he : es1 = es1' := List.Perm.eq_of_pairwise (le := fun a b : Int × AV => a.1 < b.1) (fun a b _ _ h1 h2 => by omega) (List.pairwise_map.1 hso) (List.pairwise_map.1 hso') (hp.trans hp'.symm)
    subst he
    have : r.2 = r'.2 := eachRun_det hrun hrun'
    have h2 : r.1 = r'.1 := by rw [this] at hv; rw [hv] at hv'; exact Option.some.inj hv'
    exact Prod.ext h2 this
theorem each_ca {args : List AV} {H : Heap} {r : AV × Heap} (h : EachRel args H r) : CA P NS 25 args H r := by
  refine CA.sum ?_
  have hex : ∃ r, EachRel args H r := ⟨r, h⟩
  refine orS_left ?_
  show eachS 25 args H = some r
  unfold eachS
  rw [dif_pos hex]
  exact congrArg some (each_det hex.choose_spec h)
theorem okT_okT' : ∀ {m : Nat} {ts : List (Nat × B)}, okT m ts → okT' ts ∧ (ts.map (fun t => ((t.1 : Nat) : Int))).Pairwise (· < ·) ∧ ∀ t ∈ ts, m ≤ t.1
  | _, [], _ => ⟨trivial, .nil, fun t h => by cases h⟩
  | m, (k, v) :: r, h => by
    obtain ⟨h1, h2, h3, h4⟩ := h
    obtain ⟨a, b, c⟩ := okT_okT' h4
    refine ⟨⟨h2, h3, a⟩, List.pairwise_cons.2 ⟨fun x hx => ?_, b⟩, fun t ht => ?_⟩
    · obtain ⟨t, ht, rfl⟩ := List.mem_map.1 hx
      have := c t ht
      show ((k : Nat) : Int) < ((t.1 : Nat) : Int)
      omega
    · rcases List.mem_cons.1 ht with rfl | ht
      · exact h1
      · have := c t ht; omega
theorem enc_ge : ∀ (ts : List (Nat × B)), ts.length ≤ (encT ts).length
  | [] => by simp [encT]
  | (k, v) :: r => by
    have he : encT ((k, v) :: r) = (uv k ++ (uv v.length ++ v)) ++ encT r := rfl
    have := enc_ge r
    have := uv_pos k
    rw [he]; simp; omega
theorem ape_each : ApE 25 := ⟨fun L0 H out bs b o ty kn cs x ts hL ho hb hx hbl hr hlen => by
  obtain ⟨ts', e, hok, h⟩ := hr
  cases e
  have h1 := ho.one
  rcases h with ⟨rfl, hx0⟩ | ⟨i, es, hx0, hil, hi, es', hp, hk, hv⟩
  · simp at hx0; subst hx0
    exact ⟨out, H, each_ca ⟨b, o, out, _, ty, kn, cs, rfl, hb, hx, h1.2, .inl ⟨.inl rfl, rfl⟩⟩, by simpa [encT] using ho, .refl _ _⟩
  · simp at hx0; subst hx0
    by_cases h0 : es.length = 0
    · obtain rfl : es = [] := List.eq_nil_of_length_eq_zero h0
      have : ts = [] := by
        have a := hp.length_eq
        have c := congrArg List.length hk
        simp at a c
        exact List.eq_nil_of_length_eq_zero (by rw [← c, a]; rfl)
      subst this
      exact ⟨out, H, each_ca ⟨b, o, out, _, ty, kn, cs, rfl, hb, hx, h1.2, .inl ⟨.inr ⟨i, rfl, hi⟩, rfl⟩⟩, by simpa [encT] using ho, .refl _ _⟩
    · obtain ⟨q1, q2, _⟩ := okT_okT' hok
      have hln : es'.length = ts.length := by have := congrArg List.length hk; simpa using this
      have hel := hp.length_eq
      have hts := enc_ge ts
      have hwe : WKeep L0 H (eachHeap H out es') := WKeep.app L0 H _ hL
      have hbx : (eachHeap H out es')[H.length]? = some (.cells tB .vr [out]) := by unfold eachHeap; rw [List.getElem?_append_right (Nat.le_refl _)]; simp
      have hbn : ∀ i o n, out = .sl i o n → i < H.length := fun i o n e => by
        rcases ho with ⟨rfl, _⟩ | ⟨j, _, rfl, hj, _⟩
        · cases e
        · cases e; exact (List.getElem?_eq_some_iff.1 hj).1
      have hbo : ∀ i o n, out = .sl i o n → L0 ≤ i := fun i o n e => by
        rcases ho with ⟨rfl, _⟩ | ⟨j, hj, rfl, _, _⟩
        · cases e
        · cases e; exact hj
      have hle : (eachHeap H out es').length = H.length + 3 := by simp [eachHeap]
      obtain ⟨out', H', r1, b1, o1, w1⟩ := fold (K := [b, i, H.length + 1, H.length + 2]) hL es' ts (eachHeap H out es') out bs hk q1 (fun j k v kk vb hj ht => BytesAt.kt (hv j k v kk vb hj ht) ⟨hwe.len, fun i b hi hx => ⟨hi, (hwe.at_ i hi).trans hx⟩⟩) hbx (fun i o n e => by have := hbn i o n e; omega) (ho.app _)
        (fun j hj => by
          have hil : i < L0 := hil
          simp at hj
          refine ⟨by omega, by omega, fun q o n e => ?_⟩
          have := hbn q o n e
          have := hbo q o n e
          omega) hlen
      refine ⟨out', H', each_ca ⟨b, o, out, _, ty, kn, cs, rfl, hb, hx, h1.2, .inr ⟨i, es, es', rfl, hi, hp, by rw [hk]; exact q2, by omega, by omega, r1, ld_cell aggB b1 rfl⟩⟩, o1, hwe.trans w1⟩⟩
end Go.Proofs.YtiifcfngbbhgoagDoor.Rd

namespace Go.Proofs.YtiifcfngbbhgoagDoor.Rd
open Go Go.Shelf
def sa6_ren : Go.Shelf.Ren := ⟨fun | 6 => 46 | 10 => 49 | 11 => 50 | 12 => 51 | 13 => 52 | 14 => 53 | 24 => 45 | 25 => 63 | 26 => 64 | 27 => 65 | 28 => 66 | 29 => 67 | 30 => 68 | 31 => 69 | 32 => 70 | 33 => 71 | 34 => 72 | 35 => 73 | 36 => 74 | 37 => 75 | 38 => 76 | 39 => 77 | n => n, fun | 20 => 20 | 26 => 79 | 35 => 84 | 0 => 0 | 37 => 86 | 3 => 3 | 41 => 68 | 44 => 91 | 49 => 49 | 51 => 66 | 4 => 4 | 54 => 98 | 53 => 97 | 58 => 102 | 5 => 5 | 9 => 9 | 60 => 104 | 64 => 107 | 66 => 109 | 67 => 110 | 17 => 17 | 32 => 81 | 33 => 82 | 82 => 126 | 12 => 12 | 75 => 119 | 76 => 120 | 77 => 121 | 78 => 122 | 79 => 123 | 80 => 124 | n => n, fun | n => n⟩
theorem sa6 : Go.Proofs.LaysGg.n6 Tryd.prog sa6_ren := {
  mixed := by kernel_rfl,
  f6 := Tryd.func46.trans (congrArg some (by kernel_rfl)),
  f10 := Tryd.func49.trans (congrArg some (by kernel_rfl)),
  f11 := Tryd.func50.trans (congrArg some (by kernel_rfl)),
  f12 := Tryd.func51.trans (congrArg some (by kernel_rfl)),
  f13 := Tryd.func52.trans (congrArg some (by kernel_rfl)),
  f14 := Tryd.func53.trans (congrArg some (by kernel_rfl)),
  f24 := Tryd.func45.trans (congrArg some (by kernel_rfl)),
  f25 := Tryd.func63.trans (congrArg some (by kernel_rfl)),
  f26 := Tryd.func64.trans (congrArg some (by kernel_rfl)),
  f27 := Tryd.func65.trans (congrArg some (by kernel_rfl)),
  f28 := Tryd.func66.trans (congrArg some (by kernel_rfl)),
  f29 := Tryd.func67.trans (congrArg some (by kernel_rfl)),
  f30 := Tryd.func68.trans (congrArg some (by kernel_rfl)),
  f31 := Tryd.func69.trans (congrArg some (by kernel_rfl)),
  f32 := Tryd.func70.trans (congrArg some (by kernel_rfl)),
  f33 := Tryd.func71.trans (congrArg some (by kernel_rfl)),
  f34 := Tryd.func72.trans (congrArg some (by kernel_rfl)),
  f35 := Tryd.func73.trans (congrArg some (by kernel_rfl)),
  f36 := Tryd.func74.trans (congrArg some (by kernel_rfl)),
  f37 := Tryd.func75.trans (congrArg some (by kernel_rfl)),
  f38 := Tryd.func76.trans (congrArg some (by kernel_rfl)),
  f39 := Tryd.func77.trans (congrArg some (by kernel_rfl)),
  t0 := Tryd.underlying0,
  a0 := Tryd.isAgg0,
  z0 := Tryd.sizeOf0,
  v0 := Tryd.zeroValue0,
  i0 := by kernel_rfl,
  t3 := Tryd.underlying3,
  a3 := Tryd.isAgg3,
  z3 := Tryd.sizeOf3,
  v3 := Tryd.zeroValue3,
  i3 := by kernel_rfl,
  t4 := Tryd.underlying4,
  a4 := Tryd.isAgg4,
  z4 := Tryd.sizeOf4,
  v4 := Tryd.zeroValue4,
  i4 := by kernel_rfl,
  t5 := Tryd.underlying5,
  a5 := Tryd.isAgg5,
  z5 := Tryd.sizeOf5,
  v5 := Tryd.zeroValue5,
  i5 := by kernel_rfl,
  t9 := Tryd.underlying9,
  a9 := Tryd.isAgg9,
  z9 := Tryd.sizeOf9,
  v9 := Tryd.zeroValue9,
  i9 := by kernel_rfl,
  t12 := Tryd.underlying12,
  a12 := Tryd.isAgg12,
  z12 := Tryd.sizeOf12,
  v12 := Tryd.zeroValue12,
  i12 := by kernel_rfl,
  t17 := Tryd.underlying17,
  a17 := Tryd.isAgg17,
  z17 := Tryd.sizeOf17,
  v17 := Tryd.zeroValue17,
  i17 := by kernel_rfl,
  t20 := Tryd.underlying20,
  a20 := Tryd.isAgg20,
  z20 := Tryd.sizeOf20,
  v20 := Tryd.zeroValue20,
  i20 := by kernel_rfl,
  t26 := Tryd.underlying79,
  a26 := Tryd.isAgg79,
  z26 := Tryd.sizeOf79,
  v26 := Tryd.zeroValue79,
  i26 := by kernel_rfl,
  t32 := Tryd.underlying81,
  a32 := Tryd.isAgg81,
  z32 := Tryd.sizeOf81,
  v32 := Tryd.zeroValue81,
  i32 := by kernel_rfl,
  t33 := Tryd.underlying82,
  a33 := Tryd.isAgg82,
  z33 := Tryd.sizeOf82,
  v33 := Tryd.zeroValue82,
  i33 := by kernel_rfl,
  t35 := Tryd.underlying84,
  a35 := Tryd.isAgg84,
  z35 := Tryd.sizeOf84,
  v35 := Tryd.zeroValue84,
  i35 := by kernel_rfl,
  t37 := Tryd.underlying86,
  a37 := Tryd.isAgg86,
  z37 := Tryd.sizeOf86,
  v37 := Tryd.zeroValue86,
  i37 := by kernel_rfl,
  t41 := Tryd.underlying68,
  a41 := Tryd.isAgg68,
  z41 := Tryd.sizeOf68,
  v41 := Tryd.zeroValue68,
  i41 := by kernel_rfl,
  t44 := Tryd.underlying91,
  a44 := Tryd.isAgg91,
  z44 := Tryd.sizeOf91,
  v44 := Tryd.zeroValue91,
  i44 := by kernel_rfl,
  t49 := Tryd.underlying49,
  a49 := Tryd.isAgg49,
  z49 := Tryd.sizeOf49,
  v49 := Tryd.zeroValue49,
  i49 := by kernel_rfl,
  t51 := Tryd.underlying66,
  a51 := Tryd.isAgg66,
  z51 := Tryd.sizeOf66,
  v51 := Tryd.zeroValue66,
  i51 := by kernel_rfl,
  t53 := Tryd.underlying97,
  a53 := Tryd.isAgg97,
  z53 := Tryd.sizeOf97,
  v53 := Tryd.zeroValue97,
  i53 := by kernel_rfl,
  t54 := Tryd.underlying98,
  a54 := Tryd.isAgg98,
  z54 := Tryd.sizeOf98,
  v54 := Tryd.zeroValue98,
  i54 := by kernel_rfl,
  t58 := Tryd.underlying102,
  a58 := Tryd.isAgg102,
  z58 := Tryd.sizeOf102,
  v58 := Tryd.zeroValue102,
  i58 := by kernel_rfl,
  t60 := Tryd.underlying104,
  a60 := Tryd.isAgg104,
  z60 := Tryd.sizeOf104,
  v60 := Tryd.zeroValue104,
  i60 := by kernel_rfl,
  t64 := Tryd.underlying107,
  a64 := Tryd.isAgg107,
  z64 := Tryd.sizeOf107,
  v64 := Tryd.zeroValue107,
  i64 := by kernel_rfl,
  t66 := Tryd.underlying109,
  a66 := Tryd.isAgg109,
  z66 := Tryd.sizeOf109,
  v66 := Tryd.zeroValue109,
  i66 := by kernel_rfl,
  t67 := Tryd.underlying110,
  a67 := Tryd.isAgg110,
  z67 := Tryd.sizeOf110,
  v67 := Tryd.zeroValue110,
  i67 := by kernel_rfl,
  t75 := Tryd.underlying119,
  a75 := Tryd.isAgg119,
  z75 := Tryd.sizeOf119,
  v75 := Tryd.zeroValue119,
  i75 := by kernel_rfl,
  t76 := Tryd.underlying120,
  a76 := Tryd.isAgg120,
  z76 := Tryd.sizeOf120,
  v76 := Tryd.zeroValue120,
  i76 := by kernel_rfl,
  t77 := Tryd.underlying121,
  a77 := Tryd.isAgg121,
  z77 := Tryd.sizeOf121,
  v77 := Tryd.zeroValue121,
  i77 := by kernel_rfl,
  t78 := Tryd.underlying122,
  a78 := Tryd.isAgg122,
  z78 := Tryd.sizeOf122,
  v78 := Tryd.zeroValue122,
  i78 := by kernel_rfl,
  t79 := Tryd.underlying123,
  a79 := Tryd.isAgg123,
  z79 := Tryd.sizeOf123,
  v79 := Tryd.zeroValue123,
  i79 := by kernel_rfl,
  t80 := Tryd.underlying124,
  a80 := Tryd.isAgg124,
  z80 := Tryd.sizeOf124,
  v80 := Tryd.zeroValue124,
  i80 := by kernel_rfl,
  t82 := Tryd.underlying126,
  a82 := Tryd.isAgg126,
  z82 := Tryd.sizeOf126,
  v82 := Tryd.zeroValue126,
  i82 := by kernel_rfl }
end Go.Proofs.YtiifcfngbbhgoagDoor.Rd

