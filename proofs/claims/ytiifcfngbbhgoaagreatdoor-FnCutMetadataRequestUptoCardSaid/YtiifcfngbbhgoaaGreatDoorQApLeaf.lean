/-
  MORE LEAVES, as kbin writes them.
-/
import Derived.Test.YtiifcfngbbhgoaaGreatDoorQApUv
import Derived.Test.YtiifcfngbbhgoaaGreatDoorQApKit
import Derived.Test.YtiifcfngbbhgoaaGreatDoorQRdStr
import Derived.Test.YtiifcfngbbhgoaaGreatDoorQRdUvB
import Derived.Test.YtiifcfngbbhgoaaGreatDoorQRdNull
import Derived.Test.YtiifcfngbbhgoaaGreatDoorQRdTags
set_option linter.constructorNameAsVariable false
set_option linter.unusedVariables false
set_option linter.unusedSimpArgs false
namespace Go.Proofs.YtiifcfngbbhgoaaGreatDoor.Rd
open Go Go.Proofs.YtiifcfngbbhgoaaGreatDoor.Ax Go.Proofs.YtiifcfngbbhgoaaGreatDoor.Wire
set_option maxRecDepth 100000
set_option maxHeartbeats 1000000
theorem bool_t {H H1 H2 : Heap} {out x out' : AV} (hbl : buildSliceA P H 22 1 [(0, .i .u8 1)] = some (x, H1)) (hx : x.isS = false) (ha : appendA P H1 22 false out x = some (out', H2)) :
    CA P NS 41 [out, .b true] H (out', H2) := by
  refine CA.go (fn := Tryz.f41) (vs := [_]) (by kernel_rfl) rfl (.inr rfl) ?_
  apply Exists.intro
  apply And.intro
  · dsimp only [Tryz.f41]
    dsimp only [List.length_cons, List.length_nil, List.cons_append, List.nil_append, Nat.reduceSub, Nat.reduceAdd, List.replicate]
    refine RU.seq RU.rg ?_
    (apply RU.seqx; rotate_left; focus (simp)); refine RU.seq RU.rg ?_; apply RU.condT rfl
    refine RU.seq RU.rg ?_
    exact RU.ret
  · rfl
theorem bool_f {H H1 H2 : Heap} {out x out' : AV} (hbl : buildSliceA P H 22 1 [(0, .i .u8 0)] = some (x, H1)) (hx : x.isS = false) (ha : appendA P H1 22 false out x = some (out', H2)) :
    CA P NS 41 [out, .b false] H (out', H2) := by
  refine CA.go (fn := Tryz.f41) (vs := [_]) (by kernel_rfl) rfl (.inr rfl) ?_
  apply Exists.intro
  apply And.intro
  · dsimp only [Tryz.f41]
    dsimp only [List.length_cons, List.length_nil, List.cons_append, List.nil_append, Nat.reduceSub, Nat.reduceAdd, List.replicate]
    refine RU.seq RU.rg ?_
    refine RU.seq (RU.seq RU.rg (RU.condF rfl RU.skip)) ?_
    refine RU.seq RU.rg ?_
    exact RU.ret
  · rfl
theorem apk_bool (flex null : Bool) : ApK 41 flex .bool null := ⟨fun L0 H out bs av v hL ho hr hk hb => by
  cases v <;> simp only [RepK] at hr <;> first | exact hr.elim | skip
  rename_i x
  subst hr
  have he : encK flex .bool (.b x) = [if x then 1 else 0] := rfl
  rw [he] at hb ⊢
  have hfi := first_new H 5 [if x then 1 else 0] (by simp)
  obtain ⟨out', H', ha, h1, h2⟩ := ap_bytes (str := false) (x := .sl H.length 0 1) (new := [if x then 1 else 0]) (by simp; omega) (ho.app [.cells 5 .row (u8s [if x then 1 else 0])]) hfi hb
  refine ⟨out', H', ?_, h1, (WKeep.app L0 H _ hL).trans h2⟩
  cases x with
  | true => exact bool_t (build_1 H 1) rfl ha
  | false => exact bool_f (build_1 H 0) rfl ha⟩
theorem be8 (n : Int) : be 8 n = [UInt8.ofNat ((n / 72057594037927936) % 256).toNat, UInt8.ofNat ((n / 281474976710656) % 256).toNat, UInt8.ofNat ((n / 1099511627776) % 256).toNat, UInt8.ofNat ((n / 4294967296) % 256).toNat, UInt8.ofNat ((n / 16777216) % 256).toNat, UInt8.ofNat ((n / 65536) % 256).toNat, UInt8.ofNat ((n / 256) % 256).toNat, UInt8.ofNat (n % 256).toNat] := by simp [be]
theorem be8_wrap (n : Int) : be 8 (IntKind.u64.wrap n) = be 8 n := by
  have e : IntKind.u64.wrap n = n % 18446744073709551616 := by simp [IntKind.wrap, IntKind.signed, IntKind.bits]
  rw [e, be8, be8]
  have h1 : n % 18446744073709551616 / 72057594037927936 % 256 = n / 72057594037927936 % 256 := by omega
  have h2 : n % 18446744073709551616 / 281474976710656 % 256 = n / 281474976710656 % 256 := by omega
  have h3 : n % 18446744073709551616 / 1099511627776 % 256 = n / 1099511627776 % 256 := by omega
  have h4 : n % 18446744073709551616 / 4294967296 % 256 = n / 4294967296 % 256 := by omega
  have h5 : n % 18446744073709551616 / 16777216 % 256 = n / 16777216 % 256 := by omega
  have h6 : n % 18446744073709551616 / 65536 % 256 = n / 65536 % 256 := by omega
  have h7 : n % 18446744073709551616 / 256 % 256 = n / 256 % 256 := by omega
  have h8 : n % 18446744073709551616 % 256 = n % 256 := by omega
  rw [h1, h2, h3, h4, h5, h6, h7, h8]
theorem cv_i64_u32 (n : Nat) (h : n < 4294967296) : convA P 3 53 (.i .i64 (n : Int)) = some (.i .u32 (n : Int)) := by
  have e : convA P 3 53 (.i .i64 (n : Int)) = some (.i .u32 (IntKind.u32.wrap (n : Int))) := by kernel_rfl
  rw [e]
  simp [IntKind.wrap, IntKind.signed, IntKind.bits]; omega
theorem add1u (n : Nat) (h : n + 1 < 4294967296) (c : Bool) : binA P .add 53 c (.i .u32 1) (.i .u32 (n : Int)) = some (.i .u32 ((n + 1 : Nat) : Int)) := by
  have e : binA P .add 53 c (.i .u32 1) (.i .u32 (n : Int)) = some (.i .u32 (IntKind.u32.wrap (1 + (n : Int)))) := by kernel_rfl
  rw [e]
  simp [IntKind.wrap, IntKind.signed, IntKind.bits]; omega
theorem cstr_run {H H1 H2 : Heap} {out out1 out2 x : AV} {n m : Int} (hlen : lenA P 9 x = some (.i .i64 n)) (hc : convA P 3 53 (.i .i64 n) = some (.i .u32 n)) (hd : binA P .add 53 true (.i .u32 1) (.i .u32 n) = some (.i .u32 m)) (c1 : CA P NS 38 [out, .i .u32 m] H (out1, H1)) (ha : appendA P H1 22 true out1 x = some (out2, H2)) :
    CA P NS 34 [out, x] H (out2, H2) := by
  refine CA.go (fn := Tryz.f34) (vs := [_]) (by kernel_rfl) rfl (.inr rfl) ?_
  apply Exists.intro
  apply And.intro
  · dsimp only [Tryz.f34]
    dsimp only [List.length_cons, List.length_nil, List.cons_append, List.nil_append, Nat.reduceSub, Nat.reduceAdd, List.replicate]
    refine RU.seq RU.rg ?_
    refine RU.seq RU.rg ?_
    refine RU.seq RU.rg ?_
    exact RU.ret
  · rfl
theorem ap_cstr {L0 : Nat} {H : Heap} {out : AV} {bs x : B} (hL : L0 ≤ H.length) (ho : OutAt L0 H out bs) (hx : x.length + 1 < 4294967296) (hb : bs.length + ((uv (x.length + 1)).length + x.length) ≤ 1099511627776) :
    ∃ out' H', CA P NS 34 [out, .s (bst x)] H (out', H') ∧ OutAt L0 H' out' (bs ++ (uv (x.length + 1) ++ x)) ∧ WKeep L0 H H' := by
  obtain ⟨out1, H1, c1, h1, k1, _⟩ := ap_uv emp_ns (n := x.length + 1) hL ho hx (by omega)
  obtain ⟨out2, H2, a2, h2, k2⟩ := ap_bytes (str := true) (Nat.le_trans hL k1.len) h1 (first_s H1 x) (by simp only [List.length_append]; omega)
  rw [List.append_assoc] at h2
  have hlen := len_s (bst x)
  have hsz : (bst x).size = x.length := rfl
  rw [hsz] at hlen
  exact ⟨out2, H2, cstr_run hlen (cv_i64_u32 _ (by omega)) (add1u _ hx true) c1 a2, h2, k1.trans k2⟩
theorem apk_cstr : ApK 34 true .str false := ⟨fun L0 H out bs av v hL ho hr hk hb => by
  cases v <;> simp only [RepK] at hr <;> first | exact hr.elim | skip
  · rename_i x
    simp only [Bool.false_eq_true, if_false] at hr
    subst hr
    have he : encK true .str (.s x) = uv (x.length + 1) ++ x := rfl
    rw [he, List.length_append] at hb
    exact ap_cstr hL ho hk hb
  · cases hk⟩
theorem carr_run {H H1 : Heap} {out out1 : AV} {n m : Int} (hc : convA P 3 53 (.i .i64 n) = some (.i .u32 n)) (hd : binA P .add 53 true (.i .u32 1) (.i .u32 n) = some (.i .u32 m)) (c1 : CA P NS 38 [out, .i .u32 m] H (out1, H1)) :
    CA P NS 31 [out, .i .i64 n] H (out1, H1) := by
  refine CA.go (fn := Tryz.f31) (vs := [_]) (by kernel_rfl) rfl (.inr rfl) ?_
  apply Exists.intro
  apply And.intro
  · dsimp only [Tryz.f31]
    dsimp only [List.length_cons, List.length_nil, List.cons_append, List.nil_append, Nat.reduceSub, Nat.reduceAdd, List.replicate]
    refine RU.seq RU.rg ?_
    refine RU.seq RU.rg ?_
    exact RU.ret
  · rfl
theorem apl_carr : ApL 31 true false := ⟨fun L0 H out bs n z hL ho hn hb => by
  obtain ⟨out', H', c1, h1, h2, _⟩ := ap_uv emp_ns (n := n + 1) hL ho (by omega) (by have := uv_le (n := n + 1) (by omega); omega)
  exact ⟨out', H', carr_run (cv_i64_u32 _ (by omega)) (add1u _ (by omega) true) c1, h1, h2⟩⟩
theorem uuid_run {H H1 H2 : Heap} {out out1 : AV} {cs : List AV} (hH : H1 = H ++ [Blk.cells 75 .vr cs]) (h1 : cs.all AV.one = true) (hs : sliceArrA P H1 75 (.p H.length 0) = some (.sl H.length 0 16)) (ha : appendA P H1 22 false out (.sl H.length 0 16) = some (out1, H2)) :
    CA P NS 33 [out, .g cs] H (out1, H2) := by
  refine CA.go (fn := Tryz.f33) (vs := [_]) (by kernel_rfl) rfl (.inr rfl) ?_
  apply Exists.intro
  apply And.intro
  · dsimp only [Tryz.f33]
    dsimp only [List.length_cons, List.length_nil, List.cons_append, List.nil_append, Nat.reduceSub, Nat.reduceAdd, List.replicate]
    (apply RU.seq; focus (apply RU.region; refine OS.st rfl rfl ?_ (op_box rfl h1); dsimp only [AV.cells, putA, List.set_cons_zero, List.set_cons_succ]; rw [← hH]; refine OS.st rfl rfl ?_; dsimp only [AV.cells, putA, List.set_cons_zero, List.set_cons_succ]; exact OS.nil))
    refine RU.seq RU.rg ?_
    exact RU.ret
  · rfl
theorem apk_uuid (flex null : Bool) : ApK 33 flex .uuid null := ⟨fun L0 H out bs av v hL ho hr hk hb => by
  cases v <;> simp only [RepK] at hr <;> first | exact hr.elim | skip
  rename_i x
  subst hr
  have hx : x.length = 16 := hk
  have he : encK flex .uuid (.s x) = x := rfl
  rw [he] at hb ⊢
  have hfi : firstA (H ++ [.cells 75 .vr (u8s x)]) 1 (.sl H.length 0 16) = some (x.length, u8s x) := by
    have ht : ((u8s x).drop 0).take (16 * 1) = u8s x := by rw [List.drop_zero, Nat.mul_one, ← hx, ← u8s_length x, List.take_length]
    simp only [firstA, List.getElem?_concat_length]
    rw [if_pos ⟨by rw [u8s_length]; omega, by rw [ht]; exact u8s_one _⟩, ht, hx]
  obtain ⟨out', H', ha, h1, h2⟩ := ap_bytes (str := false) (x := .sl H.length 0 16) (new := x) (by simp; omega) (ho.app [.cells 75 .vr (u8s x)]) hfi hb
  refine ⟨out', H', uuid_run rfl (u8s_one x) ?_ ha, h1, (WKeep.app L0 H _ hL).trans h2⟩
  have hu : P.underlying 75 = some (.array 16 5) := by kernel_rfl
  simp [sliceArrA, hu, sizeU]⟩
end Go.Proofs.YtiifcfngbbhgoaaGreatDoor.Rd

namespace Go.Proofs.YtiifcfngbbhgoaaGreatDoor.Rd
open Go Go.Proofs.YtiifcfngbbhgoaaGreatDoor.Ax Go.Proofs.YtiifcfngbbhgoaaGreatDoor.Wire
set_option maxRecDepth 100000
set_option maxHeartbeats 1000000
theorem aggStr : aggA P 9 = some false := by kernel_rfl
theorem nstr_e0 (c : Bool) : binA P .eql 76 c .p0 .p0 = some (.b true) := by kernel_rfl
theorem nstr_e1 (c : Bool) (i : Nat) : binA P .eql 76 c (.p i 0) .p0 = some (.b false) := by kernel_rfl
theorem nstr_nil {H H1 : Heap} {out out1 : AV} (c1 : CA P NS 66 [out, .i .i16 (-1)] H (out1, H1)) : CA P NS 37 [out, .p0] H (out1, H1) := by
  have e0 := nstr_e0 true
  refine CA.go (fn := Tryz.f37) (vs := [_]) (by kernel_rfl) rfl (.inr rfl) ?_
  apply Exists.intro
  apply And.intro
  · dsimp only [Tryz.f37]
    dsimp only [List.length_cons, List.length_nil, List.cons_append, List.nil_append, Nat.reduceSub, Nat.reduceAdd, List.replicate]
    refine RU.seq RU.rg ?_
    (apply RU.seqx; rotate_left; focus (simp)); refine RU.seq RU.rg ?_; apply RU.condT rfl
    refine RU.seq RU.rg ?_
    exact RU.ret
  · rfl
theorem nstr_ptr {H H1 : Heap} {out out1 x : AV} {i : Nat} (l0 : loadA P H 9 (.p i 0) = some x) (c1 : CA P NS 35 [out, x] H (out1, H1)) : CA P NS 37 [out, .p i 0] H (out1, H1) := by
  have e0 := nstr_e1 true i
  refine CA.go (fn := Tryz.f37) (vs := [_]) (by kernel_rfl) rfl (.inr rfl) ?_
  apply Exists.intro
  apply And.intro
  · dsimp only [Tryz.f37]
    dsimp only [List.length_cons, List.length_nil, List.cons_append, List.nil_append, Nat.reduceSub, Nat.reduceAdd, List.replicate]
    refine RU.seq RU.rg ?_
    refine RU.seq (RU.seq RU.rg (RU.condF rfl RU.skip)) ?_
    refine RU.seq RU.rg ?_
    exact RU.ret
  · rfl
theorem apk_nstr : ApK 37 false .str true := ⟨fun L0 H out bs av v hL ho hr hk hb => by
  cases v <;> simp only [RepK] at hr <;> first | exact hr.elim | skip
  · rename_i x
    simp only [if_true] at hr
    obtain ⟨i, ty, _, rfl, hi⟩ := hr
    have l0 : loadA P H 9 (.p i 0) = some (.s (bst x)) := by simp [loadA, loadAt, hi, aggStr]
    have hl : (be 2 (x.length : Int)).length = 2 := be_length _ _
    have he : encK false .str (.s x) = be 2 x.length ++ x := rfl
    rw [he, List.length_append, hl] at hb
    obtain ⟨out', H', c1, h1, h2⟩ := ap_str hL ho hb
    exact ⟨out', H', nstr_ptr l0 c1, h1, h2⟩
  · subst hr
    have he : encK false .str .nul = be 2 (-1) := rfl
    rw [he, be_length] at hb
    obtain ⟨out', H', c1, h1, h2⟩ := ap_i16 (n := -1) hL ho hb
    exact ⟨out', H', nstr_nil c1, h1, h2⟩⟩
theorem cnstr_e0 (c : Bool) : binA P .eql 76 c .p0 .p0 = some (.b true) := by kernel_rfl
theorem cnstr_e1 (c : Bool) (i : Nat) : binA P .eql 76 c (.p i 0) .p0 = some (.b false) := by kernel_rfl
theorem cnstr_nil {H H1 : Heap} {out out1 : AV} (c1 : CA P NS 38 [out, .i .u32 0] H (out1, H1)) : CA P NS 36 [out, .p0] H (out1, H1) := by
  have e0 := cnstr_e0 true
  refine CA.go (fn := Tryz.f36) (vs := [_]) (by kernel_rfl) rfl (.inr rfl) ?_
  apply Exists.intro
  apply And.intro
  · dsimp only [Tryz.f36]
    dsimp only [List.length_cons, List.length_nil, List.cons_append, List.nil_append, Nat.reduceSub, Nat.reduceAdd, List.replicate]
    refine RU.seq RU.rg ?_
    (apply RU.seqx; rotate_left; focus (simp)); refine RU.seq RU.rg ?_; apply RU.condT rfl
    refine RU.seq RU.rg ?_
    exact RU.ret
  · rfl
theorem cnstr_ptr {H H1 : Heap} {out out1 x : AV} {i : Nat} (l0 : loadA P H 9 (.p i 0) = some x) (c1 : CA P NS 34 [out, x] H (out1, H1)) : CA P NS 36 [out, .p i 0] H (out1, H1) := by
  have e0 := cnstr_e1 true i
  refine CA.go (fn := Tryz.f36) (vs := [_]) (by kernel_rfl) rfl (.inr rfl) ?_
  apply Exists.intro
  apply And.intro
  · dsimp only [Tryz.f36]
    dsimp only [List.length_cons, List.length_nil, List.cons_append, List.nil_append, Nat.reduceSub, Nat.reduceAdd, List.replicate]
    refine RU.seq RU.rg ?_
    refine RU.seq (RU.seq RU.rg (RU.condF rfl RU.skip)) ?_
    refine RU.seq RU.rg ?_
    exact RU.ret
  · rfl
theorem apk_cnstr : ApK 36 true .str true := ⟨fun L0 H out bs av v hL ho hr hk hb => by
  cases v <;> simp only [RepK] at hr <;> first | exact hr.elim | skip
  · rename_i x
    simp only [if_true] at hr
    obtain ⟨i, ty, _, rfl, hi⟩ := hr
    have l0 : loadA P H 9 (.p i 0) = some (.s (bst x)) := by simp [loadA, loadAt, hi, aggStr]
    have he : encK true .str (.s x) = uv (x.length + 1) ++ x := rfl
    rw [he, List.length_append] at hb
    obtain ⟨out', H', c1, h1, h2⟩ := ap_cstr hL ho hk hb
    exact ⟨out', H', cnstr_ptr l0 c1, h1, h2⟩
  · subst hr
    have he : encK true .str .nul = uv 0 := by unfold uv; rfl
    rw [he] at hb ⊢
    obtain ⟨out', H', c1, h1, h2, _⟩ := ap_uv emp_ns (n := 0) hL ho (by omega) hb
    exact ⟨out', H', cnstr_nil c1, h1, h2⟩⟩
theorem narr_nil {H H1 : Heap} {out out1 : AV} {n : Int} (c1 : CA P NS 65 [out, .i .i32 (-1)] H (out1, H1)) : CA P NS 30 [out, .i .i64 n, .b true] H (out1, H1) := by
  refine CA.go (fn := Tryz.f30) (vs := [_]) (by kernel_rfl) rfl (.inr rfl) ?_
  apply Exists.intro
  apply And.intro
  · dsimp only [Tryz.f30]
    dsimp only [List.length_cons, List.length_nil, List.cons_append, List.nil_append, Nat.reduceSub, Nat.reduceAdd, List.replicate]
    refine RU.seq RU.rg ?_
    (apply RU.seqx; rotate_left; focus (simp)); refine RU.seq RU.rg ?_; apply RU.condT rfl
    refine RU.seq RU.rg ?_
    exact RU.ret
  · rfl
theorem narr_len {H H1 : Heap} {out out1 : AV} {n m : Int} (hc : convA P 3 21 (.i .i64 n) = some (.i .i32 m)) (c1 : CA P NS 65 [out, .i .i32 m] H (out1, H1)) : CA P NS 30 [out, .i .i64 n, .b false] H (out1, H1) := by
  refine CA.go (fn := Tryz.f30) (vs := [_]) (by kernel_rfl) rfl (.inr rfl) ?_
  apply Exists.intro
  apply And.intro
  · dsimp only [Tryz.f30]
    dsimp only [List.length_cons, List.length_nil, List.cons_append, List.nil_append, Nat.reduceSub, Nat.reduceAdd, List.replicate]
    refine RU.seq RU.rg ?_
    refine RU.seq (RU.seq RU.rg (RU.condF rfl RU.skip)) ?_
    refine RU.seq RU.rg ?_
    exact RU.ret
  · rfl
theorem apl_narr : ApL 30 false true := ⟨fun L0 H out bs n z hL ho hn hb => by
  cases z with
  | true =>
    obtain ⟨out', H', c1, h1, h2⟩ := ap_i32 (n := -1) hL ho (by omega)
    exact ⟨out', H', narr_nil c1, h1, h2⟩
  | false =>
    obtain ⟨out', H', c1, h1, h2⟩ := ap_i32 (n := IntKind.i32.wrap ((n : Nat) : Int)) hL ho (by omega)
    rw [be4_wrap] at h1
    exact ⟨out', H', narr_len (cv_i64_i32 _) c1, h1, h2⟩⟩
theorem cnarr_nil {H H1 : Heap} {out out1 : AV} {n : Int} (c1 : CA P NS 38 [out, .i .u32 0] H (out1, H1)) : CA P NS 29 [out, .i .i64 n, .b true] H (out1, H1) := by
  refine CA.go (fn := Tryz.f29) (vs := [_]) (by kernel_rfl) rfl (.inr rfl) ?_
  apply Exists.intro
  apply And.intro
  · dsimp only [Tryz.f29]
    dsimp only [List.length_cons, List.length_nil, List.cons_append, List.nil_append, Nat.reduceSub, Nat.reduceAdd, List.replicate]
    refine RU.seq RU.rg ?_
    (apply RU.seqx; rotate_left; focus (simp)); refine RU.seq RU.rg ?_; apply RU.condT rfl
    refine RU.seq RU.rg ?_
    exact RU.ret
  · rfl
theorem cnarr_len {H H1 : Heap} {out out1 : AV} {n m : Int} (hc : convA P 3 53 (.i .i64 n) = some (.i .u32 n)) (hd : binA P .add 53 true (.i .u32 1) (.i .u32 n) = some (.i .u32 m)) (c1 : CA P NS 38 [out, .i .u32 m] H (out1, H1)) : CA P NS 29 [out, .i .i64 n, .b false] H (out1, H1) := by
  refine CA.go (fn := Tryz.f29) (vs := [_]) (by kernel_rfl) rfl (.inr rfl) ?_
  apply Exists.intro
  apply And.intro
  · dsimp only [Tryz.f29]
    dsimp only [List.length_cons, List.length_nil, List.cons_append, List.nil_append, Nat.reduceSub, Nat.reduceAdd, List.replicate]
    refine RU.seq RU.rg ?_
    refine RU.seq (RU.seq RU.rg (RU.condF rfl RU.skip)) ?_
    refine RU.seq RU.rg ?_
    exact RU.ret
  · rfl
theorem apl_cnarr : ApL 29 true true := ⟨fun L0 H out bs n z hL ho hn hb => by
  cases z with
  | true =>
    obtain ⟨out', H', c1, h1, h2, _⟩ := ap_uv emp_ns (n := 0) hL ho (by omega) (by have := uv_le (n := 0) (by omega); omega)
    have e : uv 0 = cnt0 true 4 := by unfold uv; rfl
    rw [e] at h1
    exact ⟨out', H', cnarr_nil c1, h1, h2⟩
  | false =>
    obtain ⟨out', H', c1, h1, h2, _⟩ := ap_uv emp_ns (n := n + 1) hL ho (by omega) (by have := uv_le (n := n + 1) (by omega); omega)
    exact ⟨out', H', cnarr_len (cv_i64_u32 _ (by omega)) (add1u _ (by omega) true) c1, h1, h2⟩⟩
end Go.Proofs.YtiifcfngbbhgoaaGreatDoor.Rd

namespace Go.Proofs.YtiifcfngbbhgoaaGreatDoor.Rd
open Go Go.Proofs.YtiifcfngbbhgoaaGreatDoor.Ax Go.Proofs.YtiifcfngbbhgoaaGreatDoor.Wire
set_option maxRecDepth 100000
set_option maxHeartbeats 1000000
theorem fT0 (i o : Nat) : fieldAddrA P 60 (.p i o) 0 = some (.p i o) := by kernel_rfl
theorem aggMw : aggA P 58 = some false := by kernel_rfl
theorem keyMw : keyA P 58 = some .u32 := by kernel_rfl
theorem ld_cell {H : Heap} {b o : Nat} {ty : TypeId} {kn : Kn} {cs : List AV} {x : AV} {t : TypeId} (ha : aggA P t = some false) (hb : H[b]? = some (.cells ty kn cs)) (hx : cs[o]? = some x) : loadA P H t (.p b o) = some x := by
  simp [loadA, loadAt, hb, ha, hx]
theorem st_one {H : Heap} {b : Nat} {ty t : TypeId} {kn : Kn} {x v : AV} (hs : sizeA P t = some 1) (hk : kn.own = true) (hb : H[b]? = some (.cells ty kn [x])) (hc : v.cells = [v]) (h1 : v.one = true) : storeA P H t (.p b 0) v = some (H.set b (.cells ty kn [v])) := by
  simp [storeA, hb, hs, hk, hc, h1, over]
theorem lenM_at {H : Heap} {i : Nat} {kd : IntKind} {es : List (Int × AV)} (h : H[i]? = some (.map kd es)) : lenM P H 58 (.mp i) = some (.i .i64 (es.length : Nat)) := by
  unfold lenM
  rw [keyMw]
  simp only [h]
theorem tlen_0 {H : Heap} {b o : Nat} (hl : loadA P H 58 (.p b o) = some .m0) : CA P NS 39 [.p b o] H (.i .i64 0, H) := by
  have hf := fT0 b o
  have hn : lenA P 58 .m0 = some (.i .i64 0) := by kernel_rfl
  refine CA.goS emp_ns (fn := Tryz.f39) (vs := [_]) (by kernel_rfl) rfl (.inr rfl) ?_
  apply Exists.intro
  apply And.intro
  · dsimp only [Tryz.f39]
    dsimp only [List.length_cons, List.length_nil, List.cons_append, List.nil_append, Nat.reduceSub, Nat.reduceAdd, List.replicate]
    refine RU.seq RU.rg ?_
    refine RU.seq RU.rg ?_
    exact RU.ret
  · rfl
theorem tlen_1 {H : Heap} {b o i : Nat} {n : Int} (hl : loadA P H 58 (.p b o) = some (.mp i)) (hn : lenM P H 58 (.mp i) = some (.i .i64 n)) : CA P NS 39 [.p b o] H (.i .i64 n, H) := by
  have hf := fT0 b o
  refine CA.goS emp_ns (fn := Tryz.f39) (vs := [_]) (by kernel_rfl) rfl (.inr rfl) ?_
  apply Exists.intro
  apply And.intro
  · dsimp only [Tryz.f39]
    dsimp only [List.length_cons, List.length_nil, List.cons_append, List.nil_append, Nat.reduceSub, Nat.reduceAdd, List.replicate]
    refine RU.seq RU.rg ?_
    refine RU.seq RU.rg ?_
    exact RU.ret
  · rfl
theorem apn_len : ApN 39 := ⟨fun H b o ty kn cs x n hb hx hn => by
  cases x with
  | m0 => simp [tagN] at hn; subst hn; exact tlen_0 (ld_cell aggMw hb hx)
  | mp i =>
    simp only [tagN] at hn
    split at hn
    · rename_i kd es hi
      simp at hn; subst hn
      exact tlen_1 (ld_cell aggMw hb hx) (lenM_at hi)
    · cases hn
  | _ => simp [tagN] at hn⟩
theorem BytesAt.noS' {A : Nat → Prop} {H : Heap} {av : AV} {bs : B} (h : BytesAt A H av bs) : av.isS = false := by cases h <;> rfl
theorem cv_int_u32 (m : Nat) (h : m < 4294967296) : convA P 3 53 (.i .i64 (m : Nat)) = some (.i .u32 (m : Nat)) := by
  have e : convA P 3 53 (.i .i64 (m : Nat)) = some (.i .u32 (IntKind.u32.wrap (m : Nat))) := by kernel_rfl
  rw [e]; simp [IntKind.wrap, IntKind.signed, IntKind.bits]; omega
structure BKeep (H : Heap) (box : Nat) (out : AV) (H' : Heap) (out' : AV) : Prop where
  at_ : ∀ (j : Nat) (b : Blk), H[j]? = some b → j ≠ box → (∀ i o n, out = .sl i o n → j ≠ i) → H'[j]? = some b
  new : ∀ i o n, out' = .sl i o n → H.length ≤ i
  len : H.length ≤ H'.length
theorem BKeep.trans {H H' H'' : Heap} {box : Nat} {out out' out'' : AV} (h : BKeep H box out H' out') (k : BKeep H' box out' H'' out'') : BKeep H box out H'' out'' :=
  ⟨fun j b hj hb ho => k.at_ j b (h.at_ j b hj hb ho) hb (fun i o n e => by have := h.new i o n e; have := (List.getElem?_eq_some_iff.1 hj).1; omega), fun i o n e => Nat.le_trans h.len (k.new i o n e), Nat.le_trans h.len k.len⟩
theorem OutAt.one {L0 : Nat} {H : Heap} {out : AV} {bs : B} (h : OutAt L0 H out bs) : out.cells = [out] ∧ out.one = true := by
  rcases h with ⟨rfl, _⟩ | ⟨i, _, rfl, _⟩ <;> exact ⟨rfl, rfl⟩
theorem back {L0 : Nat} {H H1 : Heap} {box : Nat} {ty : TypeId} {out out1 : AV} {bs : B} (hL : L0 ≤ box) (hbx : H[box]? = some (.cells ty .vr [out])) (hob : ∀ i o n, out = .sl i o n → box ≠ i) (ho : OutAt L0 H1 out1 bs) (hk : OKeep H out H1 out1) (hw : WKeep L0 H H1) :
    ∃ H1', storeA P H1 22 (.p box 0) out1 = some H1' ∧ H1'[box]? = some (.cells ty .vr [out1]) ∧ OutAt L0 H1' out1 bs ∧ BKeep H box out H1' out1 ∧ WKeep L0 H H1' ∧ (∀ i o n, out1 = .sl i o n → box ≠ i) := by
  have hlt := (List.getElem?_eq_some_iff.1 hbx).1
  have hb1 := hk.at_ box _ hbx hob
  have hne : ∀ i o n, out1 = .sl i o n → box ≠ i := fun i o n e => by have := hk.new i o n e; omega
  refine ⟨_, st_one sizeB rfl hb1 ho.one.1 ho.one.2, by rw [List.getElem?_set_self (List.getElem?_eq_some_iff.1 hb1).1], ?_, ⟨fun j b hj hjb hjo => by rw [List.getElem?_set, if_neg (fun e => hjb e.symm)]; exact hk.at_ j b hj hjo, hk.new, by simpa using hk.len⟩, ⟨fun i hi => by rw [List.getElem?_set, if_neg (by omega)]; exact hw.at_ i hi, by simpa using hw.len⟩, hne⟩
  rcases ho with ⟨rfl, rfl⟩ | ⟨i, h1, rfl, h2, h3⟩
  · exact .inl ⟨rfl, rfl⟩
  · exact .inr ⟨i, h1, rfl, by rw [List.getElem?_set, if_neg (hne i _ _ rfl)]; exact h2, h3⟩
section
variable {S : CallA} (E : Emp S)
include E
theorem clo_run {H H1 H1' H2 H2' H3 H4 : Heap} {k : Int} {val out out1 out2 out3 : AV} {box : Nat} {n : Int} {l : Int} (l1 : loadA P H 22 (.p box 0) = some out) (c1 : CA P S 38 [out, .i .u32 k] H (out1, H1)) (s1 : storeA P H1 22 (.p box 0) out1 = some H1')
    (l2 : loadA P H1' 22 (.p box 0) = some out1) (hl : lenA P 22 val = some (.i .i64 l)) (hc : convA P 3 53 (.i .i64 l) = some (.i .u32 n)) (c2 : CA P S 38 [out1, .i .u32 n] H1' (out2, H2)) (s2 : storeA P H2 22 (.p box 0) out2 = some H2')
    (l3 : loadA P H2' 22 (.p box 0) = some out2) (hns : val.isS = false) (ha : appendA P H2' 22 false out2 val = some (out3, H3)) (s3 : storeA P H3 22 (.p box 0) out3 = some H4) :
    CA P S 69 [.i .u32 k, val, .p box 0] H (.t [], H4) := by
  refine CA.goS E (fn := Tryz.f69) (vs := []) (by kernel_rfl) rfl (.inl rfl) ?_
  apply Exists.intro
  apply And.intro
  · dsimp only [Tryz.f69]
    dsimp only [List.length_cons, List.length_nil, List.cons_append, List.nil_append, Nat.reduceSub, Nat.reduceAdd, List.replicate]
    refine RU.seq RU.rg ?_
    refine RU.seq RU.rg ?_
    exact RU.rg
  · rfl
theorem clo {L0 : Nat} {H : Heap} {k : Nat} {val out : AV} {bs vb : B} {box : Nat} {ty : TypeId} (hL : L0 ≤ box) (hbx : H[box]? = some (.cells ty .vr [out])) (hob : ∀ i o n, out = .sl i o n → box ≠ i) (ho : OutAt L0 H out bs) (hk : k < 4294967296) (hv : BytesAt (fun i => i < L0) H val vb) (hvl : vb.length < 4294967296)
    (hb : bs.length + (uv k ++ (uv vb.length ++ vb)).length ≤ 1099511627776) :
    ∃ out' H', CA P S 69 [.i .u32 (k : Nat), val, .p box 0] H (.t [], H') ∧ H'[box]? = some (.cells ty .vr [out']) ∧ OutAt L0 H' out' (bs ++ (uv k ++ (uv vb.length ++ vb))) ∧ BKeep H box out H' out' ∧ WKeep L0 H H' ∧ (∀ i o n, out' = .sl i o n → box ≠ i) := by
  have hlt := (List.getElem?_eq_some_iff.1 hbx).1
  have p1 := uv_pos k
  have p2 := uv_pos vb.length
  have q1 := uv_le hk
  have q2 := uv_le hvl
  simp only [List.length_append] at hb
  have hvk : ∀ {H' : Heap}, WKeep L0 H H' → BytesAt (fun i => i < L0) H' val vb := fun w => BytesAt.kt hv ⟨w.len, fun i b hi hx => ⟨hi, (w.at_ i hi).trans hx⟩⟩
  obtain ⟨out1, H1, c1, o1, w1, k1⟩ := ap_uv E (by omega) ho hk (by omega)
  obtain ⟨H1', s1, b1, o1', bk1, w1', n1⟩ := back hL hbx hob o1 k1 w1
  obtain ⟨out2, H2, c2, o2, w2, k2⟩ := ap_uv E (by have := w1'.len; omega) o1' hvl (by simp; omega)
  obtain ⟨H2', s2, b2, o2', bk2, w2', n2⟩ := back hL b1 n1 o2 k2 w2
  have hl2 : L0 ≤ H2'.length := Nat.le_trans (Nat.le_trans hL (Nat.le_of_lt hlt)) (w1'.trans w2').len
  obtain ⟨out3, H3, ha, o3, w3⟩ := ap_bytes (str := false) (x := val) (new := vb) hl2 o2' (hvk (w1'.trans w2')).first (by simp; omega)
  have hne : out2 ≠ .s0 := by
    intro e
    rcases o2 with ⟨_, h⟩ | ⟨i, _, h, _⟩
    · have h2 := congrArg List.length h; simp only [List.length_append, List.length_nil] at h2; omega
    · rw [e] at h; cases h
  have k3 := app_keep ha o2'.shape (hvk (w1'.trans w2')).first (.inr hne)
  obtain ⟨H4, s3, b3, o3', bk3, w3', n3⟩ := back hL b2 n2 o3 k3 w3
  refine ⟨out3, H4, clo_run E (ld_cell aggB hbx rfl) c1 s1 (ld_cell aggB b1 rfl) (hv.len bty) (cv_int_u32 _ hvl) c2 s2 (ld_cell aggB b2 rfl) (BytesAt.noS' hv) ha s3, b3, ?_, (bk1.trans bk2).trans bk3, (w1'.trans w2').trans w3', n3⟩
  simpa [List.append_assoc] using o3'
end
def okT' : List (Nat × B) → Prop
  | [] => True
  | (k, v) :: r => k < 4294967296 ∧ v.length < 4294967296 ∧ okT' r
theorem eachRun_det {box : Nat} {K : List Nat} : ∀ {es : List (Int × AV)} {H H1 H2 : Heap}, EachRun box K H es H1 → EachRun box K H es H2 → H1 = H2
  | [], _, _, _, h, k => by cases h; cases k; rfl
  | (k0, v) :: es, H, H1, H2, h, k => by
    cases h with
    | cons h1 _ t1 =>
      cases k with
      | cons h2 _ t2 =>
        have := CA.det h1 h2
        simp only [Prod.mk.injEq, true_and] at this
        subst this
        exact eachRun_det t1 t2
theorem fold {L0 : Nat} {ty : TypeId} {box : Nat} {K : List Nat} (hL : L0 ≤ box) : ∀ (es : List (Int × AV)) (ts : List (Nat × B)) (H : Heap) (out : AV) (bs : B), es.map (·.1) = ts.map (fun t => ((t.1 : Nat) : Int)) → okT' ts →
    (∀ (j : Nat) (k : Int) (v : AV) (kk : Nat) (vb : B), es[j]? = some (k, v) → ts[j]? = some (kk, vb) → BytesAt (fun i => i < L0) H v vb) → H[box]? = some (.cells ty .vr [out]) → (∀ i o n, out = .sl i o n → box ≠ i) → OutAt L0 H out bs →
    (∀ j ∈ K, j ≠ box ∧ j < H.length ∧ ∀ i o n, out = .sl i o n → j ≠ i) → bs.length + (encT ts).length ≤ 1099511627776 →
    ∃ out' H', EachRun box K H es H' ∧ H'[box]? = some (.cells ty .vr [out']) ∧ OutAt L0 H' out' (bs ++ encT ts) ∧ WKeep L0 H H'
  | [], [], H, out, bs, _, _, _, hbx, _, ho, _, _ => ⟨out, H, .nil H, hbx, by simpa [encT] using ho, .refl _ _⟩
  | [], _ :: _, _, _, _, h, _, _, _, _, _, _, _ => by simp at h
  | _ :: _, [], _, _, _, h, _, _, _, _, _, _, _ => by simp at h
  | (k, v) :: es, (kk, vb) :: ts, H, out, bs, h, hok, hv, hbx, hob, ho, hK, hb => by
    simp only [List.map_cons, List.cons.injEq] at h
    obtain ⟨rfl, h⟩ := h
    obtain ⟨o1, o2, o3⟩ : kk < 4294967296 ∧ vb.length < 4294967296 ∧ okT' ts := hok
    have he : encT ((kk, vb) :: ts) = (uv kk ++ (uv vb.length ++ vb)) ++ encT ts := rfl
    rw [he] at hb ⊢
    rw [List.length_append] at hb
    obtain ⟨out1, H1, c1, b1, q1, bk, w1, n1⟩ := clo emp_noS hL hbx hob ho o1 (hv 0 _ _ _ _ rfl rfl) o2 (by omega)
    obtain ⟨out2, H2, r2, b2, q2, w2⟩ := fold hL es ts H1 out1 (bs ++ (uv kk ++ (uv vb.length ++ vb))) h o3 (fun j k v kk vb hj ht => BytesAt.kt (hv (j + 1) k v kk vb (by simpa using hj) (by simpa using ht)) ⟨w1.len, fun i b hi hx => ⟨hi, (w1.at_ i hi).trans hx⟩⟩) b1 n1 q1
      (fun j hj => ⟨(hK j hj).1, Nat.lt_of_lt_of_le (hK j hj).2.1 bk.len, fun i o n e => by have := bk.new i o n e; have := (hK j hj).2.1; omega⟩) (by rw [List.length_append]; omega)
    refine ⟨out2, H2, .cons c1 (fun j hj => ?_) r2, b2, by rw [← List.append_assoc]; exact q2, w1.trans w2⟩
    obtain ⟨h1, h2, h3⟩ := hK j hj
    have hx : H[j]? = some (H[j]'h2) := by simp
    rw [bk.at_ j _ hx h1 h3, hx]
theorem each_det {args : List AV} {H : Heap} {r r' : AV × Heap} (h : EachRel args H r) (k : EachRel args H r') : r = r' := by
  obtain ⟨b, o, dst, x, ty, kn, cs, rfl, hb, hx, hd, hc⟩ := h
  obtain ⟨b', o', dst', x', ty', kn', cs', ha, hb', hx', hd', hc'⟩ := k
  simp only [List.cons.injEq, AV.p.injEq, and_true] at ha
  obtain ⟨⟨rfl, rfl⟩, rfl⟩ := ha
  rw [hb] at hb'; cases hb'
  rw [hx] at hx'; cases hx'
  rcases hc with ⟨hn, rfl⟩ | ⟨i, es, es1, rfl, hi, hp, hso, h0, hbig, hrun, hv⟩ <;> rcases hc' with ⟨hn', rfl⟩ | ⟨i', es', es1', hxe, hi', hp', hso', h0', hbig', hrun', hv'⟩
  · rfl
  · subst hxe
    rcases hn with hn | ⟨j, hn, hj⟩
    · cases hn
    · cases hn; rw [hj] at hi'; cases hi'; simp at h0'
  · rcases hn' with hn | ⟨j, hn, hj⟩
    · cases hn
    · cases hn; rw [hj] at hi; cases hi; simp at h0
  · cases hxe
    rw [hi] at hi'; cases hi'
    have he : es1 = es1' := List.Perm.eq_of_pairwise (le := fun a b : Int × AV => a.1 < b.1) (fun a b _ _ h1 h2 => by omega) (List.pairwise_map.1 hso) (List.pairwise_map.1 hso') (hp.trans hp'.symm)
    subst he
    have : r.2 = r'.2 := eachRun_det hrun hrun'
    have h2 : r.1 = r'.1 := by rw [this] at hv; rw [hv] at hv'; exact Option.some.inj hv'
    exact Prod.ext h2 this
theorem each_ca {args : List AV} {H : Heap} {r : AV × Heap} (h : EachRel args H r) : CA P NS 40 args H r := by
  refine CA.sum ?_
  have hex : ∃ r, EachRel args H r := ⟨r, h⟩
  refine orS_left ?_
  show eachS 40 args H = some r
  unfold eachS
  rw [dif_pos hex]
  exact congrArg some (each_det hex.choose_spec h)
theorem okT_okT' : ∀ {m : Nat} {ts : List (Nat × B)}, okT m ts → okT' ts ∧ (ts.map (fun t => ((t.1 : Nat) : Int))).Pairwise (· < ·) ∧ ∀ t ∈ ts, m ≤ t.1
  | _, [], _ => ⟨trivial, .nil, fun t h => by cases h⟩
  | m, (k, v) :: r, h => by
    obtain ⟨h1, h2, h3, h4⟩ := h
    obtain ⟨a, b, c⟩ := okT_okT' h4
    refine ⟨⟨h2, h3, a⟩, List.pairwise_cons.2 ⟨fun x hx => ?_, b⟩, fun t ht => ?_⟩
    · obtain ⟨t, ht, rfl⟩ := List.mem_map.1 hx
      have := c t ht
      show ((k : Nat) : Int) < ((t.1 : Nat) : Int)
      omega
    · rcases List.mem_cons.1 ht with rfl | ht
      · exact h1
      · have := c t ht; omega
theorem enc_ge : ∀ (ts : List (Nat × B)), ts.length ≤ (encT ts).length
  | [] => by simp [encT]
  | (k, v) :: r => by
    have he : encT ((k, v) :: r) = (uv k ++ (uv v.length ++ v)) ++ encT r := rfl
    have := enc_ge r
    have := uv_pos k
    rw [he]; simp; omega
theorem ape_each : ApE 40 := ⟨fun L0 H out bs b o ty kn cs x ts hL ho hb hx hbl hr hlen => by
  obtain ⟨ts', e, hok, h⟩ := hr
  cases e
  have h1 := ho.one
  rcases h with ⟨rfl, hx0⟩ | ⟨i, es, hx0, hil, hi, es', hp, hk, hv⟩
  · simp at hx0; subst hx0
    exact ⟨out, H, each_ca ⟨b, o, out, _, ty, kn, cs, rfl, hb, hx, h1.2, .inl ⟨.inl rfl, rfl⟩⟩, by simpa [encT] using ho, .refl _ _⟩
  · simp at hx0; subst hx0
    by_cases h0 : es.length = 0
    · obtain rfl : es = [] := List.eq_nil_of_length_eq_zero h0
      have : ts = [] := by
        have a := hp.length_eq
        have c := congrArg List.length hk
        simp at a c
        exact List.eq_nil_of_length_eq_zero (by rw [← c, a]; rfl)
      subst this
      exact ⟨out, H, each_ca ⟨b, o, out, _, ty, kn, cs, rfl, hb, hx, h1.2, .inl ⟨.inr ⟨i, rfl, hi⟩, rfl⟩⟩, by simpa [encT] using ho, .refl _ _⟩
    · obtain ⟨q1, q2, _⟩ := okT_okT' hok
      have hln : es'.length = ts.length := by have := congrArg List.length hk; simpa using this
      have hel := hp.length_eq
      have hts := enc_ge ts
      have hwe : WKeep L0 H (eachHeap H out es') := WKeep.app L0 H _ hL
      have hbx : (eachHeap H out es')[H.length]? = some (.cells tB .vr [out]) := by unfold eachHeap; rw [List.getElem?_append_right (Nat.le_refl _)]; simp
      have hbn : ∀ i o n, out = .sl i o n → i < H.length := fun i o n e => by
        rcases ho with ⟨rfl, _⟩ | ⟨j, _, rfl, hj, _⟩
        · cases e
        · cases e; exact (List.getElem?_eq_some_iff.1 hj).1
      have hbo : ∀ i o n, out = .sl i o n → L0 ≤ i := fun i o n e => by
        rcases ho with ⟨rfl, _⟩ | ⟨j, hj, rfl, _, _⟩
        · cases e
        · cases e; exact hj
      have hle : (eachHeap H out es').length = H.length + 3 := by simp [eachHeap]
      obtain ⟨out', H', r1, b1, o1, w1⟩ := fold (K := [b, i, H.length + 1, H.length + 2]) hL es' ts (eachHeap H out es') out bs hk q1 (fun j k v kk vb hj ht => BytesAt.kt (hv j k v kk vb hj ht) ⟨hwe.len, fun i b hi hx => ⟨hi, (hwe.at_ i hi).trans hx⟩⟩) hbx (fun i o n e => by have := hbn i o n e; omega) (ho.app _)
        (fun j hj => by
          have hil : i < L0 := hil
          simp at hj
          refine ⟨by omega, by omega, fun q o n e => ?_⟩
          have := hbn q o n e
          have := hbo q o n e
          omega) hlen
      refine ⟨out', H', each_ca ⟨b, o, out, _, ty, kn, cs, rfl, hb, hx, h1.2, .inr ⟨i, es, es', rfl, hi, hp, by rw [hk]; exact q2, by omega, by omega, r1, ld_cell aggB b1 rfl⟩⟩, o1, hwe.trans w1⟩⟩
end Go.Proofs.YtiifcfngbbhgoaaGreatDoor.Rd

namespace Go.Proofs.YtiifcfngbbhgoaaGreatDoor.Rd
open Go Go.Proofs.YtiifcfngbbhgoaaGreatDoor.Ax Go.Proofs.YtiifcfngbbhgoaaGreatDoor.Wire
theorem lookup_mem {α β : Type} [BEq α] [LawfulBEq α] : ∀ {l : List (α × β)} {a : α} {b : β}, l.lookup a = some b → (a, b) ∈ l
  | (a', b') :: l, a, b, h => by
    simp only [List.lookup] at h
    split at h
    · rename_i e
      have e := eq_of_beq e
      simp at h; subst h; subst e; exact List.mem_cons_self
    · exact List.mem_cons_of_mem _ (lookup_mem h)
end Go.Proofs.YtiifcfngbbhgoaaGreatDoor.Rd

