/-
  THE MESSAGE DescribeTopicPartitionsRequest: what is read of octets, and what is written of that.
-/
import Derived.Test.YtdanlkiojkimaaaDoorQRdStr
import Derived.Test.YtdanlkiojkimaaaDoorQApLeaf
import Derived.Test.YtdanlkiojkimaaaDoorQWxOpt
import Derived.Test.YtdanlkiojkimaaaDoorQSxOptT
set_option linter.constructorNameAsVariable false
set_option linter.unusedVariables false
set_option linter.unusedSimpArgs false
namespace Go.Proofs.YtdanlkiojkimaaaDoor.Rd.mDescribeTopicPartitionsRequest
open Go Go.Proofs.YtdanlkiojkimaaaDoor.Ax Go.Proofs.YtdanlkiojkimaaaDoor.Wire Go.Proofs.YtdanlkiojkimaaaDoor.Rd
set_option maxRecDepth 100000
set_option maxHeartbeats 1000000
def tzX : List AV := [.s0, .i .i32 0, .p0, .m0]
def tdX : List AV := [.s0, .i .i32 (2000), .p0, .m0]
def zX : List AV := .i .i16 0 :: tzX
def dX : List AV := .i .i16 0 :: tdX
def zV (k : Int) : List AV := .i .i16 k :: tdX
def wX (k : Int) : SF := .i .i16 k :: [.z .s0, .i .i32 (2000), .z .p0, .z .m0]
theorem wX_ok (k : Int) : ∀ (o : Nat) (v : SV), (wX k)[o]? = some v → ∃ a c, (zV k)[o]? = some a ∧ a.one = true ∧ v.con = some c ∧ a = c := by
  intro o v h
  match o, h with
  | 0, h => cases h; exact ⟨_, _, rfl, rfl, rfl, rfl⟩
  | 1, h => cases h; exact ⟨_, _, rfl, rfl, rfl, rfl⟩
  | 2, h => cases h; exact ⟨_, _, rfl, rfl, rfl, rfl⟩
  | 3, h => cases h; exact ⟨_, _, rfl, rfl, rfl, rfl⟩
  | 4, h => cases h; exact ⟨_, _, rfl, rfl, rfl, rfl⟩
  | n + 5, h => simp [wX] at h
def CX (fl : Bool) : Cfg := { prim := [(111, .len false), (137, .len true), (140, .leaf .str false (some true)), (109, .done), (115, .leaf .i32 false none), (122, .leaf .i8 false none), (112, .ok), (108, .leaf .str false (some false)), (141, .tags), (91, .inl), (142, .inl), (138, .inl)], res := 6, flex := fl }
def CWX (fl : Bool) : Cfg := { prim := [], res := 4, flex := fl }
def prX : List (FuncId × WPrim) := [(97, .each), (96, .tlen), (72, .len false false), (93, .len false true), (94, .leaf .str false (some true)), (74, .leaf .i32 false none), (69, .leaf .str false (some false)), (95, .uv)]
theorem prims_x (fl : Bool) : Prims (CX fl) := by
  intro f p h
  have hm := lookup_mem h
  simp only [CX, List.mem_cons, List.not_mem_nil, or_false, Prod.mk.injEq] at hm
  rcases hm with ⟨rfl, rfl⟩ | ⟨rfl, rfl⟩ | ⟨rfl, rfl⟩ | ⟨rfl, rfl⟩ | ⟨rfl, rfl⟩ | ⟨rfl, rfl⟩ | ⟨rfl, rfl⟩ | ⟨rfl, rfl⟩ | ⟨rfl, rfl⟩ | ⟨rfl, rfl⟩ | ⟨rfl, rfl⟩ | ⟨rfl, rfl⟩
  · exact fun h => by have h : false = fl := h; subst h; exact rd_arrlen.l
  · exact fun h => by have h : true = fl := h; subst h; exact rd_carrlen
  · exact fun h => by cases fl with | true => exact rdv_cstring | false => cases h
  · exact rddone
  · exact fun _ => rdv_i32 _ _
  · exact fun _ => rdv_i8 _ _
  · exact rdok
  · exact fun h => by cases fl with | true => cases h | false => exact rdv_string
  · exact rdt
  · exact trivial
  · exact trivial
  · exact trivial
theorem wprims_x (fl : Bool) : WPrims (CWX fl) prX := by
  intro f p h
  have hm := lookup_mem h
  simp only [prX, List.mem_cons, List.not_mem_nil, or_false, Prod.mk.injEq] at hm
  rcases hm with ⟨rfl, rfl⟩ | ⟨rfl, rfl⟩ | ⟨rfl, rfl⟩ | ⟨rfl, rfl⟩ | ⟨rfl, rfl⟩ | ⟨rfl, rfl⟩ | ⟨rfl, rfl⟩ | ⟨rfl, rfl⟩
  · exact ape_each
  · exact apn_len
  · exact fun h => by have h : false = fl := h; subst h; exact apl_arr
  · exact fun h => by have h : true = fl := h; subst h; exact apl_carr
  · exact fun h => by cases fl with | true => exact apk_cstr | false => cases h
  · exact fun _ => apk_i32 _ _
  · exact fun h => by cases fl with | true => cases h | false => exact apk_str
  · exact apu_uv
theorem def_x (H : Heap) : CA P NS 91 [.p H.length 0] (H ++ [.cells 166 .vr (AV.g zX).cells]) (.t [], H ++ [.cells 166 .vr dX]) := by
  have hm : (H ++ [Blk.cells 166 .vr (AV.g zX).cells])[H.length]? = some (.cells 166 .vr (AV.g zX).cells) := by simp
  have hf : fieldAddrA P 166 (.p H.length 0) 2 = some (.p H.length 2) := by kernel_rfl
  have hf3 : fieldAddrA P 166 (.p H.length 0) 3 = some (.p H.length 3) := by kernel_rfl
  have hsz : sizeA P 21 = some 1 := by kernel_rfl
  have hs : storeA P (H ++ [.cells 166 .vr (AV.g zX).cells]) 21 (.p H.length 2) (.i .i32 (2000)) = some (H ++ [.cells 166 .vr dX]) := by
    simp [storeA, hm, hsz, Kn.own, AV.cells, AV.one, over, zX, tzX, dX, tdX]
  generalize H ++ [Blk.cells 166 Kn.vr (AV.g zX).cells] = H1 at hs
  generalize H ++ [Blk.cells 166 Kn.vr dX] = H2 at hs
  refine CA.go (fn := Tryd.f91) (vs := []) (by kernel_rfl) rfl (.inl rfl) ?_
  apply Exists.intro
  apply And.intro
  · dsimp only [Tryd.f91]
    dsimp only [List.length_cons, List.length_nil, List.cons_append, List.nil_append, Nat.reduceSub, Nat.reduceAdd, List.replicate]
    refine RU.seq RU.rg ?_
    refine RU.seq RU.rg ?_
    first | exact RU.rg | (refine RU.seq RU.rg ?_; exact RU.skip)
  · rfl
theorem new_x (H : Heap) : CA P NS 59 [] H (.p H.length 0, H ++ [.cells 166 .vr dX]) := by
  have hz : zeroA P 166 = some (.g zX) := by kernel_rfl
  have hd : CA P NS 91 [.p H.length 0] (H ++ [.cells 166 .vr (AV.g zX).cells]) (.t [], H ++ [.cells 166 .vr dX]) := def_x H
  have ha : ∀ fr, opA P (.alloc 166) fr H = some (.p H.length 0, H ++ [.cells 166 .vr (AV.g zX).cells]) := fun fr => op_alloc hz rfl
  generalize H ++ [Blk.cells 166 Kn.vr (AV.g zX).cells] = H1 at hd ha
  generalize H ++ [Blk.cells 166 Kn.vr dX] = H2 at hd ⊢
  generalize AV.p H.length 0 = q at hd ha ⊢
  refine CA.go (fn := Tryd.f59) (vs := [_]) (by kernel_rfl) rfl (.inr rfl) ?_
  apply Exists.intro
  apply And.intro
  · dsimp only [Tryd.f59]
    dsimp only [List.length_cons, List.length_nil, List.cons_append, List.nil_append, Nat.reduceSub, Nat.reduceAdd, List.replicate]
    refine RU.seq RU.rg ?_
    (apply RU.seq; focus (apply RU.region; refine OS.op rfl rfl (ha _) ?_; dsimp only [AV.cells, putA, List.set_cons_zero, List.set_cons_succ]; exact OS.nil))
    refine RU.seq RU.rg ?_
    refine RU.seq RU.rg ?_
    exact RU.ret
  · rfl
theorem setv_x {H : Heap} {mb : Nat} {n : Int} {c0 : AV} {cs : List AV} (hm : H[mb]? = some (.cells 166 .vr (c0 :: cs))) : CA P NS 61 [.p mb 0, .i .i16 n] H (.t [], H.set mb (.cells 166 .vr (.i .i16 n :: cs))) := by
  have hf : fieldAddrA P 166 (.p mb 0) 0 = some (.p mb 0) := by kernel_rfl
  have hsz : sizeA P 40 = some 1 := by kernel_rfl
  have hs : storeA P H 40 (.p mb 0) (.i .i16 n) = some (H.set mb (.cells 166 .vr (.i .i16 n :: cs))) := by
    simp [storeA, hm, hsz, Kn.own, AV.cells, AV.one, over]
  refine CA.go (fn := Tryd.f61) (vs := []) (by kernel_rfl) rfl (.inl rfl) ?_
  apply Exists.intro
  apply And.intro
  · dsimp only [Tryd.f61]
    dsimp only [List.length_cons, List.length_nil, List.cons_append, List.nil_append, Nat.reduceSub, Nat.reduceAdd, List.replicate]
    apply RU.region
    refine OS.op rfl rfl (op_move rfl) ?_
    dsimp only [AV.cells, putA, List.set_cons_zero, List.set_cons_succ]
    refine OS.op rfl rfl (op_move rfl) ?_
    dsimp only [AV.cells, putA, List.set_cons_zero, List.set_cons_succ]
    refine OS.op rfl rfl (op_nilCheck rfl) ?_
    dsimp only [AV.cells, putA, List.set_cons_zero, List.set_cons_succ]
    refine OS.op rfl rfl (op_fieldAddr rfl hf) ?_
    dsimp only [AV.cells, putA, List.set_cons_zero, List.set_cons_succ]
    refine OS.op rfl rfl (op_store rfl rfl hs) ?_
    exact OS.nil
  · rfl
theorem readf_x {H H' : Heap} {mb : Nat} {src v : AV} (h : CA P NS 92 [.p mb 0, src, .b false] H (v, H')) : CA P NS 62 [.p mb 0, src] H (v, H') := by
  refine CA.go (fn := Tryd.f62) (vs := [_]) (by kernel_rfl) rfl (by first | exact .inr rfl | exact .inl rfl) ?_
  apply Exists.intro
  apply And.intro
  · dsimp only [Tryd.f62]
    dsimp only [List.length_cons, List.length_nil, List.cons_append, List.nil_append, Nat.reduceSub, Nat.reduceAdd, List.replicate]
    refine RU.seq RU.rg ?_
    refine RU.seq RU.rg ?_
    first | exact RU.ret | exact RU.skip
  · rfl
theorem again_bad_run {H H1 H2 H3 H4 : Heap} {mb : Nat} {v m : Int} {data src : AV} (c1 : CA P NS 59 [] H (.p mb 0, H1)) (hc : convA P 3 40 (.i .i64 v) = some (.i .i16 m)) (c2 : CA P NS 61 [.p mb 0, .i .i16 m] H1 (.t [], H2))
    (hns : data.isS = false) (ha : appendA P H2 22 false .s0 data = some (src, H3)) (c3 : CA P NS 62 [.p mb 0, src] H3 (.e, H4)) :
    CA P NS 32 [.i .i64 v, data] H (.t [.s0, .b false], H4) := by
  have hn := neq_e
  refine CA.go (fn := Tryd.f32) (vs := [_, _]) (by kernel_rfl) rfl (.inr rfl) ?_
  apply Exists.intro
  apply And.intro
  · dsimp only [Tryd.f32]
    dsimp only [List.length_cons, List.length_nil, List.cons_append, List.nil_append, Nat.reduceSub, Nat.reduceAdd, List.replicate]
    refine RU.seq RU.rg ?_
    refine RU.seq RU.rg ?_
    refine RU.seq RU.rg ?_
    (apply RU.seqx; rotate_left; focus (simp)); refine RU.seq RU.rg ?_; apply RU.condT rfl
    refine RU.seq RU.rg ?_
    exact RU.ret
  · rfl
theorem again_good_run {H H1 H2 H3 H4 H5 : Heap} {mb : Nat} {v m : Int} {data src out : AV} (c1 : CA P NS 59 [] H (.p mb 0, H1)) (hc : convA P 3 40 (.i .i64 v) = some (.i .i16 m)) (c2 : CA P NS 61 [.p mb 0, .i .i16 m] H1 (.t [], H2))
    (hns : data.isS = false) (ha : appendA P H2 22 false .s0 data = some (src, H3)) (c3 : CA P NS 62 [.p mb 0, src] H3 (.n, H4)) (c4 : CA P NS 63 [.p mb 0, .s0] H4 (out, H5)) :
    CA P NS 32 [.i .i64 v, data] H (.t [out, .b true], H5) := by
  have hn := neq_n
  refine CA.go (fn := Tryd.f32) (vs := [_, _]) (by kernel_rfl) rfl (.inr rfl) ?_
  apply Exists.intro
  apply And.intro
  · dsimp only [Tryd.f32]
    dsimp only [List.length_cons, List.length_nil, List.cons_append, List.nil_append, Nat.reduceSub, Nat.reduceAdd, List.replicate]
    refine RU.seq RU.rg ?_
    refine RU.seq RU.rg ?_
    refine RU.seq RU.rg ?_
    refine RU.seq (RU.seq RU.rg (RU.condF rfl RU.skip)) ?_
    refine RU.seq RU.rg ?_
    exact RU.ret
  · rfl
theorem num_p : ∀ f, (CX true).prim.lookup f = some (.leaf .i8 false none) → RdN f .i8 (rdI 1) := by
  intro f h
  have hm := lookup_mem h
  simp only [CX, List.mem_cons, List.not_mem_nil, or_false, Prod.mk.injEq] at hm
  rcases hm with ⟨rfl, h2⟩ | ⟨rfl, h2⟩ | ⟨rfl, h2⟩ | ⟨rfl, h2⟩ | ⟨rfl, h2⟩ | ⟨rfl, h2⟩ | ⟨rfl, h2⟩ | ⟨rfl, h2⟩ | ⟨rfl, h2⟩ | ⟨rfl, h2⟩ | ⟨rfl, h2⟩ | ⟨rfl, h2⟩
  · cases h2
  · cases h2
  · cases h2
  · cases h2
  · cases h2
  · exact rd_int8
  · cases h2
  · cases h2
  · cases h2
  · cases h2
  · cases h2
  · cases h2
def evs1 : List Ev := [.list 2 false (.leaf 0 .str false (.tags 1 .nil)), .leaf .i32 false]
def pl1 : List (Ev × Nat) := [(.list 2 false (.leaf 0 .str false (.tags 1 .nil)), 1), (.leaf .i32 false, 2)]
def plT : List (Ev × Nat) := [(.tags, 4)]
def plC : List (Ev × Nat) := [(.leaf .str false, 0), (.leaf .i32 false, 1), (.tags, 2)]
def plA : List (Ev × Nat) := [(.list 2 false (.leaf 0 .str false (.tags 1 .nil)), 1), (.leaf .i32 false, 2), (.leaf .i8 false, 5), (.tags, 4)]
def plB : List (Ev × Nat) := [(.list 2 false (.leaf 0 .str false (.tags 1 .nil)), 1), (.leaf .i32 false, 2), (.leaf .i8 false, 8), (.leaf .str false, 5), (.leaf .i32 false, 6), (.tags, 7), (.tags, 4)]
noncomputable def wFA : SF := ((chkTopA (CX true) evs1 Tryd.f92 (wX 0)).getD ([], [])).2
theorem topA : chkTopA (CX true) evs1 Tryd.f92 (wX 0) = some (plA, wFA) := by
  have h : ((chkTopA (CX true) evs1 Tryd.f92 (wX 0)).map (·.1)) = some plA := by kernel_rfl
  unfold wFA
  cases hc : chkTopA (CX true) evs1 Tryd.f92 (wX 0) with
  | none => rw [hc] at h; cases h
  | some x =>
    rw [hc] at h
    simp only [Option.map_some, Option.some.injEq] at h
    simp only [Option.getD_some, ← h]
theorem wFA_0 : wFA[0]? = some (.i .i16 0) := by kernel_rfl
theorem wFA_p : wFA[3]? = some (.z .p0) := by kernel_rfl
theorem topB : chkTopP (CX true) evs1 3 3 Tryd.f92 (wX 0) = some plB := by kernel_rfl
theorem wrA : chkWA (CWX true) prX Tryd.f63 5 (some (.is 0)) 3 pl1 plT = true := by kernel_rfl
theorem wrB : chkWP (CWX true) prX Tryd.f63 5 (some (.is 0)) 3 3 pl1 plC plT = true := by kernel_rfl
theorem goodA : (nodes plA).good = true := by kernel_rfl
theorem goodB : (nodes plB).good = true := by kernel_rfl
theorem at_l {cs cs2 : List AV} {o w : Nat} {R : AV → Prop} (h : At (cs ++ cs2) o w R) (hl : o + w ≤ cs.length) : At cs o w R := by
  obtain ⟨av, h1, h2, h3, h4⟩ := h
  refine ⟨av, h1, h2, hl, ?_⟩
  rw [← h4, List.drop_append_of_le_length (by omega), List.take_append_of_le_length (by simp; omega)]
theorem at_r {cs cs2 : List AV} {o w : Nat} {R : AV → Prop} (h : At (cs ++ cs2) (cs.length + o) w R) : At cs2 o w R := by
  obtain ⟨av, h1, h2, h3, h4⟩ := h
  refine ⟨av, h1, h2, by simp at h3; omega, ?_⟩
  have e : (cs ++ cs2).drop (cs.length + o) = cs2.drop o := by rw [← List.drop_drop]; simp
  rw [← h4, e]
theorem again_x {H : Heap} {rb0 : Nat} {data : AV} {bs : B} (G : Globs H rb0) (hb : DatAt H data bs) (hlen : bs.length ≤ 1099511627000) :
    (optB true evs1 plA plB bs = none → ∃ H', CA P NS 32 [.i .i64 0, data] H (.t [.s0, .b false], H')) ∧
    (∀ w, optB true evs1 plA plB bs = some w → ∃ out H', CA P NS 32 [.i .i64 0, data] H (.t [out, .b true], H') ∧ OutAt H.length H' out w ∧ H.length ≤ H'.length ∧ (∀ i b, i < H.length → H[i]? = some b → H'[i]? = some b)) := by
  have hcv : convA P 3 40 (.i .i64 0) = some (.i .i16 0) := by kernel_rfl
  have c1 := new_x H
  have hm1 : (H ++ [Blk.cells 166 .vr dX])[H.length]? = some (.cells 166 .vr (.i .i16 0 :: tdX)) := by simp [dX]
  have c2 := setv_x (n := 0) hm1
  have hset : (H ++ [Blk.cells 166 .vr dX]).set H.length (.cells 166 .vr (.i .i16 0 :: tdX)) = H ++ [.cells 166 .vr (zV 0)] := by simp [zV]
  rw [hset] at c2
  have hlH1 : (H ++ [Blk.cells 166 Kn.vr (zV 0)]).length = H.length + 1 := by simp
  have hb1 := hb.app [.cells 166 .vr (zV 0)]
  obtain ⟨src, H3, ha, ho, hk⟩ := ap_bytes (str := false) (L0 := (H ++ [Blk.cells 166 Kn.vr (zV 0)]).length) (H := H ++ [.cells 166 .vr (zV 0)]) (out := .s0) (bs := []) (Nat.le_refl _) (.inl ⟨rfl, rfl⟩) hb1.first (by simp; omega)
  simp only [List.nil_append] at ho
  have hk3 : ∀ i b, i < H.length → H[i]? = some b → H3[i]? = some b := fun i b hi hx => by
    rw [hk.at_ i (by rw [hlH1]; omega), List.getElem?_append_left hi]; exact hx
  have hl3 : H.length + 1 ≤ H3.length := by have := hk.len; rw [hlH1] at this; exact this
  have hm3 : H3[H.length]? = some (.cells 166 .vr (zV 0)) := by rw [hk.at_ _ (by rw [hlH1]; omega)]; simp
  have hrb := G.lt
  have hsrc : BytesAt (fun i => i ∉ [rb0, H.length]) H3 src bs := BytesAt.sub (fun i hi => by have hi : (H ++ [Blk.cells 166 Kn.vr (zV 0)]).length ≤ i := hi; rw [hlH1] at hi; simp; omega) ho.bytes
  have hRm := G.room (mb := H.length) (Nat.le_refl _) (by omega : H.length ≤ H3.length) (by omega) hk3
  by_cases hcase : ∃ k, numB true evs1 bs = some k ∧ k ≠ -1
  · obtain ⟨k, hnum, hne⟩ := hcase
    have hopt : optB true evs1 plA plB bs = (runE true (plB.map (·.1)) bs).map fun (vs, _) => encs true plB (vs.set evs1.length (.i 1)) := by
      unfold optB; rw [hnum]; simp only; rw [if_neg hne]
    obtain ⟨t1, t2⟩ := chkTopP_sound (prims_x true) num_p topB (by kernel_rfl : P.funcs[92]? = some Tryd.f92) hm3 (show (zV 0).length = (wX 0).length by rfl) (wX_ok 0) (by omega) (by omega) hRm hsrc (by decide +kernel) rfl (fun vs r h1 k' r' h2 => by
      have h1 : runE true evs1 bs = some (vs, r) := h1
      unfold numB at hnum
      rw [h1] at hnum
      simp only [Option.bind_some, h2, Option.map_some, Option.some.injEq] at hnum
      omega)
    rw [hopt]
    cases hrun : runE true (plB.map (·.1)) bs with
    | none =>
      refine ⟨fun _ => ?_, fun w hw => by simp at hw⟩
      obtain ⟨H4, c3⟩ := t1 (by rw [show (CX true).flex = true from rfl, dec_nodes, hrun]; rfl)
      exact ⟨H4, again_bad_run c1 hcv c2 hb.noS ha (readf_x c3)⟩
    | some p =>
      obtain ⟨vs, r⟩ := p
      refine ⟨fun hn => by simp at hn, fun w hw => ?_⟩
      simp only [Option.map_some, Option.some.injEq] at hw
      subst hw
      have hd := run_dec.2 hrun
      obtain ⟨H4, cs', cs1, T1, cb, rb, c3, k1, k2, k3, k4, kcb, hc1l, kp, kcl, k5, kv, x9, k6⟩ := t2 _ _ hd
      have hok := dec_ok hd
      have hrep : Rep (fun i => i < H4.length) H4 (nodes plB) (packV vs) ((cs' ++ cs1) ++ [x9]) := Rep.kt ⟨Nat.le_refl _, fun i b _ hx => ⟨(List.getElem?_eq_some_iff.1 hx).1, hx⟩⟩ k6
      obtain ⟨vs', e1, e2, e3⟩ := rep_said hrep hok
      obtain rfl := packV_inj e1
      rw [unF_nodes] at e2
      have hlv := runE_length hrun
      have hcl : cs'.length = 5 := k4
      obtain ⟨kn, hnum2, hkn⟩ := run_num (evs1 := evs1) (show runE true (evs1 ++ .leaf .i8 false :: (plB.map (·.1)).drop 3) bs = some (vs, r) from hrun)
      have hle := dec_len hd
      rw [enc_pack hok] at hle
      have hl2 := encs_set_len (flex := true) (pl := plB) (k := 1) (n := 2) rfl hkn
      match vs, hlv, e2, hkn, hle, hl2 with
      | [v0, v1, v2, v3, v4, v5, v6], _, e2, hkn, hle, hl2 =>
        have s1 : Said true (fun i => i < H4.length) H4 cs' pl1 [v0, v1, v2, v3, v4, v5, v6] := fun i e o hi => by
          match i, hi with
          | 0, hi =>
            simp [pl1] at hi
            obtain ⟨rfl, rfl⟩ := hi
            obtain ⟨v, q1, q2, q3⟩ := e2 0 _ _ rfl
            exact ⟨v, q1, at_l (at_l q2 (by show _ ≤ (cs' ++ cs1).length; simp only [List.length_append, hcl, Ev.wide, K.wide]; omega)) (by rw [hcl]; simp only [Ev.wide, K.wide]; omega), q3⟩
          | 1, hi =>
            simp [pl1] at hi
            obtain ⟨rfl, rfl⟩ := hi
            obtain ⟨v, q1, q2, q3⟩ := e2 1 _ _ rfl
            exact ⟨v, q1, at_l (at_l q2 (by show _ ≤ (cs' ++ cs1).length; simp only [List.length_append, hcl, Ev.wide, K.wide]; omega)) (by rw [hcl]; simp only [Ev.wide, K.wide]; omega), q3⟩
          | i + 2, hi => simp [pl1] at hi
        have sC : Said true (fun i => i < H4.length) H4 cs1 plC [v3, v4, v5] := fun i e o hi => by
          match i, hi with
          | 0, hi =>
            simp [plC] at hi
            obtain ⟨rfl, rfl⟩ := hi
            obtain ⟨v, q1, q2, q3⟩ := e2 3 _ _ rfl
            exact ⟨v, q1, at_r (cs := cs') (at_l (by rw [hcl]; exact q2) (by simp only [List.length_append, hcl, hc1l, Ev.wide, K.wide]; omega)), q3⟩
          | 1, hi =>
            simp [plC] at hi
            obtain ⟨rfl, rfl⟩ := hi
            obtain ⟨v, q1, q2, q3⟩ := e2 4 _ _ rfl
            exact ⟨v, q1, at_r (cs := cs') (at_l (by rw [hcl]; exact q2) (by simp only [List.length_append, hcl, hc1l, Ev.wide, K.wide]; omega)), q3⟩
          | 2, hi =>
            simp [plC] at hi
            obtain ⟨rfl, rfl⟩ := hi
            obtain ⟨v, q1, q2, q3⟩ := e2 5 _ _ rfl
            exact ⟨v, q1, at_r (cs := cs') (at_l (by rw [hcl]; exact q2) (by simp only [List.length_append, hcl, hc1l, Ev.wide, K.wide]; omega)), q3⟩
          | i + 3, hi => simp [plC] at hi
        have sT : Said true (fun i => i < H4.length) H4 cs' plT [v6] := fun i e o hi => by
          match i, hi with
          | 0, hi =>
            simp [plT] at hi
            obtain ⟨rfl, rfl⟩ := hi
            obtain ⟨v, q1, q2, q3⟩ := e2 6 _ _ rfl
            exact ⟨v, q1, at_l (at_l q2 (by show _ ≤ (cs' ++ cs1).length; simp only [List.length_append, hcl, Ev.wide, K.wide]; omega)) (by rw [hcl]; simp only [Ev.wide, K.wide]; omega), q3⟩
          | i + 1, hi => simp [plT] at hi
        have hw : encs true plB ([v0, v1, v2, v3, v4, v5, v6].set evs1.length (.i 1)) = encs true pl1 [v0, v1, v2, v3, v4, v5, v6] ++ [1] ++ encs true plC [v3, v4, v5] ++ encs true plT [v6] := by
          have h1 : be 1 1 = [1] := by decide
          show _ = _
          simp only [plB, pl1, plC, plT, evs1, List.length_cons, List.length_nil, Nat.reduceAdd, List.set_cons_succ, List.set_cons_zero, encs, Ev.enc, encK, K.size, h1, List.append_assoc, List.nil_append, List.append_nil]
          try rfl
        rw [hw]
        have hbd : (encs true pl1 [v0, v1, v2, v3, v4, v5, v6]).length + (encs true plC [v3, v4, v5]).length + (encs true plT [v6]).length + 24 ≤ 1099511627776 := by
          have hw2 := congrArg List.length hw
          have hl2 : (encs true plB ([v0, v1, v2, v3, v4, v5, v6].set evs1.length (.i 1))).length = (encs true plB [v0, v1, v2, v3, v4, v5, v6]).length := hl2
          rw [hl2] at hw2
          simp only [List.length_append] at hw2
          have : ([1] : B).length = 1 := rfl
          omega
        obtain ⟨out, H5, c4, o1, o2⟩ := chkWP_sound (wprims_x true) wrB (by kernel_rfl : P.funcs[63]? = some Tryd.f63) k3 hcl (fun n hn => by cases hn; exact ⟨0, kv _ _ rfl rfl, rfl⟩) kp kcb hc1l s1 sC sT hbd rfl
        refine ⟨out, H5, again_good_run c1 hcv c2 hb.noS ha (readf_x c3) c4, ?_, ?_, fun i b hi hx => ?_⟩
        · rcases o1 with h | ⟨i, h1, h2⟩
          · exact .inl h
          · exact .inr ⟨i, by omega, h2⟩
        · have := o2.len; omega
        · rw [o2.at_ i (by omega)]
          exact k2 i b (by omega) (hk3 i b hi hx)
  · have hm1k : ∀ k, numB true evs1 bs = some k → k = -1 := fun k hk => by
      by_cases h : k = -1
      · exact h
      · exact absurd ⟨k, hk, h⟩ hcase
    have hopt : optB true evs1 plA plB bs = (runE true (plA.map (·.1)) bs).map fun (vs, _) => encs true plA vs := by
      unfold optB
      cases hnum : numB true evs1 bs with
      | none =>
        simp only
        cases hrun : runE true (plA.map (·.1)) bs with
        | none => rfl
        | some p =>
          obtain ⟨vs, r⟩ := p
          obtain ⟨kn, hnum2, hkn⟩ := run_num (evs1 := evs1) (show runE true (evs1 ++ .leaf .i8 false :: (plA.map (·.1)).drop 3) bs = some (vs, r) from hrun)
          rw [hnum] at hnum2
          cases hnum2
      | some k => simp only; rw [if_pos (hm1k k hnum)]
    obtain ⟨t1, t2⟩ := chkTopA_sound (prims_x true) num_p topA (by kernel_rfl : P.funcs[92]? = some Tryd.f92) hm3 (show (zV 0).length = (wX 0).length by rfl) (wX_ok 0) (by omega) (by omega) hRm hsrc (by decide +kernel) rfl (fun vs r h1 k' r' h2 => by
      have h1 : runE true evs1 bs = some (vs, r) := h1
      refine hm1k k' ?_
      unfold numB
      rw [h1]
      simp [h2])
    rw [hopt]
    cases hrun : runE true (plA.map (·.1)) bs with
    | none =>
      refine ⟨fun _ => ?_, fun w hw => by simp at hw⟩
      obtain ⟨H4, c3⟩ := t1 (by rw [show (CX true).flex = true from rfl, dec_nodes, hrun]; rfl)
      exact ⟨H4, again_bad_run c1 hcv c2 hb.noS ha (readf_x c3)⟩
    | some p =>
      obtain ⟨vs, r⟩ := p
      refine ⟨fun hn => by simp at hn, fun w hw => ?_⟩
      simp only [Option.map_some, Option.some.injEq] at hw
      subst hw
      have hd := run_dec.2 hrun
      obtain ⟨H4, cs', rb, c3, k1, k2, k3, k4, k5, ⟨x9, k6⟩, kv⟩ := t2 _ _ hd
      have hok := dec_ok hd
      have hrep : Rep (fun i => i < H4.length) H4 (nodes plA) (packV vs) (cs' ++ [x9]) := Rep.kt ⟨Nat.le_refl _, fun i b _ hx => ⟨(List.getElem?_eq_some_iff.1 hx).1, hx⟩⟩ k6
      obtain ⟨vs', e1, e2, e3⟩ := rep_said hrep hok
      obtain rfl := packV_inj e1
      rw [unF_nodes] at e2
      have hlv := runE_length hrun
      have hcl : cs'.length = 5 := k4
      obtain ⟨kn, hnum2, hkn⟩ := run_num (evs1 := evs1) (show runE true (evs1 ++ .leaf .i8 false :: (plA.map (·.1)).drop 3) bs = some (vs, r) from hrun)
      obtain rfl := hm1k kn hnum2
      have hle := dec_len hd
      rw [enc_pack hok] at hle
      match vs, hlv, e2, hkn, hle with
      | [v0, v1, v2, v3], _, e2, hkn, hle =>
        have hkn : some v2 = some (V.i (-1)) := hkn
        cases hkn
        have s1 : Said true (fun i => i < H4.length) H4 cs' pl1 [v0, v1, .i (-1), v3] := fun i e o hi => by
          match i, hi with
          | 0, hi =>
            simp [pl1] at hi
            obtain ⟨rfl, rfl⟩ := hi
            obtain ⟨v, q1, q2, q3⟩ := e2 0 _ _ rfl
            exact ⟨v, q1, at_l q2 (by rw [hcl]; simp only [Ev.wide, K.wide]; omega), q3⟩
          | 1, hi =>
            simp [pl1] at hi
            obtain ⟨rfl, rfl⟩ := hi
            obtain ⟨v, q1, q2, q3⟩ := e2 1 _ _ rfl
            exact ⟨v, q1, at_l q2 (by rw [hcl]; simp only [Ev.wide, K.wide]; omega), q3⟩
          | i + 2, hi => simp [pl1] at hi
        have sT : Said true (fun i => i < H4.length) H4 cs' plT [v3] := fun i e o hi => by
          match i, hi with
          | 0, hi =>
            simp [plT] at hi
            obtain ⟨rfl, rfl⟩ := hi
            obtain ⟨v, q1, q2, q3⟩ := e2 3 _ _ rfl
            exact ⟨v, q1, at_l q2 (by rw [hcl]; simp only [Ev.wide, K.wide]; omega), q3⟩
          | i + 1, hi => simp [plT] at hi
        have hw : encs true plA [v0, v1, .i (-1), v3] = encs true pl1 [v0, v1, .i (-1), v3] ++ [255] ++ encs true plT [v3] := by
          have h1 : be 1 (-1) = [255] := by decide
          simp only [plA, pl1, plT, encs, Ev.enc, encK, K.size, h1, List.append_assoc, List.nil_append, List.append_nil]
          try rfl
        have hbd : (encs true pl1 [v0, v1, .i (-1), v3]).length + (encs true plT [v3]).length + 16 ≤ 1099511627776 := by
          have hw2 := congrArg List.length hw
          simp only [List.length_append] at hw2
          have : ([255] : B).length = 1 := rfl
          omega
        rw [hw]
        obtain ⟨out, H5, c4, o1, o2⟩ := chkWA_sound (wprims_x true) wrA (by kernel_rfl : P.funcs[63]? = some Tryd.f63) k3 hcl (fun n hn => by cases hn; exact ⟨0, kv 0 _ _ wFA_0 rfl, rfl⟩) (kv 3 _ _ wFA_p rfl) s1 sT hbd rfl
        refine ⟨out, H5, again_good_run c1 hcv c2 hb.noS ha (readf_x c3) c4, ?_, ?_, fun i b hi hx => ?_⟩
        · rcases o1 with h | ⟨i, h1, h2⟩
          · exact .inl h
          · exact .inr ⟨i, by omega, h2⟩
        · have := o2.len; omega
        · rw [o2.at_ i (by omega)]
          exact k2 i b (by omega) (hk3 i b hi hx)
end Go.Proofs.YtdanlkiojkimaaaDoor.Rd.mDescribeTopicPartitionsRequest

