/-
  THE MESSAGE MetadataRequest: what is read of octets, and what is written of that.
-/
import Derived.Test.YtiifcfngbbhgoaaGreatDoorQRdStr
import Derived.Test.YtiifcfngbbhgoaaGreatDoorQApLeaf
set_option linter.constructorNameAsVariable false
set_option linter.unusedVariables false
set_option linter.unusedSimpArgs false
namespace Go.Proofs.YtiifcfngbbhgoaaGreatDoor.Rd.mMetadataRequest
open Go Go.Proofs.YtiifcfngbbhgoaaGreatDoor.Ax Go.Proofs.YtiifcfngbbhgoaaGreatDoor.Wire Go.Proofs.YtiifcfngbbhgoaaGreatDoor.Rd
set_option maxRecDepth 100000
set_option maxHeartbeats 1000000
def tzX : List AV := [.s0, .b false, .b false, .b false, .m0]
def tdX : List AV := [.s0, .b false, .b false, .b false, .m0]
def zX : List AV := .i .i16 0 :: tzX
def dX : List AV := .i .i16 0 :: tdX
def zV (k : Int) : List AV := .i .i16 k :: tdX
def wX (k : Int) : SF := .i .i16 k :: [.z .s0, .b false, .b false, .b false, .z .m0]
theorem wX_ok (k : Int) : ∀ (o : Nat) (v : SV), (wX k)[o]? = some v → ∃ a c, (zV k)[o]? = some a ∧ a.one = true ∧ v.con = some c ∧ a = c := by
  intro o v h
  match o, h with
  | 0, h => cases h; exact ⟨_, _, rfl, rfl, rfl, rfl⟩
  | 1, h => cases h; exact ⟨_, _, rfl, rfl, rfl, rfl⟩
  | 2, h => cases h; exact ⟨_, _, rfl, rfl, rfl, rfl⟩
  | 3, h => cases h; exact ⟨_, _, rfl, rfl, rfl, rfl⟩
  | 4, h => cases h; exact ⟨_, _, rfl, rfl, rfl, rfl⟩
  | 5, h => cases h; exact ⟨_, _, rfl, rfl, rfl, rfl⟩
  | n + 6, h => simp [wX] at h
def CX (fl : Bool) : Cfg := { prim := [(50, .len false), (64, .leaf .bool false none), (49, .len true), (60, .leaf .str true (some true)), (56, .leaf .str false (some true)), (52, .done), (62, .leaf .str true (some false)), (51, .ok), (58, .leaf .str false (some false)), (54, .leaf .uuid false none), (63, .tags), (19, .inl), (53, .inl)], res := 6, flex := fl }
def CWX (fl : Bool) : Cfg := { prim := [], res := 4, flex := fl }
def prX : List (FuncId × WPrim) := [(40, .each), (39, .tlen), (32, .len false false), (41, .leaf .bool false none), (31, .len false true), (29, .len true true), (36, .leaf .str true (some true)), (34, .leaf .str false (some true)), (30, .len true false), (37, .leaf .str true (some false)), (35, .leaf .str false (some false)), (33, .leaf .uuid false none), (38, .uv)]
theorem prims_x (fl : Bool) : Prims (CX fl) := by
  intro f p h
  have hm := lookup_mem h
  simp only [CX, List.mem_cons, List.not_mem_nil, or_false, Prod.mk.injEq] at hm
  rcases hm with ⟨rfl, rfl⟩ | ⟨rfl, rfl⟩ | ⟨rfl, rfl⟩ | ⟨rfl, rfl⟩ | ⟨rfl, rfl⟩ | ⟨rfl, rfl⟩ | ⟨rfl, rfl⟩ | ⟨rfl, rfl⟩ | ⟨rfl, rfl⟩ | ⟨rfl, rfl⟩ | ⟨rfl, rfl⟩ | ⟨rfl, rfl⟩ | ⟨rfl, rfl⟩
  · exact fun h => by have h : false = fl := h; subst h; exact rd_arrlen.l
  · exact fun _ => rdv_bool _ _
  · exact fun h => by have h : true = fl := h; subst h; exact rd_carrlen
  · exact fun h => by cases fl with | true => exact rdv_cnstring | false => cases h
  · exact fun h => by cases fl with | true => exact rdv_cstring | false => cases h
  · exact rddone
  · exact fun h => by cases fl with | true => cases h | false => exact rdv_nstring
  · exact rdok
  · exact fun h => by cases fl with | true => cases h | false => exact rdv_string
  · exact fun _ => rdv_uuid _ _
  · exact rdt
  · exact trivial
  · exact trivial
theorem wprims_x (fl : Bool) : WPrims (CWX fl) prX := by
  intro f p h
  have hm := lookup_mem h
  simp only [prX, List.mem_cons, List.not_mem_nil, or_false, Prod.mk.injEq] at hm
  rcases hm with ⟨rfl, rfl⟩ | ⟨rfl, rfl⟩ | ⟨rfl, rfl⟩ | ⟨rfl, rfl⟩ | ⟨rfl, rfl⟩ | ⟨rfl, rfl⟩ | ⟨rfl, rfl⟩ | ⟨rfl, rfl⟩ | ⟨rfl, rfl⟩ | ⟨rfl, rfl⟩ | ⟨rfl, rfl⟩ | ⟨rfl, rfl⟩ | ⟨rfl, rfl⟩
  · exact ape_each
  · exact apn_len
  · exact fun h => by have h : false = fl := h; subst h; exact apl_arr
  · exact fun _ => apk_bool _ _
  · exact fun h => by have h : true = fl := h; subst h; exact apl_carr
  · exact fun h => by have h : true = fl := h; subst h; exact apl_cnarr
  · exact fun h => by cases fl with | true => exact apk_cnstr | false => cases h
  · exact fun h => by cases fl with | true => exact apk_cstr | false => cases h
  · exact fun h => by have h : false = fl := h; subst h; exact apl_narr
  · exact fun h => by cases fl with | true => cases h | false => exact apk_nstr
  · exact fun h => by cases fl with | true => cases h | false => exact apk_str
  · exact fun _ => apk_uuid _ _
  · exact apu_uv
theorem new_x (H : Heap) : CA P NS 11 [] H (.p H.length 0, H ++ [.cells 62 .vr dX]) := by
  have hz : zeroA P 62 = some (.g zX) := by kernel_rfl
  have hd : CA P NS 19 [.p H.length 0] (H ++ [.cells 62 .vr (AV.g zX).cells]) (.t [], H ++ [.cells 62 .vr dX]) := CA.go (fn := Tryz.f19) (vs := []) (c := .skip) (x := .normal) (by kernel_rfl) rfl (.inl rfl) ⟨_, RU.skip, rfl⟩
  have ha : ∀ fr, opA P (.alloc 62) fr H = some (.p H.length 0, H ++ [.cells 62 .vr (AV.g zX).cells]) := fun fr => op_alloc hz rfl
  generalize H ++ [Blk.cells 62 Kn.vr (AV.g zX).cells] = H1 at hd ha
  generalize H ++ [Blk.cells 62 Kn.vr dX] = H2 at hd ⊢
  generalize AV.p H.length 0 = q at hd ha ⊢
  refine CA.go (fn := Tryz.f11) (vs := [_]) (by kernel_rfl) rfl (.inr rfl) ?_
  apply Exists.intro
  apply And.intro
  · dsimp only [Tryz.f11]
    dsimp only [List.length_cons, List.length_nil, List.cons_append, List.nil_append, Nat.reduceSub, Nat.reduceAdd, List.replicate]
    refine RU.seq RU.rg ?_
    (apply RU.seq; focus (apply RU.region; refine OS.op rfl rfl (ha _) ?_; dsimp only [AV.cells, putA, List.set_cons_zero, List.set_cons_succ]; exact OS.nil))
    refine RU.seq RU.rg ?_
    refine RU.seq RU.rg ?_
    exact RU.ret
  · rfl
theorem setv_x {H : Heap} {mb : Nat} {n : Int} {c0 : AV} {cs : List AV} (hm : H[mb]? = some (.cells 62 .vr (c0 :: cs))) : CA P NS 15 [.p mb 0, .i .i16 n] H (.t [], H.set mb (.cells 62 .vr (.i .i16 n :: cs))) := by
  have hf : fieldAddrA P 62 (.p mb 0) 0 = some (.p mb 0) := by kernel_rfl
  have hsz : sizeA P 40 = some 1 := by kernel_rfl
  have hs : storeA P H 40 (.p mb 0) (.i .i16 n) = some (H.set mb (.cells 62 .vr (.i .i16 n :: cs))) := by
    simp [storeA, hm, hsz, Kn.own, AV.cells, AV.one, over]
  refine CA.go (fn := Tryz.f15) (vs := []) (by kernel_rfl) rfl (.inl rfl) ?_
  apply Exists.intro
  apply And.intro
  · dsimp only [Tryz.f15]
    dsimp only [List.length_cons, List.length_nil, List.cons_append, List.nil_append, Nat.reduceSub, Nat.reduceAdd, List.replicate]
    apply RU.region
    refine OS.op rfl rfl (op_move rfl) ?_
    dsimp only [AV.cells, putA, List.set_cons_zero, List.set_cons_succ]
    refine OS.op rfl rfl (op_move rfl) ?_
    dsimp only [AV.cells, putA, List.set_cons_zero, List.set_cons_succ]
    refine OS.op rfl rfl (op_nilCheck rfl) ?_
    dsimp only [AV.cells, putA, List.set_cons_zero, List.set_cons_succ]
    refine OS.op rfl rfl (op_fieldAddr rfl hf) ?_
    dsimp only [AV.cells, putA, List.set_cons_zero, List.set_cons_succ]
    refine OS.op rfl rfl (op_store rfl rfl hs) ?_
    exact OS.nil
  · rfl
theorem readf_x {H H' : Heap} {mb : Nat} {src v : AV} (h : CA P NS 28 [.p mb 0, src, .b false] H (v, H')) : CA P NS 16 [.p mb 0, src] H (v, H') := by
  refine CA.go (fn := Tryz.f16) (vs := [_]) (by kernel_rfl) rfl (by first | exact .inr rfl | exact .inl rfl) ?_
  apply Exists.intro
  apply And.intro
  · dsimp only [Tryz.f16]
    dsimp only [List.length_cons, List.length_nil, List.cons_append, List.nil_append, Nat.reduceSub, Nat.reduceAdd, List.replicate]
    refine RU.seq RU.rg ?_
    refine RU.seq RU.rg ?_
    first | exact RU.ret | exact RU.skip
  · rfl
theorem again_bad_run {H H1 H2 H3 H4 : Heap} {mb : Nat} {v m : Int} {data src : AV} (c1 : CA P NS 11 [] H (.p mb 0, H1)) (hc : convA P 3 40 (.i .i64 v) = some (.i .i16 m)) (c2 : CA P NS 15 [.p mb 0, .i .i16 m] H1 (.t [], H2))
    (hns : data.isS = false) (ha : appendA P H2 22 false .s0 data = some (src, H3)) (c3 : CA P NS 16 [.p mb 0, src] H3 (.e, H4)) :
    CA P NS 9 [.i .i64 v, data] H (.t [.s0, .b false], H4) := by
  have hn := neq_e
  refine CA.go (fn := Tryz.f9) (vs := [_, _]) (by kernel_rfl) rfl (.inr rfl) ?_
  apply Exists.intro
  apply And.intro
  · dsimp only [Tryz.f9]
    dsimp only [List.length_cons, List.length_nil, List.cons_append, List.nil_append, Nat.reduceSub, Nat.reduceAdd, List.replicate]
    refine RU.seq RU.rg ?_
    refine RU.seq RU.rg ?_
    refine RU.seq RU.rg ?_
    (apply RU.seqx; rotate_left; focus (simp)); refine RU.seq RU.rg ?_; apply RU.condT rfl
    refine RU.seq RU.rg ?_
    exact RU.ret
  · rfl
theorem again_good_run {H H1 H2 H3 H4 H5 : Heap} {mb : Nat} {v m : Int} {data src out : AV} (c1 : CA P NS 11 [] H (.p mb 0, H1)) (hc : convA P 3 40 (.i .i64 v) = some (.i .i16 m)) (c2 : CA P NS 15 [.p mb 0, .i .i16 m] H1 (.t [], H2))
    (hns : data.isS = false) (ha : appendA P H2 22 false .s0 data = some (src, H3)) (c3 : CA P NS 16 [.p mb 0, src] H3 (.n, H4)) (c4 : CA P NS 17 [.p mb 0, .s0] H4 (out, H5)) :
    CA P NS 9 [.i .i64 v, data] H (.t [out, .b true], H5) := by
  have hn := neq_n
  refine CA.go (fn := Tryz.f9) (vs := [_, _]) (by kernel_rfl) rfl (.inr rfl) ?_
  apply Exists.intro
  apply And.intro
  · dsimp only [Tryz.f9]
    dsimp only [List.length_cons, List.length_nil, List.cons_append, List.nil_append, Nat.reduceSub, Nat.reduceAdd, List.replicate]
    refine RU.seq RU.rg ?_
    refine RU.seq RU.rg ?_
    refine RU.seq RU.rg ?_
    refine RU.seq (RU.seq RU.rg (RU.condF rfl RU.skip)) ?_
    refine RU.seq RU.rg ?_
    exact RU.ret
  · rfl
theorem again_x {k : Int} {fl : Bool} {pl : List (Ev × Nat)} {wF : SF} (top : chkTop (CX fl) Tryz.f28 (wX k) = some (pl, wF)) (hwF : wF[0]? = some (.i .i16 k)) (wtop : chkWTop (CWX fl) prX Tryz.f17 zX.length (some k) pl = true) (hcv : convA P 3 40 (.i .i64 k) = some (.i .i16 k)) {H : Heap} {rb0 : Nat} {data : AV} {bs : B} (G : Globs H rb0) (hb : DatAt H data bs) (hlen : bs.length ≤ 1099511627000) :
    (dec fl (nodes pl) bs = none → ∃ H', CA P NS 9 [.i .i64 k, data] H (.t [.s0, .b false], H')) ∧
    (∀ x r, dec fl (nodes pl) bs = some (x, r) → ∃ out H', CA P NS 9 [.i .i64 k, data] H (.t [out, .b true], H') ∧ OutAt H.length H' out (enc fl (nodes pl) x) ∧ H.length ≤ H'.length ∧ (∀ i b, i < H.length → H[i]? = some b → H'[i]? = some b)) := by
  have c1 := new_x H
  have hm1 : (H ++ [Blk.cells 62 .vr dX])[H.length]? = some (.cells 62 .vr (.i .i16 0 :: tdX)) := by simp [dX]
  have c2 := setv_x (n := k) hm1
  have hset : (H ++ [Blk.cells 62 .vr dX]).set H.length (.cells 62 .vr (.i .i16 k :: tdX)) = H ++ [.cells 62 .vr (zV k)] := by simp [zV]
  rw [hset] at c2
  have hlH1 : (H ++ [Blk.cells 62 Kn.vr (zV k)]).length = H.length + 1 := by simp
  have hb1 := hb.app [.cells 62 .vr (zV k)]
  obtain ⟨src, H3, ha, ho, hk⟩ := ap_bytes (str := false) (L0 := (H ++ [Blk.cells 62 Kn.vr (zV k)]).length) (H := H ++ [.cells 62 .vr (zV k)]) (out := .s0) (bs := []) (Nat.le_refl _) (.inl ⟨rfl, rfl⟩) hb1.first (by simp; omega)
  simp only [List.nil_append] at ho
  have hk3 : ∀ i b, i < H.length → H[i]? = some b → H3[i]? = some b := fun i b hi hx => by
    rw [hk.at_ i (by rw [hlH1]; omega), List.getElem?_append_left hi]; exact hx
  have hl3 : H.length + 1 ≤ H3.length := by have := hk.len; rw [hlH1] at this; exact this
  have hm3 : H3[H.length]? = some (.cells 62 .vr (zV k)) := by rw [hk.at_ _ (by rw [hlH1]; omega)]; simp
  have hrb := G.lt
  have hsrc : BytesAt (fun i => i ∉ [rb0, H.length]) H3 src bs := BytesAt.sub (fun i hi => by have hi : (H ++ [Blk.cells 62 Kn.vr (zV k)]).length ≤ i := hi; rw [hlH1] at hi; simp; omega) ho.bytes
  obtain ⟨t1, t2⟩ := chkTop_sound (prims_x fl) top (by kernel_rfl : P.funcs[28]? = some Tryz.f28) hm3 (show (zV k).length = (wX k).length by rfl) (wX_ok k) (by omega) (by omega) (G.room (Nat.le_refl _) (by omega) (by omega) hk3) hsrc (by decide +kernel) rfl
  constructor
  · intro hd
    obtain ⟨H4, c3⟩ := t1 hd
    exact ⟨H4, again_bad_run c1 hcv c2 hb.noS ha (readf_x c3)⟩
  · intro x r hd
    obtain ⟨H4, cs', rb, c3, k1, k2, k3, k4, k5, k6, k7⟩ := t2 x r hd
    have hrep : Rep (fun i => i < H4.length) H4 (nodes pl) x cs' := Rep.kt ⟨Nat.le_refl _, fun i b _ hx => ⟨(List.getElem?_eq_some_iff.1 hx).1, hx⟩⟩ k6
    obtain ⟨vs, e1, e2, e3⟩ := rep_said hrep (dec_ok hd)
    rw [unF_nodes] at e2 e3
    have hle := dec_len hd
    rw [e3] at hle
    have hv0 : cs'[0]? = some (.i .i16 k) := k7 0 _ _ hwF rfl
    obtain ⟨out, H5, c4, o1, o2⟩ := chkWTop_sound (wprims_x fl) wtop (by kernel_rfl : P.funcs[17]? = some Tryz.f17) k3 (by rw [k4]; rfl) (fun n hn => by cases hn; exact hv0) e2 (by have h1 : (CWX fl).flex = fl := rfl; rw [h1]; omega) rfl
    refine ⟨out, H5, again_good_run c1 hcv c2 hb.noS ha (readf_x c3) c4, ?_, ?_, fun i b hi hx => ?_⟩
    · rw [e3]
      rcases o1 with h | ⟨i, h1, h2⟩
      · exact .inl h
      · exact .inr ⟨i, by omega, h2⟩
    · have := o2.len; omega
    · rw [o2.at_ i (by omega)]
      exact k2 i b (by omega) (hk3 i b hi hx)
def VerAt (k : Nat) (fl : Bool) (f : F) : Prop := f.good = true ∧ ∀ {H : Heap} {rb0 : Nat} {data : AV} {bs : B}, Globs H rb0 → DatAt H data bs → bs.length ≤ 1099511627000 →
    (dec fl f bs = none → ∃ H', CA P NS 9 [.i .i64 (k : Int), data] H (.t [.s0, .b false], H')) ∧
    (∀ x r, dec fl f bs = some (x, r) → ∃ out H', CA P NS 9 [.i .i64 (k : Int), data] H (.t [out, .b true], H') ∧ OutAt H.length H' out (enc fl f x) ∧ H.length ≤ H'.length ∧ (∀ i b, i < H.length → H[i]? = some b → H'[i]? = some b))
def VerOK (k : Nat) : Prop := ∃ (fl : Bool) (f : F), VerAt k fl f
noncomputable def plOf (k : Int) (fl : Bool) : List (Ev × Nat) := ((chkTop (CX fl) Tryz.f28 (wX k)).getD ([], [])).1
noncomputable def chkv (k : Int) (fl : Bool) : Bool := match chkTop (CX fl) Tryz.f28 (wX k) with
  | some (pl, wF) => decide (wF[0]? = some (.i .i16 k)) && (chkWTop (CWX fl) prX Tryz.f17 zX.length (some k) pl && (nodes pl).good)
  | none => false
theorem chkv_ok {k : Int} {fl : Bool} (h : chkv k fl = true) : ∃ wF, chkTop (CX fl) Tryz.f28 (wX k) = some (plOf k fl, wF) ∧ wF[0]? = some (.i .i16 k) ∧ chkWTop (CWX fl) prX Tryz.f17 zX.length (some k) (plOf k fl) = true ∧ (nodes (plOf k fl)).good = true := by
  unfold chkv at h
  split at h
  · rename_i pl wF hc
    have hp : plOf k fl = pl := by unfold plOf; rw [hc]; rfl
    simp only [Bool.and_eq_true, decide_eq_true_eq] at h
    rw [hp]
    exact ⟨wF, hc, h.1, h.2.1, h.2.2⟩
  · cases h
noncomputable def pl0 : List (Ev × Nat) := plOf 0 false
theorem ver_0 : VerAt 0 false (nodes pl0) := by
  obtain ⟨wF, a, b, c, d⟩ := chkv_ok (k := 0) (fl := false) (by kernel_rfl)
  exact ⟨d, fun G hb hl => again_x (k := 0) a b c (by kernel_rfl) G hb hl⟩
noncomputable def pl1 : List (Ev × Nat) := plOf 1 false
theorem ver_1 : VerAt 1 false (nodes pl1) := by
  obtain ⟨wF, a, b, c, d⟩ := chkv_ok (k := 1) (fl := false) (by kernel_rfl)
  exact ⟨d, fun G hb hl => again_x (k := 1) a b c (by kernel_rfl) G hb hl⟩
noncomputable def pl2 : List (Ev × Nat) := plOf 2 false
theorem ver_2 : VerAt 2 false (nodes pl2) := by
  obtain ⟨wF, a, b, c, d⟩ := chkv_ok (k := 2) (fl := false) (by kernel_rfl)
  exact ⟨d, fun G hb hl => again_x (k := 2) a b c (by kernel_rfl) G hb hl⟩
noncomputable def pl3 : List (Ev × Nat) := plOf 3 false
theorem ver_3 : VerAt 3 false (nodes pl3) := by
  obtain ⟨wF, a, b, c, d⟩ := chkv_ok (k := 3) (fl := false) (by kernel_rfl)
  exact ⟨d, fun G hb hl => again_x (k := 3) a b c (by kernel_rfl) G hb hl⟩
noncomputable def pl4 : List (Ev × Nat) := plOf 4 false
theorem ver_4 : VerAt 4 false (nodes pl4) := by
  obtain ⟨wF, a, b, c, d⟩ := chkv_ok (k := 4) (fl := false) (by kernel_rfl)
  exact ⟨d, fun G hb hl => again_x (k := 4) a b c (by kernel_rfl) G hb hl⟩
noncomputable def pl5 : List (Ev × Nat) := plOf 5 false
theorem ver_5 : VerAt 5 false (nodes pl5) := by
  obtain ⟨wF, a, b, c, d⟩ := chkv_ok (k := 5) (fl := false) (by kernel_rfl)
  exact ⟨d, fun G hb hl => again_x (k := 5) a b c (by kernel_rfl) G hb hl⟩
noncomputable def pl6 : List (Ev × Nat) := plOf 6 false
theorem ver_6 : VerAt 6 false (nodes pl6) := by
  obtain ⟨wF, a, b, c, d⟩ := chkv_ok (k := 6) (fl := false) (by kernel_rfl)
  exact ⟨d, fun G hb hl => again_x (k := 6) a b c (by kernel_rfl) G hb hl⟩
noncomputable def pl7 : List (Ev × Nat) := plOf 7 false
theorem ver_7 : VerAt 7 false (nodes pl7) := by
  obtain ⟨wF, a, b, c, d⟩ := chkv_ok (k := 7) (fl := false) (by kernel_rfl)
  exact ⟨d, fun G hb hl => again_x (k := 7) a b c (by kernel_rfl) G hb hl⟩
noncomputable def pl8 : List (Ev × Nat) := plOf 8 false
theorem ver_8 : VerAt 8 false (nodes pl8) := by
  obtain ⟨wF, a, b, c, d⟩ := chkv_ok (k := 8) (fl := false) (by kernel_rfl)
  exact ⟨d, fun G hb hl => again_x (k := 8) a b c (by kernel_rfl) G hb hl⟩
noncomputable def pl9 : List (Ev × Nat) := plOf 9 true
theorem ver_9 : VerAt 9 true (nodes pl9) := by
  obtain ⟨wF, a, b, c, d⟩ := chkv_ok (k := 9) (fl := true) (by kernel_rfl)
  exact ⟨d, fun G hb hl => again_x (k := 9) a b c (by kernel_rfl) G hb hl⟩
noncomputable def pl10 : List (Ev × Nat) := plOf 10 true
theorem ver_10 : VerAt 10 true (nodes pl10) := by
  obtain ⟨wF, a, b, c, d⟩ := chkv_ok (k := 10) (fl := true) (by kernel_rfl)
  exact ⟨d, fun G hb hl => again_x (k := 10) a b c (by kernel_rfl) G hb hl⟩
noncomputable def pl11 : List (Ev × Nat) := plOf 11 true
theorem ver_11 : VerAt 11 true (nodes pl11) := by
  obtain ⟨wF, a, b, c, d⟩ := chkv_ok (k := 11) (fl := true) (by kernel_rfl)
  exact ⟨d, fun G hb hl => again_x (k := 11) a b c (by kernel_rfl) G hb hl⟩
noncomputable def pl12 : List (Ev × Nat) := plOf 12 true
theorem ver_12 : VerAt 12 true (nodes pl12) := by
  obtain ⟨wF, a, b, c, d⟩ := chkv_ok (k := 12) (fl := true) (by kernel_rfl)
  exact ⟨d, fun G hb hl => again_x (k := 12) a b c (by kernel_rfl) G hb hl⟩
noncomputable def pl13 : List (Ev × Nat) := plOf 13 true
theorem ver_13 : VerAt 13 true (nodes pl13) := by
  obtain ⟨wF, a, b, c, d⟩ := chkv_ok (k := 13) (fl := true) (by kernel_rfl)
  exact ⟨d, fun G hb hl => again_x (k := 13) a b c (by kernel_rfl) G hb hl⟩
end Go.Proofs.YtiifcfngbbhgoaaGreatDoor.Rd.mMetadataRequest

