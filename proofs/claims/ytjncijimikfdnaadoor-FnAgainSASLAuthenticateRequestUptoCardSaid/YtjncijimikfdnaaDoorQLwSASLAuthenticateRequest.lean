import Derived.Test.YtjncijimikfdnaaDoorQLwKit
import Derived.Test.YtjncijimikfdnaaDoorQApLeaf
import Derived.Test.YtjncijimikfdnaaDoorQWireB
/-
  THE MESSAGE SASLAuthenticateRequest: what is read of octets, and what is written of that.
-/
namespace Go.Proofs.YtjncijimikfdnaaDoor.Rd.mSASLAuthenticateRequest
set_option linter.constructorNameAsVariable false
set_option linter.unusedVariables false
set_option linter.unusedSimpArgs false
open Go Go.Proofs.YtjncijimikfdnaaDoor.Ax Go.Proofs.YtjncijimikfdnaaDoor.Wire Go.Proofs.YtjncijimikfdnaaDoor.Rd
set_option linter.unusedVariables false
set_option linter.unusedSimpArgs false
set_option maxRecDepth 100000
set_option maxHeartbeats 1000000
def tzX : List AV := [.s0, .m0]
def tdX : List AV := [.s0, .m0]
def zX : List AV := .i .i16 0 :: tzX
def dX : List AV := .i .i16 0 :: tdX
def zV (k : Int) : List AV := .i .i16 k :: tdX
def wX (k : Int) : SF := .i .i16 k :: [.z .s0, .z .m0]
theorem wX_ok (k : Int) : ∀ (o : Nat) (v : SV), (wX k)[o]? = some v → ∃ a c, (zV k)[o]? = some a ∧ a.one = true ∧ v.con = some c ∧ a = c := by
  intro o v h
  match o, h with
  | 0, h => cases h; exact ⟨_, _, rfl, rfl, rfl, rfl⟩
  | 1, h => cases h; exact ⟨_, _, rfl, rfl, rfl, rfl⟩
  | 2, h => cases h; exact ⟨_, _, rfl, rfl, rfl, rfl⟩
  | n + 3, h => simp [wX] at h
def CX (fl : Bool) : Cfg := { prim := [(99, .leaf .bytes false (some false)), (98, .leaf .bytes false (some true)), (90, .done), (89, .tags), (75, .inl)], res := 6, flex := fl }
def CWX (fl : Bool) : Cfg := { prim := [], res := 4, flex := fl }
def prX : List (FuncId × WPrim) := [(68, .each), (67, .tlen), (78, .leaf .bytes false (some false)), (77, .leaf .bytes false (some true)), (66, .uv)]
theorem prims_x (fl : Bool) : Prims (CX fl) := by
  intro f p h
  have hm := lookup_mem h
  simp only [CX, List.mem_cons, List.not_mem_nil, or_false, Prod.mk.injEq] at hm
  rcases hm with ⟨rfl, rfl⟩ | ⟨rfl, rfl⟩ | ⟨rfl, rfl⟩ | ⟨rfl, rfl⟩ | ⟨rfl, rfl⟩
  · exact fun h => by cases fl with | true => cases h | false => exact rdv_bytes
  · exact fun h => by cases fl with | true => exact rdv_cbytes | false => cases h
  · exact rddone
  · exact rdt
  · exact trivial
theorem wprims_x (fl : Bool) : WPrims (CWX fl) prX := by
  intro f p h
  have hm := lookup_mem h
  simp only [prX, List.mem_cons, List.not_mem_nil, or_false, Prod.mk.injEq] at hm
  rcases hm with ⟨rfl, rfl⟩ | ⟨rfl, rfl⟩ | ⟨rfl, rfl⟩ | ⟨rfl, rfl⟩ | ⟨rfl, rfl⟩
  · exact ape_each
  · exact apn_len
  · exact fun h => by cases fl with | true => cases h | false => exact apk_by
  · exact fun h => by cases fl with | true => exact apk_cby | false => cases h
  · exact apu_uv

theorem new_x (H : Heap) : CA P NS 44 [] H (.p H.length 0, H ++ [.cells 90 .vr dX]) := by
  have hz : zeroA P 90 = some (.g zX) := by kernel_rfl
  have hd : CA P NS 75 [.p H.length 0] (H ++ [.cells 90 .vr (AV.g zX).cells]) (.t [], H ++ [.cells 90 .vr dX]) := CA.go (fn := Tryd.f75) (vs := []) (c := .skip) (x := .normal) (by kernel_rfl) rfl (.inl rfl) ⟨_, RU.skip, rfl⟩
  have ha : ∀ fr, opA P (.alloc 90) fr H = some (.p H.length 0, H ++ [.cells 90 .vr (AV.g zX).cells]) := fun fr => op_alloc hz rfl
  generalize H ++ [Blk.cells 90 Kn.vr (AV.g zX).cells] = H1 at hd ha
  generalize H ++ [Blk.cells 90 Kn.vr dX] = H2 at hd ⊢
  generalize AV.p H.length 0 = q at hd ha ⊢
  refine CA.go (fn := Tryd.f44) (vs := [_]) (by kernel_rfl) rfl (.inr rfl) ?_
  apply Exists.intro
  apply And.intro
  · dsimp only [Tryd.f44]
    dsimp only [List.length_cons, List.length_nil, List.cons_append, List.nil_append, Nat.reduceSub, Nat.reduceAdd, List.replicate]
    refine RU.seq RU.rg ?_
    (apply RU.seq; focus (apply RU.region; refine OS.op rfl rfl (ha _) ?_; dsimp only [AV.cells, putA, List.set_cons_zero, List.set_cons_succ]; exact OS.nil))
    refine RU.seq RU.rg ?_
    refine RU.seq RU.rg ?_
    exact RU.ret
  · rfl
theorem setv_x {H : Heap} {mb : Nat} {n : Int} {c0 : AV} {cs : List AV} (hm : H[mb]? = some (.cells 90 .vr (c0 :: cs))) : CA P NS 46 [.p mb 0, .i .i16 n] H (.t [], H.set mb (.cells 90 .vr (.i .i16 n :: cs))) := by
  have hf : fieldAddrA P 90 (.p mb 0) 0 = some (.p mb 0) := by kernel_rfl
  have hsz : sizeA P 42 = some 1 := by kernel_rfl
  have hs : storeA P H 42 (.p mb 0) (.i .i16 n) = some (H.set mb (.cells 90 .vr (.i .i16 n :: cs))) := by
    simp [storeA, hm, hsz, Kn.own, AV.cells, AV.one, over]
  refine CA.go (fn := Tryd.f46) (vs := []) (by kernel_rfl) rfl (.inl rfl) ?_
  apply Exists.intro
  apply And.intro
  · dsimp only [Tryd.f46]
    dsimp only [List.length_cons, List.length_nil, List.cons_append, List.nil_append, Nat.reduceSub, Nat.reduceAdd, List.replicate]
    apply RU.region
    refine OS.op rfl rfl (op_move rfl) ?_
    dsimp only [AV.cells, putA, List.set_cons_zero, List.set_cons_succ]
    refine OS.op rfl rfl (op_move rfl) ?_
    dsimp only [AV.cells, putA, List.set_cons_zero, List.set_cons_succ]
    refine OS.op rfl rfl (op_nilCheck rfl) ?_
    dsimp only [AV.cells, putA, List.set_cons_zero, List.set_cons_succ]
    refine OS.op rfl rfl (op_fieldAddr rfl hf) ?_
    dsimp only [AV.cells, putA, List.set_cons_zero, List.set_cons_succ]
    refine OS.op rfl rfl (op_store rfl rfl hs) ?_
    exact OS.nil
  · rfl
theorem readf_x {H H' : Heap} {mb : Nat} {src v : AV} (h : CA P NS 76 [.p mb 0, src, .b false] H (v, H')) : CA P NS 47 [.p mb 0, src] H (v, H') := by
  refine CA.go (fn := Tryd.f47) (vs := [_]) (by kernel_rfl) rfl (by first | exact .inr rfl | exact .inl rfl) ?_
  apply Exists.intro
  apply And.intro
  · dsimp only [Tryd.f47]
    dsimp only [List.length_cons, List.length_nil, List.cons_append, List.nil_append, Nat.reduceSub, Nat.reduceAdd, List.replicate]
    refine RU.seq RU.rg ?_
    refine RU.seq RU.rg ?_
    first | exact RU.ret | exact RU.skip
  · rfl
theorem again_bad_run {H H1 H2 H3 H4 : Heap} {mb : Nat} {v m : Int} {data src : AV} (c1 : CA P NS 44 [] H (.p mb 0, H1)) (hc : convA P 3 42 (.i .i64 v) = some (.i .i16 m)) (c2 : CA P NS 46 [.p mb 0, .i .i16 m] H1 (.t [], H2))
    (hns : data.isS = false) (ha : appendA P H2 22 false .s0 data = some (src, H3)) (c3 : CA P NS 47 [.p mb 0, src] H3 (.e, H4)) :
    CA P NS 23 [.i .i64 v, data] H (.t [.s0, .b false], H4) := by
  have hn := neq_e
  refine CA.go (fn := Tryd.f23) (vs := [_, _]) (by kernel_rfl) rfl (.inr rfl) ?_
  apply Exists.intro
  apply And.intro
  · dsimp only [Tryd.f23]
    dsimp only [List.length_cons, List.length_nil, List.cons_append, List.nil_append, Nat.reduceSub, Nat.reduceAdd, List.replicate]
    refine RU.seq RU.rg ?_
    refine RU.seq RU.rg ?_
    refine RU.seq RU.rg ?_
    (apply RU.seqx; rotate_left; focus (simp)); refine RU.seq RU.rg ?_; apply RU.condT rfl
    refine RU.seq RU.rg ?_
    exact RU.ret
  · rfl
theorem again_good_run {H H1 H2 H3 H4 H5 : Heap} {mb : Nat} {v m : Int} {data src out : AV} (c1 : CA P NS 44 [] H (.p mb 0, H1)) (hc : convA P 3 42 (.i .i64 v) = some (.i .i16 m)) (c2 : CA P NS 46 [.p mb 0, .i .i16 m] H1 (.t [], H2))
    (hns : data.isS = false) (ha : appendA P H2 22 false .s0 data = some (src, H3)) (c3 : CA P NS 47 [.p mb 0, src] H3 (.n, H4)) (c4 : CA P NS 48 [.p mb 0, .s0] H4 (out, H5)) :
    CA P NS 23 [.i .i64 v, data] H (.t [out, .b true], H5) := by
  have hn := neq_n
  refine CA.go (fn := Tryd.f23) (vs := [_, _]) (by kernel_rfl) rfl (.inr rfl) ?_
  apply Exists.intro
  apply And.intro
  · dsimp only [Tryd.f23]
    dsimp only [List.length_cons, List.length_nil, List.cons_append, List.nil_append, Nat.reduceSub, Nat.reduceAdd, List.replicate]
    refine RU.seq RU.rg ?_
    refine RU.seq RU.rg ?_
    refine RU.seq RU.rg ?_
    refine RU.seq (RU.seq RU.rg (RU.condF rfl RU.skip)) ?_
    refine RU.seq RU.rg ?_
    exact RU.ret
  · rfl

/-- What is read of octets, and written of that, at one version. -/
theorem again_x {k : Int} {fl : Bool} {pl : List (Ev × Nat)} {wF : SF} (top : chkTop (CX fl) Tryd.f76 (wX k) = some (pl, wF)) (hwF : wF[0]? = some (.i .i16 k)) (wtop : chkWTop (CWX fl) prX Tryd.f48 zX.length (some k) pl = true) (hcv : convA P 3 42 (.i .i64 k) = some (.i .i16 k)) {H : Heap} {rb0 : Nat} {data : AV} {bs : B} (G : Globs H rb0) (hb : DatAt H data bs) (hlen : bs.length ≤ 1099511627000) :
    (dec fl (nodes pl) bs = none → ∃ H', CA P NS 23 [.i .i64 k, data] H (.t [.s0, .b false], H')) ∧
    (∀ x r, dec fl (nodes pl) bs = some (x, r) → ∃ out H', CA P NS 23 [.i .i64 k, data] H (.t [out, .b true], H') ∧ OutAt H.length H' out (enc fl (nodes pl) x) ∧ H.length ≤ H'.length ∧ (∀ i b, i < H.length → H[i]? = some b → H'[i]? = some b)) := by
  have c1 := new_x H
  have hm1 : (H ++ [Blk.cells 90 .vr dX])[H.length]? = some (.cells 90 .vr (.i .i16 0 :: tdX)) := by simp [dX]
  have c2 := setv_x (n := k) hm1
  have hset : (H ++ [Blk.cells 90 .vr dX]).set H.length (.cells 90 .vr (.i .i16 k :: tdX)) = H ++ [.cells 90 .vr (zV k)] := by simp [zV]
  rw [hset] at c2
  have hlH1 : (H ++ [Blk.cells 90 Kn.vr (zV k)]).length = H.length + 1 := by simp
  have hb1 := hb.app [.cells 90 .vr (zV k)]
  obtain ⟨src, H3, ha, ho, hk⟩ := ap_bytes (str := false) (L0 := (H ++ [Blk.cells 90 Kn.vr (zV k)]).length) (H := H ++ [.cells 90 .vr (zV k)]) (out := .s0) (bs := []) (Nat.le_refl _) (.inl ⟨rfl, rfl⟩) hb1.first (by simp; omega)
  simp only [List.nil_append] at ho
  have hk3 : ∀ i b, i < H.length → H[i]? = some b → H3[i]? = some b := fun i b hi hx => by
    rw [hk.at_ i (by rw [hlH1]; omega), List.getElem?_append_left hi]; exact hx
  have hl3 : H.length + 1 ≤ H3.length := by have := hk.len; rw [hlH1] at this; exact this
  have hm3 : H3[H.length]? = some (.cells 90 .vr (zV k)) := by rw [hk.at_ _ (by rw [hlH1]; omega)]; simp
  have hrb := G.lt
  have hsrc : BytesAt (fun i => i ∉ [rb0, H.length]) H3 src bs := BytesAt.sub (fun i hi => by have hi : (H ++ [Blk.cells 90 Kn.vr (zV k)]).length ≤ i := hi; rw [hlH1] at hi; simp; omega) ho.bytes
  obtain ⟨t1, t2⟩ := chkTop_sound (prims_x fl) top (by kernel_rfl : P.funcs[76]? = some Tryd.f76) hm3 (show (zV k).length = (wX k).length by rfl) (wX_ok k) (by omega) (by omega) (G.room (Nat.le_refl _) (by omega) (by omega) hk3) hsrc (by decide +kernel) rfl
  constructor
  · intro hd
    obtain ⟨H4, c3⟩ := t1 hd
    exact ⟨H4, again_bad_run c1 hcv c2 hb.noS ha (readf_x c3)⟩
  · intro x r hd
    obtain ⟨H4, cs', rb, c3, k1, k2, k3, k4, k5, k6, k7⟩ := t2 x r hd
    have hrep : Rep (fun i => i < H4.length) H4 (nodes pl) x cs' := Rep.kt ⟨Nat.le_refl _, fun i b _ hx => ⟨(List.getElem?_eq_some_iff.1 hx).1, hx⟩⟩ k6
    obtain ⟨vs, e1, e2, e3⟩ := rep_said hrep (dec_ok hd)
    rw [unF_nodes] at e2 e3
    have hle := dec_len hd
    rw [e3] at hle
    have hv0 : cs'[0]? = some (.i .i16 k) := k7 0 _ _ hwF rfl
    obtain ⟨out, H5, c4, o1, o2⟩ := chkWTop_sound (wprims_x fl) wtop (by kernel_rfl : P.funcs[48]? = some Tryd.f48) k3 (by rw [k4]; rfl) (fun n hn => by cases hn; exact hv0) e2 (by have h1 : (CWX fl).flex = fl := rfl; rw [h1]; omega) rfl
    refine ⟨out, H5, again_good_run c1 hcv c2 hb.noS ha (readf_x c3) c4, ?_, ?_, fun i b hi hx => ?_⟩
    · rw [e3]
      rcases o1 with h | ⟨i, h1, h2⟩
      · exact .inl h
      · exact .inr ⟨i, by omega, h2⟩
    · have := o2.len; omega
    · rw [o2.at_ i (by omega)]
      exact k2 i b (by omega) (hk3 i b hi hx)
/-- What is shown of a version. -/
def VerAt (k : Nat) (fl : Bool) (f : F) : Prop := f.good = true ∧ ∀ {H : Heap} {rb0 : Nat} {data : AV} {bs : B}, Globs H rb0 → DatAt H data bs → bs.length ≤ 1099511627000 →
    (dec fl f bs = none → ∃ H', CA P NS 23 [.i .i64 (k : Int), data] H (.t [.s0, .b false], H')) ∧
    (∀ x r, dec fl f bs = some (x, r) → ∃ out H', CA P NS 23 [.i .i64 (k : Int), data] H (.t [out, .b true], H') ∧ OutAt H.length H' out (enc fl f x) ∧ H.length ≤ H'.length ∧ (∀ i b, i < H.length → H[i]? = some b → H'[i]? = some b))
def VerOK (k : Nat) : Prop := ∃ (fl : Bool) (f : F), VerAt k fl f

noncomputable def pl0 : List (Ev × Nat) := ((chkTop (CX false) Tryd.f76 (wX 0)).getD ([], [])).1
noncomputable def wF0 : SF := ((chkTop (CX false) Tryd.f76 (wX 0)).getD ([], [])).2
theorem top_0 : chkTop (CX false) Tryd.f76 (wX 0) = some (pl0, wF0) := by
  have h : (chkTop (CX false) Tryd.f76 (wX 0)).isSome = true := by kernel_rfl
  unfold pl0 wF0
  cases hc : chkTop (CX false) Tryd.f76 (wX 0) with
  | none => rw [hc] at h; cases h
  | some x => rfl
theorem wF_0 : wF0[0]? = some (.i .i16 0) := by kernel_rfl
theorem wtop_0 : chkWTop (CWX false) prX Tryd.f48 zX.length (some 0) pl0 = true := by kernel_rfl
theorem good_0 : (nodes pl0).good = true := by kernel_rfl
theorem ver_0 : VerAt 0 false (nodes pl0) := ⟨good_0, fun G hb hl => again_x (k := 0) top_0 wF_0 wtop_0 (by kernel_rfl) G hb hl⟩

noncomputable def pl1 : List (Ev × Nat) := ((chkTop (CX false) Tryd.f76 (wX 1)).getD ([], [])).1
noncomputable def wF1 : SF := ((chkTop (CX false) Tryd.f76 (wX 1)).getD ([], [])).2
theorem top_1 : chkTop (CX false) Tryd.f76 (wX 1) = some (pl1, wF1) := by
  have h : (chkTop (CX false) Tryd.f76 (wX 1)).isSome = true := by kernel_rfl
  unfold pl1 wF1
  cases hc : chkTop (CX false) Tryd.f76 (wX 1) with
  | none => rw [hc] at h; cases h
  | some x => rfl
theorem wF_1 : wF1[0]? = some (.i .i16 1) := by kernel_rfl
theorem wtop_1 : chkWTop (CWX false) prX Tryd.f48 zX.length (some 1) pl1 = true := by kernel_rfl
theorem good_1 : (nodes pl1).good = true := by kernel_rfl
theorem ver_1 : VerAt 1 false (nodes pl1) := ⟨good_1, fun G hb hl => again_x (k := 1) top_1 wF_1 wtop_1 (by kernel_rfl) G hb hl⟩

noncomputable def pl2 : List (Ev × Nat) := ((chkTop (CX true) Tryd.f76 (wX 2)).getD ([], [])).1
noncomputable def wF2 : SF := ((chkTop (CX true) Tryd.f76 (wX 2)).getD ([], [])).2
theorem top_2 : chkTop (CX true) Tryd.f76 (wX 2) = some (pl2, wF2) := by
  have h : (chkTop (CX true) Tryd.f76 (wX 2)).isSome = true := by kernel_rfl
  unfold pl2 wF2
  cases hc : chkTop (CX true) Tryd.f76 (wX 2) with
  | none => rw [hc] at h; cases h
  | some x => rfl
theorem wF_2 : wF2[0]? = some (.i .i16 2) := by kernel_rfl
theorem wtop_2 : chkWTop (CWX true) prX Tryd.f48 zX.length (some 2) pl2 = true := by kernel_rfl
theorem good_2 : (nodes pl2).good = true := by kernel_rfl
theorem ver_2 : VerAt 2 true (nodes pl2) := ⟨good_2, fun G hb hl => again_x (k := 2) top_2 wF_2 wtop_2 (by kernel_rfl) G hb hl⟩
theorem vers : ∀ k, k ≤ 2 → VerOK k
  | 0, _ => ⟨false, _, ver_0⟩
  | 1, _ => ⟨false, _, ver_1⟩
  | 2, _ => ⟨true, _, ver_2⟩
  | n + 3, h => by omega
end Go.Proofs.YtjncijimikfdnaaDoor.Rd.mSASLAuthenticateRequest

/-
  WHAT THE REFERENCE WRITES of a tree, field by field, is what a format says of a value.
-/
namespace Go.Proofs.YtjncijimikfdnaaDoor.Wire
set_option linter.constructorNameAsVariable false
set_option linter.unusedVariables false
set_option linter.unusedSimpArgs false
set_option linter.unusedVariables false
set_option linter.unusedSimpArgs false
/-- A row of fields: kind, first version, last version, null from, tag, default, the kind of a list's things, a part's fields; and the fields behind. -/
inductive Fdl where
  | nil
  | fld (kind : Nat) (frm to null tag dflt : Int) (of : Nat) (sub rest : Fdl)
  deriving DecidableEq
/-- What fields say. -/
inductive Tr where
  | mk (n : Int) (s : B) (null : Bool) (l : List Tr) (u : List (Nat × B))
def Tr.n : Tr → Int | .mk n _ _ _ _ => n
def Tr.s : Tr → B | .mk _ s _ _ _ => s
def Tr.null : Tr → Bool | .mk _ _ b _ _ => b
def Tr.l : Tr → List Tr | .mk _ _ _ l _ => l
def Tr.u : Tr → List (Nat × B) | .mk _ _ _ _ u => u
def Tr.zero : Tr := .mk 0 [] false [] []
def Tr.at (t : Tr) (i : Nat) : Tr := t.l.getD i .zero
/-- Tags' numbers are below 2 ^ 32. -/
inductive Tr.Fine : Tr → Prop
  | mk {n : Int} {s : B} {b : Bool} {l : List Tr} {u : List (Nat × B)} (hu : ∀ x ∈ u, x.1 < 2 ^ 32) (hl : ∀ x ∈ l, Tr.Fine x) : Tr.Fine (.mk n s b l u)
theorem Tr.Fine.zero : Tr.Fine .zero := .mk (fun x h => by cases h) (fun x h => by cases h)
theorem Tr.Fine.l {t : Tr} (h : t.Fine) : ∀ x ∈ t.l, x.Fine := by cases h; assumption
theorem Tr.Fine.u {t : Tr} (h : t.Fine) : ∀ x ∈ t.u, x.1 < 2 ^ 32 := by cases h; assumption
theorem Tr.Fine.at {t : Tr} (h : t.Fine) (i : Nat) : (t.at i).Fine := by
  unfold Tr.at
  rw [List.getD_eq_getElem?_getD]
  cases hx : t.l[i]? with
  | none => exact .zero
  | some x => exact h.l x (List.mem_of_getElem? hx)

def hasS (frm to : Int) (ver : Nat) : Bool := decide (frm ≤ ver) && (decide (to < 0) || decide ((ver : Int) ≤ to))
def nulS (null : Int) (ver : Nat) : Bool := decide (0 ≤ null) && decide (null ≤ ver)
def kindK : Nat → K
  | 0 => .bool
  | 1 => .i8
  | 2 => .i16
  | 3 => .i32
  | 4 => .i64
  | 5 => .u16
  | 6 => .f64
  | 7 => .uuid
  | 8 => .str
  | 9 => .bytes
  | _ => .i64
def whole (b : B) : B := b.take 32767
def leafS (flex : Bool) (k : K) (null : Bool) (t : Tr) : B :=
  match k with
  | .bool => [if t.n % 2 = 1 then 1 else 0]
  | .uuid => (t.s ++ List.replicate 16 0).take 16
  | .str => if null then cnt0 flex 2 else cnt flex 2 (whole t.s).length ++ whole t.s
  | .bytes => if null then cnt0 flex 4 else cnt flex 4 (whole t.s).length ++ whole t.s
  | k => be k.size t.n
/-- A tag among tags by rising numbers: the first one counts. -/
def putF (k : Nat) (v : B) : List (Nat × B) → List (Nat × B)
  | [] => [(k, v)]
  | (k', v') :: r => if k < k' then (k, v) :: (k', v') :: r else if k = k' then (k', v') :: r else (k', v') :: putF k v r
def unkS (l : List (Nat × B)) : List (Nat × B) := (l.take 32767).foldl (fun a t => putF t.1 t.2 a) []
def tagsW (l : List (Nat × B)) : List (Nat × B) := (unkS l).map fun t => (t.1, whole t.2)
def tlS (flex : Bool) (t : Tr) : B := if flex then uv (tagsW t.u).length ++ encT (tagsW t.u) else []
/-- What is written of fields, without known tags. -/
def bodyS (ver : Nat) (flex : Bool) : Fdl → Nat → Tr → B
  | .nil, _, _ => []
  | .fld kind frm to null _ _ of sub rest, i, t =>
    (if hasS frm to ver then
      (if kind = 11 then
        (if (t.at i).null && nulS null ver then cnt0 flex 4 else
          cnt flex 4 ((t.at i).l.take 32767).length ++ ((t.at i).l.take 32767).flatMap fun x => if of = 10 then bodyS ver flex sub 0 x ++ tlS flex x else leafS flex (kindK of) false x)
      else if kind = 10 then bodyS ver flex sub 0 (t.at i) ++ tlS flex (t.at i)
      else leafS flex (kindK kind) ((t.at i).null && nulS null ver) (t.at i))
    else []) ++ bodyS ver flex rest (i + 1) t
def partS (ver : Nat) (flex : Bool) (fd : Fdl) (t : Tr) : B := bodyS ver flex fd 0 t ++ tlS flex t

def tlF (flex : Bool) (r : F) : F := if flex then .tags 0 r else r
/-- The format of fields at a version. -/
def fmtS (ver : Nat) (flex : Bool) : Fdl → F → F
  | .nil, r => r
  | .fld kind frm to null _ _ of sub rest, r =>
    if hasS frm to ver then
      (if kind = 11 then .list 0 0 (nulS null ver) (if of = 10 then fmtS ver flex sub (tlF flex .nil) else .leaf 0 (kindK of) false .nil) (fmtS ver flex rest r)
      else if kind = 10 then fmtS ver flex sub (tlF flex (fmtS ver flex rest r))
      else .leaf 0 (kindK kind) (nulS null ver) (fmtS ver flex rest r))
    else fmtS ver flex rest r
def fmtP (ver : Nat) (flex : Bool) (fd : Fdl) : F := fmtS ver flex fd (tlF flex .nil)
def leafV (k : K) (null : Bool) (t : Tr) : V :=
  match k with
  | .bool => .b (decide (t.n % 2 = 1))
  | .uuid => .s ((t.s ++ List.replicate 16 0).take 16)
  | .str | .bytes => if null then .nul else .s (whole t.s)
  | .u16 => .i (nat (be 2 t.n) : Nat)
  | .f64 => .i (nat (be 8 t.n) : Nat)
  | k => .i (sgn k.size (nat (be k.size t.n)))
def tlV (flex : Bool) (t : Tr) (w : V) : V := if flex then .c (.t (tagsW t.u)) w else w
def valS (ver : Nat) (flex : Bool) : Fdl → Nat → Tr → V → V
  | .nil, _, _, w => w
  | .fld kind frm to null _ _ of sub rest, i, t, w =>
    if hasS frm to ver then
      (if kind = 11 then .c (if (t.at i).null && nulS null ver then .nul else .l (((t.at i).l.take 32767).map fun x => if of = 10 then valS ver flex sub 0 x (tlV flex x .u) else .c (leafV (kindK of) false x) .u)) (valS ver flex rest (i + 1) t w)
      else if kind = 10 then valS ver flex sub 0 (t.at i) (tlV flex (t.at i) (valS ver flex rest (i + 1) t w))
      else .c (leafV (kindK kind) ((t.at i).null && nulS null ver) (t.at i)) (valS ver flex rest (i + 1) t w))
    else valS ver flex rest (i + 1) t w
def valP (ver : Nat) (flex : Bool) (fd : Fdl) (t : Tr) : V := valS ver flex fd 0 t (tlV flex t .u)

theorem enc_tlV (flex : Bool) (t : Tr) (r : F) (w : V) : enc flex (tlF flex r) (tlV flex t w) = tlS flex t ++ enc flex r w := by
  cases flex <;> simp [tlF, tlV, tlS, enc]
theorem putF_ok : ∀ (ts : List (Nat × B)) (m k : Nat) (v : B), okT m ts → m ≤ k → k < 2 ^ 32 → v.length < 2 ^ 32 → okT m (putF k v ts)
  | [], m, k, v, _, h1, h2, h3 => ⟨h1, h2, h3, trivial⟩
  | (k', v') :: r, m, k, v, h, h1, h2, h3 => by
    obtain ⟨a, b, c, d⟩ := h
    unfold putF
    split
    · exact ⟨h1, h2, h3, by omega, b, c, d⟩
    · split
      · exact ⟨a, b, c, d⟩
      · exact ⟨a, b, c, putF_ok r _ k v d (by omega) h2 h3⟩
theorem be_eq1 {m n : Int} (h : m % 256 = n % 256) : be 1 m = be 1 n := by simp [be, h]
theorem be_eq2 {m n : Int} (h : m % 65536 = n % 65536) : be 2 m = be 2 n := by
  have h1 : m / 256 % 256 = n / 256 % 256 := by omega
  have h2 : m % 256 = n % 256 := by omega
  simp [be, h1, h2]
theorem be_eq4 {m n : Int} (h : m % 4294967296 = n % 4294967296) : be 4 m = be 4 n := by
  have h1 : m / 16777216 % 256 = n / 16777216 % 256 := by omega
  have h2 : m / 65536 % 256 = n / 65536 % 256 := by omega
  have h3 : m / 256 % 256 = n / 256 % 256 := by omega
  have h4 : m % 256 = n % 256 := by omega
  simp [be, h1, h2, h3, h4]
theorem be_eq8 {m n : Int} (h : m % 18446744073709551616 = n % 18446744073709551616) : be 8 m = be 8 n := by
  rw [be8, be8, be_eq4 (show m / 4294967296 % 4294967296 = n / 4294967296 % 4294967296 by omega), be_eq4 (show m % 4294967296 = n % 4294967296 by omega)]
theorem enc_leafV (flex : Bool) (k : K) (null : Bool) (t : Tr) : encK flex k (leafV k null t) = leafS flex k null t := by
  cases k
  case bool => simp [encK, leafV, leafS]
  case uuid => rfl
  case str => cases null <;> simp [encK, leafV, leafS]
  case bytes => cases null <;> simp [encK, leafV, leafS]
  case i8 =>
    show be 1 (sgn 1 (nat (be 1 t.n))) = be 1 t.n
    apply be_eq1; have := nat_be1 t.n; unfold sgn; split <;> omega
  case i16 =>
    show be 2 (sgn 2 (nat (be 2 t.n))) = be 2 t.n
    apply be_eq2; have := nat_be2 t.n; unfold sgn; split <;> omega
  case i32 =>
    show be 4 (sgn 4 (nat (be 4 t.n))) = be 4 t.n
    apply be_eq4; have := nat_be4 t.n; unfold sgn; split <;> omega
  case i64 =>
    show be 8 (sgn 8 (nat (be 8 t.n))) = be 8 t.n
    apply be_eq8; have := nat_be8 t.n; unfold sgn; split <;> omega
  case u16 =>
    show be 2 (nat (be 2 t.n) : Nat) = be 2 t.n
    apply be_eq2; have := nat_be2 t.n; omega
  case f64 =>
    show be 8 (nat (be 8 t.n) : Nat) = be 8 t.n
    apply be_eq8; have := nat_be8 t.n; omega
theorem whole_len (b : B) : (whole b).length ≤ 32767 := by unfold whole; rw [List.length_take]; omega
theorem ok_leafV (flex : Bool) (k : K) (nl null : Bool) (t : Tr) (h : null = true → nl = true) : okK flex k nl (leafV k null t) := by
  have hw := whole_len t.s
  cases k
  case bool => trivial
  case uuid => show ((t.s ++ List.replicate 16 0).take 16).length = 16; simp
  case str =>
    cases null
    · show if flex then (whole t.s).length + 1 < 2 ^ 32 else (whole t.s).length < 2 ^ 15
      split <;> omega
    · exact h rfl
  case bytes =>
    cases null
    · show if flex then (whole t.s).length + 1 < 2 ^ 32 else (whole t.s).length < 2 ^ 31
      split <;> omega
    · exact h rfl
  case i8 => exact sgn_in (.inl rfl) (be_length 1 t.n)
  case i16 => exact sgn_in (.inr (.inl rfl)) (be_length 2 t.n)
  case i32 => exact sgn_in (.inr (.inr (.inl rfl))) (be_length 4 t.n)
  case i64 => exact sgn_in (.inr (.inr (.inr rfl))) (be_length 8 t.n)
  case u16 =>
    have := nat_be2 t.n
    show (0 : Int) ≤ (nat (be 2 t.n) : Nat) ∧ ((nat (be 2 t.n) : Nat) : Int) < 2 ^ 16
    omega
  case f64 =>
    have := nat_be8 t.n
    show (0 : Int) ≤ (nat (be 8 t.n) : Nat) ∧ ((nat (be 8 t.n) : Nat) : Int) < 2 ^ 64
    omega
theorem nul_and {a b : Bool} (h : (a && b) = true) : b = true := by cases a <;> simp at h; exact h
theorem enc_valS (ver : Nat) (flex : Bool) : ∀ (fd : Fdl) (i : Nat) (t : Tr) (r : F) (w : V), enc flex (fmtS ver flex fd r) (valS ver flex fd i t w) = bodyS ver flex fd i t ++ enc flex r w
  | .nil, i, t, r, w => by simp [fmtS, valS, bodyS]
  | .fld kind frm to null tag dflt of sub rest, i, t, r, w => by
    have ih1 := enc_valS ver flex sub
    have ih2 := enc_valS ver flex rest (i + 1) t r w
    unfold fmtS valS bodyS
    by_cases hh : hasS frm to ver = true
    · simp only [hh, if_true]
      by_cases h11 : kind = 11
      · simp only [h11, if_true]
        by_cases hn : ((t.at i).null && nulS null ver) = true
        · simp only [hn, if_true, enc, ih2, List.append_assoc]
        · have hn : ((t.at i).null && nulS null ver) = false := by simpa using hn
          simp only [hn, Bool.false_eq_true, if_false, enc, ih2, List.length_map, List.flatMap_map, List.append_assoc]
          congr 2
          congr 1
          funext x
          by_cases ho : of = 10
          · simp only [ho, if_true, ih1, enc_tlV, enc, List.append_nil]
          · simp only [ho, if_false, enc, enc_leafV, List.append_nil]
      · simp only [h11, if_false]
        by_cases h10 : kind = 10
        · simp only [h10, if_true, ih1, enc_tlV, ih2, List.append_assoc]
        · simp only [h10, if_false, enc, enc_leafV, ih2, List.append_assoc]
    · have hh : hasS frm to ver = false := by simpa using hh
      simp only [hh, Bool.false_eq_true, if_false, List.nil_append, ih2]
theorem putF_map (k : Nat) (v : B) : ∀ ts : List (Nat × B), (putF k v ts).map (fun t => (t.1, whole t.2)) = putF k (whole v) (ts.map fun t => (t.1, whole t.2))
  | [] => rfl
  | (k', v') :: r => by
    have ih := putF_map k v r
    unfold putF
    simp only [List.map_cons]
    by_cases h1 : k < k'
    · simp [h1]
    · by_cases h2 : k = k'
      · simp [h1, h2]
      · simp [h1, h2, ih]
theorem fold_map : ∀ (l a : List (Nat × B)), (l.foldl (fun a t => putF t.1 t.2 a) a).map (fun t => (t.1, whole t.2)) = l.foldl (fun a t => putF t.1 (whole t.2) a) (a.map fun t => (t.1, whole t.2))
  | [], a => rfl
  | t :: l, a => by
    simp only [List.foldl_cons]
    rw [fold_map l, putF_map]
theorem fold_ok : ∀ (l a : List (Nat × B)), (∀ x ∈ l, x.1 < 2 ^ 32) → okT 0 a → okT 0 (l.foldl (fun a t => putF t.1 (whole t.2) a) a)
  | [], a, _, h => h
  | t :: l, a, hl, h => by
    have := whole_len t.2
    exact fold_ok l _ (fun x hx => hl x (List.mem_cons_of_mem _ hx)) (putF_ok a 0 t.1 (whole t.2) h (Nat.zero_le _) (hl t List.mem_cons_self) (by omega))
theorem putF_len (k : Nat) (v : B) : ∀ ts : List (Nat × B), (putF k v ts).length ≤ ts.length + 1
  | [] => by simp [putF]
  | (k', v') :: r => by
    have := putF_len k v r
    unfold putF
    split
    · simp
    · split
      · simp
      · simp; omega
theorem fold_len : ∀ (l a : List (Nat × B)), (l.foldl (fun a t => putF t.1 t.2 a) a).length ≤ a.length + l.length
  | [], a => by simp
  | t :: l, a => by
    have h1 := fold_len l (putF t.1 t.2 a)
    have h2 := putF_len t.1 t.2 a
    simp only [List.foldl_cons, List.length_cons]
    omega
theorem tagsW_ok {u : List (Nat × B)} (h : ∀ x ∈ u, x.1 < 2 ^ 32) : okT 0 (tagsW u) ∧ (tagsW u).length < 2 ^ 32 := by
  unfold tagsW unkS
  constructor
  · rw [fold_map]
    exact fold_ok _ _ (fun x hx => h x (List.mem_of_mem_take hx)) trivial
  · rw [List.length_map]
    have h1 := fold_len (u.take 32767) []
    have h2 : (u.take 32767).length ≤ 32767 := by rw [List.length_take]; omega
    simp only [List.length_nil] at h1
    omega
theorem ok_tlV {flex : Bool} {t : Tr} (h : t.Fine) {r : F} {w : V} (hw : ok flex r w) : ok flex (tlF flex r) (tlV flex t w) := by
  obtain ⟨a, b⟩ := tagsW_ok h.u
  unfold tlF tlV
  cases flex
  · exact hw
  · exact ⟨a, b, hw⟩
theorem ok_valS (ver : Nat) (flex : Bool) : ∀ (fd : Fdl) (i : Nat) (t : Tr) (r : F) (w : V), t.Fine → ok flex r w → ok flex (fmtS ver flex fd r) (valS ver flex fd i t w)
  | .nil, i, t, r, w, h, hw => hw
  | .fld kind frm to null tag dflt of sub rest, i, t, r, w, h, hw => by
    have ih1 := ok_valS ver flex sub
    have ih2 := ok_valS ver flex rest (i + 1) t r w h hw
    unfold fmtS valS
    by_cases hh : hasS frm to ver = true
    · simp only [hh, if_true]
      by_cases h11 : kind = 11
      · simp only [h11, if_true]
        by_cases hn : ((t.at i).null && nulS null ver) = true
        · simp only [hn, if_true]
          exact ⟨nul_and hn, ih2⟩
        · have hn : ((t.at i).null && nulS null ver) = false := by simpa using hn
          simp only [hn, Bool.false_eq_true, if_false]
          refine ⟨⟨?_, fun x hx => ?_⟩, ih2⟩
          · rw [List.length_map, List.length_take]; omega
          · obtain ⟨y, hy, rfl⟩ := List.mem_map.1 hx
            have hyf : y.Fine := (h.at i).l y (List.mem_of_mem_take hy)
            by_cases ho : of = 10
            · simp only [ho, if_true]
              exact ih1 0 y _ _ hyf (ok_tlV hyf trivial)
            · simp only [ho, if_false]
              exact ⟨ok_leafV flex _ _ _ y (fun h => by cases h), trivial⟩
      · simp only [h11, if_false]
        by_cases h10 : kind = 10
        · simp only [h10, if_true]
          exact ih1 0 (t.at i) _ _ (h.at i) (ok_tlV (h.at i) ih2)
        · simp only [h10, if_false]
          exact ⟨ok_leafV flex _ _ _ _ (fun h => nul_and h), ih2⟩
    · have hh : hasS frm to ver = false := by simpa using hh
      simp only [hh, Bool.false_eq_true, if_false]
      exact ih2
/-- What the reference writes is what the format says of the value. -/
theorem enc_valP (ver : Nat) (flex : Bool) (fd : Fdl) (t : Tr) : enc flex (fmtP ver flex fd) (valP ver flex fd t) = partS ver flex fd t := by
  unfold fmtP valP partS
  rw [enc_valS, enc_tlV]
  simp [enc]
theorem ok_valP (ver : Nat) (flex : Bool) (fd : Fdl) {t : Tr} (h : t.Fine) : ok flex (fmtP ver flex fd) (valP ver flex fd t) := ok_valS ver flex fd 0 t _ _ h (ok_tlV h trivial)
/-- Read by a format that is the same but for places, it comes back. -/
theorem again_part {ver : Nat} {flex : Bool} {fd : Fdl} {t : Tr} {f : F} (h : t.Fine) (hs : f.strip = (fmtP ver flex fd).strip) (hg : (fmtP ver flex fd).good = true) : dec flex f (partS ver flex fd t) = some (valP ver flex fd t, []) ∧ enc flex f (valP ver flex fd t) = partS ver flex fd t := by
  have e1 : enc flex f (valP ver flex fd t) = partS ver flex fd t := by rw [← enc_strip, hs, enc_strip, enc_valP]
  refine ⟨?_, e1⟩
  rw [← dec_strip, hs, dec_strip, ← enc_valP]
  have := dec_enc hg (ok_valP ver flex fd h) []
  rwa [List.append_nil] at this
theorem cut_part {ver : Nat} {flex : Bool} {fd : Fdl} {t : Tr} {f : F} (h : t.Fine) (hs : f.strip = (fmtP ver flex fd).strip) (hg : (fmtP ver flex fd).good = true) {p q : B} (hpq : partS ver flex fd t = p ++ q) (hq : q ≠ []) : dec flex f p = none := by
  rw [← dec_strip, hs, dec_strip]
  exact dec_cut hg (ok_valP ver flex fd h) (by rw [enc_valP]; exact hpq) hq
end Go.Proofs.YtjncijimikfdnaaDoor.Wire

/-
  HOW LONG what the reference writes of a tree can be. Plain Lean: no program here.
-/
namespace Go.Proofs.YtjncijimikfdnaaDoor.Wire
set_option linter.constructorNameAsVariable false
set_option linter.unusedVariables false
set_option linter.unusedSimpArgs false
set_option linter.unusedVariables false
set_option linter.unusedSimpArgs false
def bulkU : List (Nat × B) → Nat
  | [] => 0
  | (_, v) :: r => 1 + v.length + bulkU r
mutual
/-- How many values and octets a tree has. -/
def Tr.bulk : Tr → Nat
  | .mk _ s _ l u => 1 + s.length + bulkL l + bulkU u
def bulkL : List Tr → Nat
  | [] => 0
  | x :: r => x.bulk + bulkL r
end
theorem Tr.bulk_pos (t : Tr) : 1 ≤ t.bulk := by cases t; unfold Tr.bulk; omega
theorem bulkL_mem : ∀ {l : List Tr} {x : Tr}, x ∈ l → x.bulk ≤ bulkL l
  | y :: r, x, h => by
    unfold bulkL
    rcases List.mem_cons.1 h with rfl | h
    · omega
    · have := bulkL_mem h; omega
theorem bulk_l (t : Tr) : bulkL t.l + 1 ≤ t.bulk := by cases t; simp only [Tr.bulk, Tr.l]; omega
theorem bulk_s (t : Tr) : t.s.length + 1 ≤ t.bulk := by cases t; simp only [Tr.bulk, Tr.s]; omega
theorem bulk_u (t : Tr) : bulkU t.u + 1 ≤ t.bulk := by cases t; simp only [Tr.bulk, Tr.u]; omega
theorem bulk_at (t : Tr) (i : Nat) : (t.at i).bulk ≤ t.bulk := by
  unfold Tr.at
  rw [List.getD_eq_getElem?_getD]
  cases hx : t.l[i]? with
  | none => exact t.bulk_pos
  | some x =>
    have h1 := bulkL_mem (List.mem_of_getElem? hx)
    have h2 := bulk_l t
    simp only [Option.getD_some]
    omega
theorem bulkL_take : ∀ (l : List Tr) (n : Nat), bulkL (l.take n) ≤ bulkL l
  | [], n => by simp
  | x :: r, 0 => by simp [bulkL]
  | x :: r, n + 1 => by simp only [List.take_succ_cons, bulkL]; have := bulkL_take r n; omega
theorem uv_le5 {n : Nat} (h : n < 34359738368) : (uv n).length ≤ 5 := by
  rw [uv]; split
  · simp
  · rw [uv]; split
    · simp
    · rw [uv]; split
      · simp
      · rw [uv]; split
        · simp
        · rw [uv]; split
          · simp
          · omega
theorem be_len' : ∀ (s : Nat) (n : Int), (be s n).length = s
  | 0, n => rfl
  | s + 1, n => by simp [be, be_len' s n]
theorem cnt_le (flex : Bool) {s n : Nat} (hs : s ≤ 5) (hn : n ≤ 32767) : (cnt flex s n).length ≤ 5 := by
  unfold cnt
  split
  · exact uv_le5 (by omega)
  · rw [be_len']; exact hs
theorem cnt0_le (flex : Bool) {s : Nat} (hs : s ≤ 5) : (cnt0 flex s).length ≤ 5 := by
  unfold cnt0
  split
  · simp
  · rw [be_len']; exact hs
theorem whole_le (b : B) : (whole b).length ≤ b.length := by unfold whole; rw [List.length_take]; omega
theorem leafS_le (flex : Bool) (k : K) (null : Bool) (t : Tr) : (leafS flex k null t).length ≤ 17 * t.bulk := by
  have h1 := bulk_s t
  have h2 := whole_le t.s
  have h3 := whole_len t.s
  cases k
  case bool => simp [leafS]; omega
  case uuid => simp [leafS]; omega
  case str =>
    cases null
    · have := cnt_le flex (show 2 ≤ 5 by omega) h3
      simp [leafS]; omega
    · have := cnt0_le flex (show 2 ≤ 5 by omega)
      simp [leafS]; omega
  case bytes =>
    cases null
    · have := cnt_le flex (show 4 ≤ 5 by omega) h3
      simp [leafS]; omega
    · have := cnt0_le flex (show 4 ≤ 5 by omega)
      simp [leafS]; omega
  all_goals simp [leafS, be_len', K.size]; omega
theorem bulkU_put (k : Nat) (v : B) : ∀ ts : List (Nat × B), bulkU (putF k v ts) ≤ bulkU ts + (1 + v.length)
  | [] => by simp [putF, bulkU]
  | (k', v') :: r => by
    unfold putF
    split
    · simp only [bulkU]; omega
    · split
      · simp only [bulkU]; omega
      · simp only [bulkU]; have := bulkU_put k v r; omega
theorem bulkU_fold : ∀ (l a : List (Nat × B)), bulkU (l.foldl (fun a t => putF t.1 t.2 a) a) ≤ bulkU a + bulkU l
  | [], a => by simp [bulkU]
  | (k, v) :: l, a => by
    simp only [List.foldl_cons]
    have h1 := bulkU_fold l (putF k v a)
    have h2 := bulkU_put k v a
    simp only [bulkU]; omega
theorem bulkU_take : ∀ (l : List (Nat × B)) (n : Nat), bulkU (l.take n) ≤ bulkU l
  | [], n => by simp
  | (k, v) :: r, 0 => by simp [bulkU]
  | (k, v) :: r, n + 1 => by simp only [List.take_succ_cons, bulkU]; have := bulkU_take r n; omega
theorem bulkU_map : ∀ ts : List (Nat × B), bulkU (ts.map fun t => (t.1, whole t.2)) ≤ bulkU ts
  | [] => by simp [bulkU]
  | (k, v) :: r => by
    have h1 := bulkU_map r
    have h2 := whole_le v
    simp only [List.map_cons, bulkU]; omega
theorem bulkU_tags (u : List (Nat × B)) : bulkU (tagsW u) ≤ bulkU u := by
  unfold tagsW unkS
  have h1 := bulkU_map ((u.take 32767).foldl (fun a t => putF t.1 t.2 a) [])
  have h2 := bulkU_fold (u.take 32767) []
  have h3 := bulkU_take u 32767
  simp only [bulkU] at h2
  omega
theorem encT_le : ∀ {ts : List (Nat × B)} {m : Nat}, okT m ts → (encT ts).length ≤ 10 * bulkU ts
  | [], _, _ => by simp [encT]
  | (k, v) :: r, m, ⟨h1, h2, h3, h4⟩ => by
    have i1 := encT_le h4
    have i2 := uv_le5 (n := k) (by omega)
    have i3 := uv_le5 (n := v.length) (by omega)
    simp only [encT, List.flatMap_cons, List.length_append, bulkU] at i1 ⊢
    omega
theorem tlS_le {flex : Bool} {t : Tr} (h : t.Fine) : (tlS flex t).length ≤ 15 * t.bulk := by
  unfold tlS
  split
  · obtain ⟨h1, h2⟩ := tagsW_ok h.u
    have i1 := encT_le h1
    have i2 := uv_le5 (n := (tagsW t.u).length) (by omega)
    have i3 := bulkU_tags t.u
    have i4 := bulk_u t
    rw [List.length_append]
    omega
  · simp
def Fdl.len : Fdl → Nat
  | .nil => 0
  | .fld _ _ _ _ _ _ _ _ r => r.len + 1
/-- Fields without tags, and without parts that may be null. -/
def Fdl.plain : Fdl → Bool
  | .nil => true
  | .fld kind _ _ null tag _ of sub rest => decide (tag < 0) && decide (kind ≤ 11) && decide (of ≤ 10) && (decide (kind ≠ 10) || decide (null < 0)) && decide (sub.len ≤ 1000) && sub.plain && rest.plain
/-- What a row of fields costs at the most for each value of a tree. -/
def Fdl.cost : Fdl → Nat
  | .nil => 0
  | .fld _ _ _ _ _ _ _ sub rest => sub.cost + 22 + rest.cost
theorem flat_le {f : Tr → B} {c : Nat} : ∀ (l : List Tr), (∀ x ∈ l, (f x).length ≤ c * x.bulk) → (l.flatMap f).length ≤ c * bulkL l
  | [], _ => by simp
  | x :: r, h => by
    have h1 := h x (by simp)
    have h2 := flat_le r (fun y hy => h y (by simp [hy]))
    simp only [List.flatMap_cons, List.length_append, bulkL, Nat.mul_add]
    omega
theorem bodyS_le (ver : Nat) (flex : Bool) : ∀ (fd : Fdl) (i : Nat) (t : Tr), t.Fine → (bodyS ver flex fd i t).length ≤ fd.cost * t.bulk
  | .nil, i, t, h => by simp [bodyS]
  | .fld kind frm to null tag dflt of sub rest, i, t, h => by
    have hr := bodyS_le ver flex rest (i + 1) t h
    have hs := bodyS_le ver flex sub 0
    have hb := bulk_at t i
    have hp := t.bulk_pos
    have key : ∀ z : B, z.length ≤ (sub.cost + 22) * (t.at i).bulk → (z ++ bodyS ver flex rest (i + 1) t).length ≤ (sub.cost + 22 + rest.cost) * t.bulk := fun z hz => by
      have e : (sub.cost + 22 + rest.cost) * t.bulk = (sub.cost + 22) * t.bulk + rest.cost * t.bulk := Nat.add_mul _ _ _
      have e2 : (sub.cost + 22) * (t.at i).bulk ≤ (sub.cost + 22) * t.bulk := Nat.mul_le_mul_left _ hb
      rw [List.length_append, e]
      omega
    have hleaf : ∀ k nl x, (leafS flex k nl x).length ≤ (sub.cost + 17) * x.bulk := fun k nl x => by
      have h1 := leafS_le flex k nl x
      rw [Nat.add_mul]; omega
    have hpart : ∀ x : Tr, x.Fine → (bodyS ver flex sub 0 x ++ tlS flex x).length ≤ (sub.cost + 17) * x.bulk := fun x hx => by
      have h1 := hs x hx
      have h2 := tlS_le (flex := flex) hx
      rw [List.length_append, Nat.add_mul]; omega
    have up : ∀ x : Tr, (sub.cost + 17) * x.bulk + 5 ≤ (sub.cost + 22) * x.bulk := fun x => by
      have := x.bulk_pos
      have e : (sub.cost + 22) * x.bulk = (sub.cost + 17) * x.bulk + 5 * x.bulk := by rw [← Nat.add_mul]
      omega
    unfold bodyS Fdl.cost
    apply key
    have hat := h.at i
    split
    · split
      · split
        · have h1 := cnt0_le flex (show 4 ≤ 5 by omega)
          have h2 := up (t.at i)
          omega
        · have h1 := cnt_le flex (s := 4) (n := ((t.at i).l.take 32767).length) (by omega) (by rw [List.length_take]; omega)
          have h2 := flat_le (f := fun x => if of = 10 then bodyS ver flex sub 0 x ++ tlS flex x else leafS flex (kindK of) false x) (c := sub.cost + 17) ((t.at i).l.take 32767) (fun x hx => by
            have hf := hat.l x (List.mem_of_mem_take hx)
            split
            · exact hpart x hf
            · exact hleaf _ _ x)
          have h3 := bulkL_take (t.at i).l 32767
          have h4 := bulk_l (t.at i)
          have h5 : (sub.cost + 17) * bulkL ((t.at i).l.take 32767) ≤ (sub.cost + 17) * (t.at i).bulk := Nat.mul_le_mul_left _ (by omega)
          have h6 := up (t.at i)
          rw [List.length_append]
          omega
      · split
        · have h1 := hpart (t.at i) hat
          have h2 := up (t.at i)
          omega
        · have h1 := hleaf (kindK kind) ((t.at i).null && nulS null ver) (t.at i)
          have h2 := up (t.at i)
          omega
    · simp
theorem partS_le (ver : Nat) (flex : Bool) (fd : Fdl) {t : Tr} (h : t.Fine) : (partS ver flex fd t).length ≤ (fd.cost + 15) * t.bulk := by
  have h1 := bodyS_le ver flex fd 0 t h
  have h2 := tlS_le (flex := flex) h
  unfold partS
  rw [List.length_append, Nat.add_mul]
  omega
end Go.Proofs.YtjncijimikfdnaaDoor.Wire

