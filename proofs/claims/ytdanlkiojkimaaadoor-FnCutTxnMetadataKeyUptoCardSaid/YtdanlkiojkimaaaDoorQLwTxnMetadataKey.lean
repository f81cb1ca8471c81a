/-
  THE MESSAGE TxnMetadataKey, whose version stands ahead of all: what is read of octets, and what is written of that.
-/
import Derived.Test.YtdanlkiojkimaaaDoorQRdStr
import Derived.Test.YtdanlkiojkimaaaDoorQApLeaf
import Derived.Test.YtdanlkiojkimaaaDoorQSxVer
set_option linter.constructorNameAsVariable false
set_option linter.unusedVariables false
set_option linter.unusedSimpArgs false
namespace Go.Proofs.YtdanlkiojkimaaaDoor.Rd.mTxnMetadataKey
open Go Go.Proofs.YtdanlkiojkimaaaDoor.Ax Go.Proofs.YtdanlkiojkimaaaDoor.Wire Go.Proofs.YtdanlkiojkimaaaDoor.Rd
set_option maxRecDepth 100000
set_option maxHeartbeats 1000000
def tzX : List AV := [.s ⟨#[]⟩]
def tdX : List AV := [.s ⟨#[]⟩]
def zX : List AV := .i .i16 0 :: tzX
def dX : List AV := .i .i16 0 :: tdX
def wX : SF := .i .i16 0 :: [.z .str]
theorem wX_ok : ∀ (o : Nat) (v : SV), wX[o]? = some v → ∃ a c, dX[o]? = some a ∧ a.one = true ∧ v.con = some c ∧ a = c := by
  intro o v h
  match o, h with
  | 0, h => cases h; exact ⟨_, _, rfl, rfl, rfl, rfl⟩
  | 1, h => cases h; exact ⟨_, _, rfl, rfl, rfl, rfl⟩
  | n + 2, h => simp [wX] at h
def CX (fl : Bool) : Cfg := { prim := [(109, .done), (106, .leaf .i16 false none), (108, .leaf .str false (some false)), (66, .inl)], res := 6, flex := fl }
def CWX (fl : Bool) : Cfg := { prim := [], res := 4, flex := fl }
def prX : List (FuncId × WPrim) := [(68, .leaf .i16 false none), (69, .leaf .str false (some false))]
theorem prims_x (fl : Bool) : Prims (CX fl) := by
  intro f p h
  have hm := lookup_mem h
  simp only [CX, List.mem_cons, List.not_mem_nil, or_false, Prod.mk.injEq] at hm
  rcases hm with ⟨rfl, rfl⟩ | ⟨rfl, rfl⟩ | ⟨rfl, rfl⟩ | ⟨rfl, rfl⟩
  · exact rddone
  · exact fun _ => rdv_i16 _ _
  · exact fun h => by cases fl with | true => cases h | false => exact rdv_string
  · exact trivial
theorem wprims_x (fl : Bool) : WPrims (CWX fl) prX := by
  intro f p h
  have hm := lookup_mem h
  simp only [prX, List.mem_cons, List.not_mem_nil, or_false, Prod.mk.injEq] at hm
  rcases hm with ⟨rfl, rfl⟩ | ⟨rfl, rfl⟩
  · exact fun _ => apk_i16 _ _
  · exact fun h => by cases fl with | true => cases h | false => exact apk_str
theorem ver_p (fl : Bool) : ∀ f, (CX fl).prim.lookup f = some (.leaf .i16 false none) → RdN f .i16 (rdI 2) := by
  intro f h
  have hm := lookup_mem h
  simp only [CX, List.mem_cons, List.not_mem_nil, or_false, Prod.mk.injEq] at hm
  rcases hm with ⟨rfl, h2⟩ | ⟨rfl, h2⟩ | ⟨rfl, h2⟩ | ⟨rfl, h2⟩
  · cases h2
  · exact rd_int16
  · cases h2
  · cases h2
theorem new_run {H H1 H2 H3 H4 : Heap} {q0 q1 v : AV} (ha0 : ∀ fr, opA P (.alloc 70) fr H = some (q0, H1)) (ha1 : ∀ fr, opA P (.alloc 70) fr H1 = some (q1, H2)) (hd : CA P NS 66 [q1] H2 (.t [], H3)) (hld : loadA P H3 70 q1 = some v) (hst : storeA P H3 70 q0 v = some H4) (hres : loadA P H4 70 q0 = some v) : CA P NS 37 [] H (v, H4) := by
  refine CA.go (fn := Tryd.f37) (vs := [v]) (by kernel_rfl) rfl (.inr rfl) ?_
  apply Exists.intro
  apply And.intro
  · dsimp only [Tryd.f37]
    dsimp only [List.length_cons, List.length_nil, List.cons_append, List.nil_append, Nat.reduceSub, Nat.reduceAdd, List.replicate]
    (apply RU.seq; focus (apply RU.region; refine OS.op rfl rfl (ha0 _) ?_; dsimp only [AV.cells, putA, List.set_cons_zero, List.set_cons_succ]; exact OS.nil))
    (apply RU.seq; focus (apply RU.region; refine OS.op rfl rfl (ha1 _) ?_; dsimp only [AV.cells, putA, List.set_cons_zero, List.set_cons_succ]; exact OS.nil))
    refine RU.seq RU.rg ?_
    (apply RU.seq; focus (apply RU.region; refine OS.op rfl rfl (op_load rfl hld) ?_; dsimp only [AV.cells, putA, List.set_cons_zero, List.set_cons_succ]; refine OS.op rfl rfl (op_store rfl rfl hst) ?_; exact OS.nil))
    exact RU.ret
  · simp [resultsA, putA, hres]
theorem new_x (H : Heap) : CA P NS 37 [] H (.g dX, H ++ [.cells 70 .vr dX] ++ [.cells 70 .vr dX]) := by
  have hz : zeroA P 70 = some (.g zX) := by kernel_rfl
  have sz : sizeA P 70 = some dX.length := by kernel_rfl
  have ag : aggA P 70 = some true := by kernel_rfl
  have hd : CA P NS 66 [.p (H ++ [Blk.cells 70 .vr zX]).length 0] ((H ++ [.cells 70 .vr zX]) ++ [.cells 70 .vr (AV.g zX).cells]) (.t [], (H ++ [.cells 70 .vr zX]) ++ [.cells 70 .vr dX]) := CA.go (fn := Tryd.f66) (vs := []) (c := .skip) (x := .normal) (by kernel_rfl) rfl (.inl rfl) ⟨_, RU.skip, rfl⟩
  have hl0 : (AV.g dX).cells.length = dX.length := rfl
  have h1 : (AV.g dX).cells.all AV.one = true := rfl
  have hzl : 0 + dX.length ≤ zX.length := by decide
  have hov : over zX (AV.g dX).cells 0 = dX := rfl
  refine new_run (q0 := .p H.length 0) (q1 := .p (H ++ [Blk.cells 70 .vr zX]).length 0) (H1 := H ++ [.cells 70 .vr zX]) (fun fr => op_alloc hz rfl) (fun fr => op_alloc hz rfl) hd ?_ ?_ ?_
  · have hat : ((H ++ [Blk.cells 70 .vr zX]) ++ [Blk.cells 70 Kn.vr dX])[(H ++ [Blk.cells 70 .vr zX]).length]? = some (.cells 70 .vr dX) := by simp
    simp [loadA, loadAt, ag, sz]
  · have hat : ((H ++ [Blk.cells 70 .vr zX]) ++ [Blk.cells 70 Kn.vr dX])[H.length]? = some (.cells 70 .vr zX) := by simp
    simp only [storeA, hat, sz, Kn.own]
    rw [if_pos ⟨trivial, hl0, hzl, h1⟩, hov]
    simp
  · have hat : (H ++ [Blk.cells 70 .vr dX] ++ [Blk.cells 70 Kn.vr dX])[H.length]? = some (.cells 70 .vr dX) := by simp
    simp only [loadA, loadAt, ag, sz, hat]
    rw [if_pos (by omega)]
    simp
theorem readf_x {H H' : Heap} {mb : Nat} {src v : AV} (h : CA P NS 67 [.p mb 0, src, .b false] H (v, H')) : CA P NS 38 [.p mb 0, src] H (v, H') := by
  refine CA.go (fn := Tryd.f38) (vs := [_]) (by kernel_rfl) rfl (by first | exact .inr rfl | exact .inl rfl) ?_
  apply Exists.intro
  apply And.intro
  · dsimp only [Tryd.f38]
    dsimp only [List.length_cons, List.length_nil, List.cons_append, List.nil_append, Nat.reduceSub, Nat.reduceAdd, List.replicate]
    refine RU.seq RU.rg ?_
    refine RU.seq RU.rg ?_
    first | exact RU.ret | exact RU.skip
  · rfl
theorem again_bad_run {H H1 H2 H3 H4 H5 : Heap} {q : AV} {data src : AV} (c1 : CA P NS 37 [] H (.g dX, H1)) (ha0 : ∀ fr, opA P (.alloc 70) fr H1 = some (q, H2)) (hst : storeA P H2 70 q (.g dX) = some H3)
    (hns : data.isS = false) (ha : appendA P H3 22 false .s0 data = some (src, H4)) (c3 : CA P NS 38 [q, src] H4 (.e, H5)) :
    CA P NS 12 [data] H (.t [.s0, .b false], H5) := by
  have hn := neq_e
  refine CA.go (fn := Tryd.f12) (vs := [_, _]) (by kernel_rfl) rfl (.inr rfl) ?_
  apply Exists.intro
  apply And.intro
  · dsimp only [Tryd.f12]
    dsimp only [List.length_cons, List.length_nil, List.cons_append, List.nil_append, Nat.reduceSub, Nat.reduceAdd, List.replicate]
    refine RU.seq RU.rg ?_
    (apply RU.seq; focus (apply RU.region; refine OS.cl rfl rfl rfl ?_; dsimp only [AV.cells, putA, List.set_cons_zero, List.set_cons_succ]; refine OS.op rfl rfl (ha0 _) ?_; dsimp only [AV.cells, putA, List.set_cons_zero, List.set_cons_succ]; refine OS.op rfl rfl (op_store rfl rfl hst) ?_; exact OS.nil))
    (apply RU.seqx; rotate_left; focus (simp)); refine RU.seq RU.rg ?_; apply RU.condT rfl
    refine RU.seq RU.rg ?_
    exact RU.ret
  · rfl
theorem again_good_run {H H1 H2 H3 H4 H5 H6 : Heap} {q : AV} {data src out : AV} (c1 : CA P NS 37 [] H (.g dX, H1)) (ha0 : ∀ fr, opA P (.alloc 70) fr H1 = some (q, H2)) (hst : storeA P H2 70 q (.g dX) = some H3)
    (hns : data.isS = false) (ha : appendA P H3 22 false .s0 data = some (src, H4)) (c3 : CA P NS 38 [q, src] H4 (.n, H5)) (c4 : CA P NS 39 [q, .s0] H5 (out, H6)) :
    CA P NS 12 [data] H (.t [out, .b true], H6) := by
  have hn := neq_n
  refine CA.go (fn := Tryd.f12) (vs := [_, _]) (by kernel_rfl) rfl (.inr rfl) ?_
  apply Exists.intro
  apply And.intro
  · dsimp only [Tryd.f12]
    dsimp only [List.length_cons, List.length_nil, List.cons_append, List.nil_append, Nat.reduceSub, Nat.reduceAdd, List.replicate]
    refine RU.seq RU.rg ?_
    (apply RU.seq; focus (apply RU.region; refine OS.cl rfl rfl rfl ?_; dsimp only [AV.cells, putA, List.set_cons_zero, List.set_cons_succ]; refine OS.op rfl rfl (ha0 _) ?_; dsimp only [AV.cells, putA, List.set_cons_zero, List.set_cons_succ]; refine OS.op rfl rfl (op_store rfl rfl hst) ?_; exact OS.nil))
    refine RU.seq (RU.seq RU.rg (RU.condF rfl RU.skip)) ?_
    refine RU.seq RU.rg ?_
    exact RU.ret
  · rfl
theorem again_x {lo hi : Int} {fl : Bool} {pl : List (Ev × Nat)} {wF : SF} (top : chkTopV (CX fl) lo hi Tryd.f67 wX = some ((Ev.leaf .i16 false, 0) :: pl, wF)) (wtop : chkWTopG (CWX fl) prX Tryd.f39 zX.length (some (.rng lo hi)) ((Ev.leaf .i16 false, 0) :: pl) = true) {H : Heap} {rb0 : Nat} {data : AV} {bs : B} (G : Globs H rb0) (hb : DatAt H data bs) (hlen : bs.length ≤ 1099511627000) (h1 : lo ≤ verOf bs) (h2 : verOf bs ≤ hi) :
    (dec fl (nodes ((Ev.leaf .i16 false, 0) :: pl)) bs = none → ∃ H', CA P NS 12 [data] H (.t [.s0, .b false], H')) ∧
    (∀ x r, dec fl (nodes ((Ev.leaf .i16 false, 0) :: pl)) bs = some (x, r) → ∃ out H', CA P NS 12 [data] H (.t [out, .b true], H') ∧ OutAt H.length H' out (enc fl (nodes ((Ev.leaf .i16 false, 0) :: pl)) x) ∧ H.length ≤ H'.length ∧ (∀ i b, i < H.length → H[i]? = some b → H'[i]? = some b)) := by
  have hz : zeroA P 70 = some (.g zX) := by kernel_rfl
  have c1 := new_x H
  have hlN : (H ++ [Blk.cells 70 Kn.vr dX] ++ [Blk.cells 70 Kn.vr dX]).length = H.length + 2 := by simp
  have hkN : ∀ i b, i < H.length → H[i]? = some b → (H ++ [Blk.cells 70 Kn.vr dX] ++ [Blk.cells 70 Kn.vr dX])[i]? = some b := fun i b hi hx => by
    rw [List.getElem?_append_left (by simp; omega), List.getElem?_append_left hi]; exact hx
  have hbN := (hb.app [.cells 70 .vr dX]).app [.cells 70 .vr dX]
  generalize H ++ [Blk.cells 70 Kn.vr dX] ++ [Blk.cells 70 Kn.vr dX] = HN at c1 hlN hkN hbN
  have ha0 : ∀ fr, opA P (.alloc 70) fr HN = some (.p HN.length 0, HN ++ [.cells 70 .vr zX]) := fun fr => op_alloc hz rfl
  have hst : storeA P (HN ++ [.cells 70 .vr zX]) 70 (.p HN.length 0) (.g dX) = some (HN ++ [.cells 70 .vr dX]) := by
    have hm : (HN ++ [Blk.cells 70 Kn.vr zX])[HN.length]? = some (.cells 70 .vr zX) := by simp
    have sz : sizeA P 70 = some dX.length := by kernel_rfl
    have hl : (AV.g dX).cells.length = dX.length := rfl
    have h0 : (AV.g dX).cells.all AV.one = true := rfl
    have hzl : 0 + dX.length ≤ zX.length := by decide
    have ho : over zX (AV.g dX).cells 0 = dX := rfl
    simp only [storeA, hm, sz, Kn.own]
    rw [if_pos ⟨trivial, hl, hzl, h0⟩, ho]
    simp
  have hlH1 : (HN ++ [Blk.cells 70 Kn.vr dX]).length = HN.length + 1 := by simp
  have hb1 := hbN.app [.cells 70 .vr dX]
  obtain ⟨src, H3, ha, ho, hk⟩ := ap_bytes (str := false) (L0 := (HN ++ [Blk.cells 70 Kn.vr dX]).length) (H := HN ++ [.cells 70 .vr dX]) (out := .s0) (bs := []) (Nat.le_refl _) (.inl ⟨rfl, rfl⟩) hb1.first (by simp; omega)
  simp only [List.nil_append] at ho
  have hk3 : ∀ i b, i < H.length → H[i]? = some b → H3[i]? = some b := fun i b hi hx => by
    rw [hk.at_ i (by rw [hlH1]; omega), List.getElem?_append_left (by omega)]; exact hkN i b hi hx
  have hl3 : HN.length + 1 ≤ H3.length := by have := hk.len; rw [hlH1] at this; exact this
  have hm3 : H3[HN.length]? = some (.cells 70 .vr dX) := by rw [hk.at_ _ (by rw [hlH1]; omega)]; simp
  have hrb := G.lt
  have hsrc : BytesAt (fun i => i ∉ [rb0, HN.length]) H3 src bs := BytesAt.sub (fun i hi => by have hi : (HN ++ [Blk.cells 70 Kn.vr dX]).length ≤ i := hi; rw [hlH1] at hi; simp; omega) ho.bytes
  obtain ⟨t1, t2⟩ := chkTopV_sound (prims_x fl) (ver_p fl) top (by kernel_rfl : P.funcs[67]? = some Tryd.f67) hm3 (show dX.length = wX.length by rfl) wX_ok (by omega) (by omega) (G.room (mb := HN.length) (by omega) (by omega) (by omega) hk3) hsrc (by decide +kernel) rfl h1 h2
  constructor
  · intro hd
    obtain ⟨H4, c3⟩ := t1 hd
    exact ⟨H4, again_bad_run c1 ha0 hst hb.noS ha (readf_x c3)⟩
  · intro x r hd
    obtain ⟨H4, cs', rb, c3, k1, k2, k3, k4, k5, k6, k7⟩ := t2 x r hd
    have hrep : Rep (fun i => i < H4.length) H4 (nodes ((Ev.leaf .i16 false, 0) :: pl)) x cs' := Rep.kt ⟨Nat.le_refl _, fun i b _ hx => ⟨(List.getElem?_eq_some_iff.1 hx).1, hx⟩⟩ k6
    have hv0 : cs'[0]? = some (.i .i16 (verOf bs)) := by
      obtain ⟨y, rfl⟩ := verOf_dec (show dec fl (.leaf 0 .i16 false (nodes pl)) bs = some (x, r) from hd)
      obtain ⟨x1, y1, e, ⟨av, q1, q2, q3, q4⟩, _⟩ := hrep
      cases e
      have q1 : av = .i .i16 (verOf bs) := q1
      subst q1
      have q4 : (cs'.drop 0).take 1 = [AV.i .i16 (verOf bs)] := q4
      cases cs' with
      | nil => simp at q4
      | cons a l => simp at q4; simp [q4]
    obtain ⟨vs, e1, e2, e3⟩ := rep_said hrep (dec_ok hd)
    rw [unF_nodes] at e2 e3
    have hle := dec_len hd
    rw [e3] at hle
    obtain ⟨out, H5, c4, o1, o2⟩ := chkWTopG_sound (wprims_x fl) wtop (by kernel_rfl : P.funcs[39]? = some Tryd.f39) k3 (by rw [k4]; rfl) (fun n hn => by cases hn; exact ⟨_, hv0, h1, h2⟩) e2 (by have h1 : (CWX fl).flex = fl := rfl; rw [h1]; omega) rfl
    refine ⟨out, H5, again_good_run c1 ha0 hst hb.noS ha (readf_x c3) c4, ?_, ?_, fun i b hi hx => ?_⟩
    · rw [e3]
      rcases o1 with h | ⟨i, h1, h2⟩
      · exact .inl h
      · exact .inr ⟨i, by omega, h2⟩
    · have := o2.len; omega
    · rw [o2.at_ i (by omega)]
      exact k2 i b (by omega) (hk3 i b hi hx)
def VerIn (lo hi : Int) (fl : Bool) (f : F) : Prop := f.good = true ∧ (∃ g, f = .leaf 0 .i16 false g) ∧ ∀ {H : Heap} {rb0 : Nat} {data : AV} {bs : B}, Globs H rb0 → DatAt H data bs → bs.length ≤ 1099511627000 → lo ≤ verOf bs → verOf bs ≤ hi →
    (dec fl f bs = none → ∃ H', CA P NS 12 [data] H (.t [.s0, .b false], H')) ∧
    (∀ x r, dec fl f bs = some (x, r) → ∃ out H', CA P NS 12 [data] H (.t [out, .b true], H') ∧ OutAt H.length H' out (enc fl f x) ∧ H.length ≤ H'.length ∧ (∀ i b, i < H.length → H[i]? = some b → H'[i]? = some b))
noncomputable def plOf (lo hi : Int) (fl : Bool) : List (Ev × Nat) := ((chkTopV (CX fl) lo hi Tryd.f67 wX).getD ([], [])).1
def isVer : List (Ev × Nat) → Bool
  | (.leaf .i16 false, 0) :: _ => true
  | _ => false
noncomputable def chkv (lo hi : Int) (fl : Bool) : Bool := match chkTopV (CX fl) lo hi Tryd.f67 wX with
  | some (pl, wF) => isVer pl && (chkWTopG (CWX fl) prX Tryd.f39 zX.length (some (.rng lo hi)) pl && (nodes pl).good)
  | none => false
theorem chkv_ok {lo hi : Int} {fl : Bool} (h : chkv lo hi fl = true) : VerIn lo hi fl (nodes (plOf lo hi fl)) := by
  unfold chkv at h
  split at h
  · rename_i pl wF hc
    have hp : plOf lo hi fl = pl := by unfold plOf; rw [hc]; rfl
    simp only [Bool.and_eq_true] at h
    rw [hp]
    obtain ⟨h1, h2, h3⟩ := h
    unfold isVer at h1
    split at h1
    · exact ⟨h3, ⟨_, rfl⟩, fun G hb hl a b => again_x hc h2 G hb hl a b⟩
    · cases h1
  · cases h
theorem ver_0 : VerIn 0 0 false (nodes (plOf 0 0 false)) := chkv_ok (by kernel_rfl)
end Go.Proofs.YtdanlkiojkimaaaDoor.Rd.mTxnMetadataKey

