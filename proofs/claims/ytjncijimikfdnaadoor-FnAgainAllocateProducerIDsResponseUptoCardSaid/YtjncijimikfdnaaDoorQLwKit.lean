import Derived.Test.YtjncijimikfdnaaDoorQApInt
/-
  ABOVE THE MESSAGES: what the thin package's functions do of them.
-/
namespace Go.Proofs.YtjncijimikfdnaaDoor.Rd
set_option linter.constructorNameAsVariable false
set_option linter.unusedVariables false
set_option linter.unusedSimpArgs false
open Go Go.Proofs.YtjncijimikfdnaaDoor.Ax Go.Proofs.YtjncijimikfdnaaDoor.Wire
set_option linter.unusedVariables false
set_option linter.unusedSimpArgs false
set_option maxRecDepth 100000

/-- The variables that are read; one block more. -/
structure Globs (H : Heap) (rb0 : Nat) : Prop where
  be : ∃ ty, H[0]? = some (.cells ty .ro [])
  nbe : rb0 ≠ 0
  err : ∃ ty, H[1]? = some (.cells ty .ro [.e])
  nerr : rb0 ≠ 1
  lt : rb0 < H.length
theorem Globs.room {H H' : Heap} {rb0 mb : Nat} (h : Globs H rb0) (hm : H.length ≤ mb) (hl : H.length ≤ H'.length) (hmb : mb < H'.length) (hk : ∀ i b, i < H.length → H[i]? = some b → H'[i]? = some b) : Room (fun i => i ∉ [rb0, mb]) H' rb0 where
  no := by simp
  new := fun i hi => by have := h.lt; simp; omega
  be := by
    obtain ⟨ty, x⟩ := h.be
    have hlt := (List.getElem?_eq_some_iff.1 x).1
    have := h.nbe
    exact ⟨by simp; omega, ty, hk _ _ hlt x⟩
  err := by
    obtain ⟨ty, x⟩ := h.err
    have hlt := (List.getElem?_eq_some_iff.1 x).1
    have := h.nerr
    exact ⟨by simp; omega, ty, hk _ _ hlt x⟩
theorem Globs.keep {H H' : Heap} {rb0 : Nat} (h : Globs H rb0) (hl : H.length ≤ H'.length) (hk : ∀ i b, i < H.length → H[i]? = some b → H'[i]? = some b) : Globs H' rb0 where
  be := h.be.elim fun ty x => ⟨ty, hk _ _ (List.getElem?_eq_some_iff.1 x).1 x⟩
  nbe := h.nbe
  err := h.err.elim fun ty x => ⟨ty, hk _ _ (List.getElem?_eq_some_iff.1 x).1 x⟩
  nerr := h.nerr
  lt := Nat.lt_of_lt_of_le h.lt hl
theorem OutAt.bytes {L0 : Nat} {H : Heap} {out : AV} {bs : B} (h : OutAt L0 H out bs) : BytesAt (fun i => L0 ≤ i) H out bs := by
  rcases h with ⟨rfl, rfl⟩ | ⟨i, hi, rfl, hb, h0⟩
  · exact .z
  · exact .s hi hb h0 (by rw [List.drop_zero, ← u8s_length bs, List.take_length])
theorem BytesAt.noS {A : Nat → Prop} {H : Heap} {av : AV} {bs : B} (h : BytesAt A H av bs) : av.isS = false := by cases h <;> rfl
/-- Octets that are handed on. -/
structure DatAt (H : Heap) (data : AV) (bs : B) : Prop where
  first : firstA H 1 data = some (bs.length, u8s bs)
  noS : data.isS = false
theorem BytesAt.dat {A : Nat → Prop} {H : Heap} {av : AV} {bs : B} (h : BytesAt A H av bs) : DatAt H av bs := ⟨h.first, BytesAt.noS h⟩
theorem DatAt.kp {H H' : Heap} {d : AV} {bs : B} (h : DatAt H d bs) (k : ∀ (i : Nat) (b : Blk), H[i]? = some b → H'[i]? = some b) : DatAt H' d bs := by
  refine ⟨?_, h.noS⟩
  have h1 := h.first
  have h2 := h.noS
  cases d with
  | s x => cases h2
  | sl i o n =>
    simp only [firstA] at h1 ⊢
    cases hi : H[i]? with
    | none => rw [hi] at h1; cases h1
    | some b => rw [k i b hi]; rw [hi] at h1; exact h1
  | _ => exact h1
theorem DatAt.app {H : Heap} {d : AV} {bs : B} (h : DatAt H d bs) (K : Heap) : DatAt (H ++ K) d bs := h.kp fun i b hi => by rw [List.getElem?_append_left (List.getElem?_eq_some_iff.1 hi).1]; exact hi
theorem neq_e : binA P .neq 51 true .e .n = some (.b true) := by kernel_rfl
theorem neq_n : binA P .neq 51 true .n .n = some (.b false) := by kernel_rfl
theorem OS.callg {P : Program} {S : CallA} {ops : Array Oper} {d : Option Tmp} {f : Operand} {args : Array Operand} {ats : Array TypeId} {ty : TypeId} {pos : String} {af : Array Edge} {gd : Option (Nat × Bool)} {l : List Oper} {fr : List AV} {H H1 : Heap} {v : AV} {r : List AV × Heap} {g : FuncId} {as_ : List AV}
    (hg : wantA ops fr gd = some true) (hf : ev fr f = some (.fn g [])) (ha : evl fr args.toList = some as_) (h1 : CA P S g as_ H (v, H1)) (h2 : OS P S ops l (putA fr d v) H1 r) : OS P S ops (⟨d, .call { callee := .value f, args := args, argTypes := ats }, ty, pos, af, gd⟩ :: l) fr H r := by
  obtain ⟨n1, k1⟩ := h1
  obtain ⟨n2, k2⟩ := h2
  refine ⟨max n1 n2, fun n hn => ?_⟩
  have k1' := k1 n (by omega)
  rw [← List.append_nil as_] at k1'
  simp only [opsA, hg, oneOp, hf, ha, k1', k2 n (by omega)]
theorem OutAt.below {L0 : Nat} {H : Heap} {out : AV} {bs : B} (h : OutAt L0 H out bs) : BytesAt (fun i => i < H.length) H out bs := by
  rcases h with ⟨rfl, rfl⟩ | ⟨i, hi, rfl, hb, h0⟩
  · exact .z
  · exact .s (List.getElem?_eq_some_iff.1 hb).1 hb h0 (by rw [List.drop_zero, ← u8s_length bs, List.take_length])
theorem gtrI (a b : Int) (h : ¬ b < a) : binA P .gtr 3 true (.i .i64 a) (.i .i64 b) = some (.b false) := by rw [gtr]; simp [h]
theorem gtrT (a b : Int) (h : b < a) : binA P .gtr 3 true (.i .i64 a) (.i .i64 b) = some (.b true) := by rw [gtr]; simp [h]
theorem unF_nodes : ∀ (pl : List (Ev × Nat)), unF (nodes pl) = pl
  | [] => rfl
  | (e, o) :: r => by cases e <;> simp [nodes, Ev.node, unF, unF_nodes r]
end Go.Proofs.YtjncijimikfdnaaDoor.Rd

/-
  A NUMBER IN GROUPS of seven bits, as kbin reads it.
-/
namespace Go.Proofs.YtjncijimikfdnaaDoor.Rd
set_option linter.constructorNameAsVariable false
set_option linter.unusedVariables false
set_option linter.unusedSimpArgs false
open Go Go.Proofs.YtjncijimikfdnaaDoor.Ax Go.Proofs.YtjncijimikfdnaaDoor.Wire
set_option linter.unusedSimpArgs false
set_option linter.unusedVariables false
set_option maxRecDepth 100000
set_option maxHeartbeats 1000000
theorem uvp_0 {H : Heap} {src q0 : AV} {n c0 m0 d0 w0 : Int}
    (hlen : lenA P 22 src = some (.i .i64 n))
    (g0 : binA P .lss 3 true (.i .i64 n) (.i .i64 1) = some (.b false))
    (i0 : indexAddrA P 22 src (.i .i64 0) = some q0) (l0 : loadA P H 5 q0 = some (.i .u8 c0))
    (a0 : binA P .and 5 true (.i .u8 c0) (.i .u8 127) = some (.i .u8 m0)) (v0 : convA P 5 62 (.i .u8 m0) = some (.i .u32 w0))
    (t0 : binA P .and 5 true (.i .u8 c0) (.i .u8 128) = some (.i .u8 d0)) (e0 : binA P .eql 5 true (.i .u8 d0) (.i .u8 0) = some (.b true)) :
    CA P NS 111 [src] H (.t [.i .u32 w0, .i .i64 1], H) := by
  refine CA.go (fn := Tryd.f111) (vs := [_, _]) (by kernel_rfl) rfl (.inr rfl) ?_
  apply Exists.intro
  apply And.intro
  · dsimp only [Tryd.f111]
    dsimp only [List.length_cons, List.length_nil, List.cons_append, List.nil_append, Nat.reduceSub, Nat.reduceAdd, List.replicate]
    refine RU.seq RU.rg ?_
    apply RU.scope
    rotate_left
    focus (simp)
    refine RU.seq RU.rg ?_
    refine RU.seq RU.rg ?_
    refine RU.seq (RU.seq RU.rg (RU.condF rfl RU.skip)) ?_
    refine RU.seq RU.rg ?_
    (apply RU.seqx; rotate_left; focus (simp)); refine RU.seq RU.rg ?_; apply RU.condT rfl
    refine RU.seq RU.rg ?_
    exact RU.ret
  · rfl
theorem uvp_1 {H : Heap} {src q0 q1 : AV} {n c0 m0 d0 w0 c1 m1 d1 w1 y1 x1 : Int}
    (hlen : lenA P 22 src = some (.i .i64 n))
    (g0 : binA P .lss 3 true (.i .i64 n) (.i .i64 1) = some (.b false))
    (i0 : indexAddrA P 22 src (.i .i64 0) = some q0) (l0 : loadA P H 5 q0 = some (.i .u8 c0))
    (a0 : binA P .and 5 true (.i .u8 c0) (.i .u8 127) = some (.i .u8 m0)) (v0 : convA P 5 62 (.i .u8 m0) = some (.i .u32 w0))
    (t0 : binA P .and 5 true (.i .u8 c0) (.i .u8 128) = some (.i .u8 d0)) (e0 : binA P .eql 5 true (.i .u8 d0) (.i .u8 0) = some (.b false))
    (g1 : binA P .lss 3 true (.i .i64 n) (.i .i64 2) = some (.b false))
    (i1 : indexAddrA P 22 src (.i .i64 1) = some q1) (l1 : loadA P H 5 q1 = some (.i .u8 c1))
    (a1 : binA P .and 5 true (.i .u8 c1) (.i .u8 127) = some (.i .u8 m1)) (v1 : convA P 5 62 (.i .u8 m1) = some (.i .u32 w1))
    (t1 : binA P .and 5 true (.i .u8 c1) (.i .u8 128) = some (.i .u8 d1)) (e1 : binA P .eql 5 true (.i .u8 d1) (.i .u8 0) = some (.b true))
    (s1 : binA P .shl 62 true (.i .u32 w1) (.i .u64 7) = some (.i .u32 y1)) (o1 : binA P .or 62 false (.i .u32 w0) (.i .u32 y1) = some (.i .u32 x1)) :
    CA P NS 111 [src] H (.t [.i .u32 x1, .i .i64 2], H) := by
  refine CA.go (fn := Tryd.f111) (vs := [_, _]) (by kernel_rfl) rfl (.inr rfl) ?_
  apply Exists.intro
  apply And.intro
  · dsimp only [Tryd.f111]
    dsimp only [List.length_cons, List.length_nil, List.cons_append, List.nil_append, Nat.reduceSub, Nat.reduceAdd, List.replicate]
    refine RU.seq RU.rg ?_
    apply RU.scope
    rotate_left
    focus (simp)
    refine RU.seq RU.rg ?_
    refine RU.seq RU.rg ?_
    refine RU.seq (RU.seq RU.rg (RU.condF rfl RU.skip)) ?_
    refine RU.seq RU.rg ?_
    (apply RU.seq; focus (refine RU.seq RU.rg ?_; apply RU.condF rfl; refine RU.seq RU.rg ?_; apply RU.condF rfl; exact RU.skip))
    refine RU.seq RU.rg ?_
    (apply RU.seqx; rotate_left; focus (simp)); refine RU.seq RU.rg ?_; apply RU.condT rfl
    refine RU.seq RU.rg ?_
    exact RU.ret
  · rfl
theorem uvp_2 {H : Heap} {src q0 q1 q2 : AV} {n c0 m0 d0 w0 c1 m1 d1 w1 y1 x1 c2 m2 d2 w2 y2 x2 : Int}
    (hlen : lenA P 22 src = some (.i .i64 n))
    (g0 : binA P .lss 3 true (.i .i64 n) (.i .i64 1) = some (.b false))
    (i0 : indexAddrA P 22 src (.i .i64 0) = some q0) (l0 : loadA P H 5 q0 = some (.i .u8 c0))
    (a0 : binA P .and 5 true (.i .u8 c0) (.i .u8 127) = some (.i .u8 m0)) (v0 : convA P 5 62 (.i .u8 m0) = some (.i .u32 w0))
    (t0 : binA P .and 5 true (.i .u8 c0) (.i .u8 128) = some (.i .u8 d0)) (e0 : binA P .eql 5 true (.i .u8 d0) (.i .u8 0) = some (.b false))
    (g1 : binA P .lss 3 true (.i .i64 n) (.i .i64 2) = some (.b false))
    (i1 : indexAddrA P 22 src (.i .i64 1) = some q1) (l1 : loadA P H 5 q1 = some (.i .u8 c1))
    (a1 : binA P .and 5 true (.i .u8 c1) (.i .u8 127) = some (.i .u8 m1)) (v1 : convA P 5 62 (.i .u8 m1) = some (.i .u32 w1))
    (t1 : binA P .and 5 true (.i .u8 c1) (.i .u8 128) = some (.i .u8 d1)) (e1 : binA P .eql 5 true (.i .u8 d1) (.i .u8 0) = some (.b false))
    (s1 : binA P .shl 62 true (.i .u32 w1) (.i .u64 7) = some (.i .u32 y1)) (o1 : binA P .or 62 false (.i .u32 w0) (.i .u32 y1) = some (.i .u32 x1))
    (g2 : binA P .lss 3 true (.i .i64 n) (.i .i64 3) = some (.b false))
    (i2 : indexAddrA P 22 src (.i .i64 2) = some q2) (l2 : loadA P H 5 q2 = some (.i .u8 c2))
    (a2 : binA P .and 5 true (.i .u8 c2) (.i .u8 127) = some (.i .u8 m2)) (v2 : convA P 5 62 (.i .u8 m2) = some (.i .u32 w2))
    (t2 : binA P .and 5 true (.i .u8 c2) (.i .u8 128) = some (.i .u8 d2)) (e2 : binA P .eql 5 true (.i .u8 d2) (.i .u8 0) = some (.b true))
    (s2 : binA P .shl 62 true (.i .u32 w2) (.i .u64 14) = some (.i .u32 y2)) (o2 : binA P .or 62 false (.i .u32 x1) (.i .u32 y2) = some (.i .u32 x2)) :
    CA P NS 111 [src] H (.t [.i .u32 x2, .i .i64 3], H) := by
  refine CA.go (fn := Tryd.f111) (vs := [_, _]) (by kernel_rfl) rfl (.inr rfl) ?_
  apply Exists.intro
  apply And.intro
  · dsimp only [Tryd.f111]
    dsimp only [List.length_cons, List.length_nil, List.cons_append, List.nil_append, Nat.reduceSub, Nat.reduceAdd, List.replicate]
    refine RU.seq RU.rg ?_
    apply RU.scope
    rotate_left
    focus (simp)
    refine RU.seq RU.rg ?_
    refine RU.seq RU.rg ?_
    refine RU.seq (RU.seq RU.rg (RU.condF rfl RU.skip)) ?_
    refine RU.seq RU.rg ?_
    (apply RU.seq; focus (refine RU.seq RU.rg ?_; apply RU.condF rfl; refine RU.seq RU.rg ?_; apply RU.condF rfl; exact RU.skip))
    refine RU.seq RU.rg ?_
    (apply RU.seq; focus (refine RU.seq RU.rg ?_; apply RU.condF rfl; refine RU.seq RU.rg ?_; apply RU.condF rfl; exact RU.skip))
    refine RU.seq RU.rg ?_
    (apply RU.seqx; rotate_left; focus (simp)); refine RU.seq RU.rg ?_; apply RU.condT rfl
    refine RU.seq RU.rg ?_
    exact RU.ret
  · rfl
theorem uvp_3 {H : Heap} {src q0 q1 q2 q3 : AV} {n c0 m0 d0 w0 c1 m1 d1 w1 y1 x1 c2 m2 d2 w2 y2 x2 c3 m3 d3 w3 y3 x3 : Int}
    (hlen : lenA P 22 src = some (.i .i64 n))
    (g0 : binA P .lss 3 true (.i .i64 n) (.i .i64 1) = some (.b false))
    (i0 : indexAddrA P 22 src (.i .i64 0) = some q0) (l0 : loadA P H 5 q0 = some (.i .u8 c0))
    (a0 : binA P .and 5 true (.i .u8 c0) (.i .u8 127) = some (.i .u8 m0)) (v0 : convA P 5 62 (.i .u8 m0) = some (.i .u32 w0))
    (t0 : binA P .and 5 true (.i .u8 c0) (.i .u8 128) = some (.i .u8 d0)) (e0 : binA P .eql 5 true (.i .u8 d0) (.i .u8 0) = some (.b false))
    (g1 : binA P .lss 3 true (.i .i64 n) (.i .i64 2) = some (.b false))
    (i1 : indexAddrA P 22 src (.i .i64 1) = some q1) (l1 : loadA P H 5 q1 = some (.i .u8 c1))
    (a1 : binA P .and 5 true (.i .u8 c1) (.i .u8 127) = some (.i .u8 m1)) (v1 : convA P 5 62 (.i .u8 m1) = some (.i .u32 w1))
    (t1 : binA P .and 5 true (.i .u8 c1) (.i .u8 128) = some (.i .u8 d1)) (e1 : binA P .eql 5 true (.i .u8 d1) (.i .u8 0) = some (.b false))
    (s1 : binA P .shl 62 true (.i .u32 w1) (.i .u64 7) = some (.i .u32 y1)) (o1 : binA P .or 62 false (.i .u32 w0) (.i .u32 y1) = some (.i .u32 x1))
    (g2 : binA P .lss 3 true (.i .i64 n) (.i .i64 3) = some (.b false))
    (i2 : indexAddrA P 22 src (.i .i64 2) = some q2) (l2 : loadA P H 5 q2 = some (.i .u8 c2))
    (a2 : binA P .and 5 true (.i .u8 c2) (.i .u8 127) = some (.i .u8 m2)) (v2 : convA P 5 62 (.i .u8 m2) = some (.i .u32 w2))
    (t2 : binA P .and 5 true (.i .u8 c2) (.i .u8 128) = some (.i .u8 d2)) (e2 : binA P .eql 5 true (.i .u8 d2) (.i .u8 0) = some (.b false))
    (s2 : binA P .shl 62 true (.i .u32 w2) (.i .u64 14) = some (.i .u32 y2)) (o2 : binA P .or 62 false (.i .u32 x1) (.i .u32 y2) = some (.i .u32 x2))
    (g3 : binA P .lss 3 true (.i .i64 n) (.i .i64 4) = some (.b false))
    (i3 : indexAddrA P 22 src (.i .i64 3) = some q3) (l3 : loadA P H 5 q3 = some (.i .u8 c3))
    (a3 : binA P .and 5 true (.i .u8 c3) (.i .u8 127) = some (.i .u8 m3)) (v3 : convA P 5 62 (.i .u8 m3) = some (.i .u32 w3))
    (t3 : binA P .and 5 true (.i .u8 c3) (.i .u8 128) = some (.i .u8 d3)) (e3 : binA P .eql 5 true (.i .u8 d3) (.i .u8 0) = some (.b true))
    (s3 : binA P .shl 62 true (.i .u32 w3) (.i .u64 21) = some (.i .u32 y3)) (o3 : binA P .or 62 false (.i .u32 x2) (.i .u32 y3) = some (.i .u32 x3)) :
    CA P NS 111 [src] H (.t [.i .u32 x3, .i .i64 4], H) := by
  refine CA.go (fn := Tryd.f111) (vs := [_, _]) (by kernel_rfl) rfl (.inr rfl) ?_
  apply Exists.intro
  apply And.intro
  · dsimp only [Tryd.f111]
    dsimp only [List.length_cons, List.length_nil, List.cons_append, List.nil_append, Nat.reduceSub, Nat.reduceAdd, List.replicate]
    refine RU.seq RU.rg ?_
    apply RU.scope
    rotate_left
    focus (simp)
    refine RU.seq RU.rg ?_
    refine RU.seq RU.rg ?_
    refine RU.seq (RU.seq RU.rg (RU.condF rfl RU.skip)) ?_
    refine RU.seq RU.rg ?_
    (apply RU.seq; focus (refine RU.seq RU.rg ?_; apply RU.condF rfl; refine RU.seq RU.rg ?_; apply RU.condF rfl; exact RU.skip))
    refine RU.seq RU.rg ?_
    (apply RU.seq; focus (refine RU.seq RU.rg ?_; apply RU.condF rfl; refine RU.seq RU.rg ?_; apply RU.condF rfl; exact RU.skip))
    refine RU.seq RU.rg ?_
    (apply RU.seq; focus (refine RU.seq RU.rg ?_; apply RU.condF rfl; refine RU.seq RU.rg ?_; apply RU.condF rfl; exact RU.skip))
    refine RU.seq RU.rg ?_
    (apply RU.seqx; rotate_left; focus (simp)); refine RU.seq RU.rg ?_; apply RU.condT rfl
    refine RU.seq RU.rg ?_
    exact RU.ret
  · rfl
theorem uvp_4 {H : Heap} {src q0 q1 q2 q3 q4 : AV} {n c0 m0 d0 w0 c1 m1 d1 w1 y1 x1 c2 m2 d2 w2 y2 x2 c3 m3 d3 w3 y3 x3 c4 w4 y4 x4 : Int}
    (hlen : lenA P 22 src = some (.i .i64 n))
    (g0 : binA P .lss 3 true (.i .i64 n) (.i .i64 1) = some (.b false))
    (i0 : indexAddrA P 22 src (.i .i64 0) = some q0) (l0 : loadA P H 5 q0 = some (.i .u8 c0))
    (a0 : binA P .and 5 true (.i .u8 c0) (.i .u8 127) = some (.i .u8 m0)) (v0 : convA P 5 62 (.i .u8 m0) = some (.i .u32 w0))
    (t0 : binA P .and 5 true (.i .u8 c0) (.i .u8 128) = some (.i .u8 d0)) (e0 : binA P .eql 5 true (.i .u8 d0) (.i .u8 0) = some (.b false))
    (g1 : binA P .lss 3 true (.i .i64 n) (.i .i64 2) = some (.b false))
    (i1 : indexAddrA P 22 src (.i .i64 1) = some q1) (l1 : loadA P H 5 q1 = some (.i .u8 c1))
    (a1 : binA P .and 5 true (.i .u8 c1) (.i .u8 127) = some (.i .u8 m1)) (v1 : convA P 5 62 (.i .u8 m1) = some (.i .u32 w1))
    (t1 : binA P .and 5 true (.i .u8 c1) (.i .u8 128) = some (.i .u8 d1)) (e1 : binA P .eql 5 true (.i .u8 d1) (.i .u8 0) = some (.b false))
    (s1 : binA P .shl 62 true (.i .u32 w1) (.i .u64 7) = some (.i .u32 y1)) (o1 : binA P .or 62 false (.i .u32 w0) (.i .u32 y1) = some (.i .u32 x1))
    (g2 : binA P .lss 3 true (.i .i64 n) (.i .i64 3) = some (.b false))
    (i2 : indexAddrA P 22 src (.i .i64 2) = some q2) (l2 : loadA P H 5 q2 = some (.i .u8 c2))
    (a2 : binA P .and 5 true (.i .u8 c2) (.i .u8 127) = some (.i .u8 m2)) (v2 : convA P 5 62 (.i .u8 m2) = some (.i .u32 w2))
    (t2 : binA P .and 5 true (.i .u8 c2) (.i .u8 128) = some (.i .u8 d2)) (e2 : binA P .eql 5 true (.i .u8 d2) (.i .u8 0) = some (.b false))
    (s2 : binA P .shl 62 true (.i .u32 w2) (.i .u64 14) = some (.i .u32 y2)) (o2 : binA P .or 62 false (.i .u32 x1) (.i .u32 y2) = some (.i .u32 x2))
    (g3 : binA P .lss 3 true (.i .i64 n) (.i .i64 4) = some (.b false))
    (i3 : indexAddrA P 22 src (.i .i64 3) = some q3) (l3 : loadA P H 5 q3 = some (.i .u8 c3))
    (a3 : binA P .and 5 true (.i .u8 c3) (.i .u8 127) = some (.i .u8 m3)) (v3 : convA P 5 62 (.i .u8 m3) = some (.i .u32 w3))
    (t3 : binA P .and 5 true (.i .u8 c3) (.i .u8 128) = some (.i .u8 d3)) (e3 : binA P .eql 5 true (.i .u8 d3) (.i .u8 0) = some (.b false))
    (s3 : binA P .shl 62 true (.i .u32 w3) (.i .u64 21) = some (.i .u32 y3)) (o3 : binA P .or 62 false (.i .u32 x2) (.i .u32 y3) = some (.i .u32 x3))
    (g4 : binA P .lss 3 true (.i .i64 n) (.i .i64 5) = some (.b false))
    (i4 : indexAddrA P 22 src (.i .i64 4) = some q4) (l4 : loadA P H 5 q4 = some (.i .u8 c4))
    (v4 : convA P 5 62 (.i .u8 c4) = some (.i .u32 w4)) (e4 : binA P .leq 5 true (.i .u8 c4) (.i .u8 15) = some (.b true))
    (s4 : binA P .shl 62 true (.i .u32 w4) (.i .u64 28) = some (.i .u32 y4)) (o4 : binA P .or 62 false (.i .u32 x3) (.i .u32 y4) = some (.i .u32 x4)) :
    CA P NS 111 [src] H (.t [.i .u32 x4, .i .i64 5], H) := by
  refine CA.go (fn := Tryd.f111) (vs := [_, _]) (by kernel_rfl) rfl (.inr rfl) ?_
  apply Exists.intro
  apply And.intro
  · dsimp only [Tryd.f111]
    dsimp only [List.length_cons, List.length_nil, List.cons_append, List.nil_append, Nat.reduceSub, Nat.reduceAdd, List.replicate]
    refine RU.seq RU.rg ?_
    apply RU.scope
    rotate_left
    focus (simp)
    refine RU.seq RU.rg ?_
    refine RU.seq RU.rg ?_
    refine RU.seq (RU.seq RU.rg (RU.condF rfl RU.skip)) ?_
    refine RU.seq RU.rg ?_
    (apply RU.seq; focus (refine RU.seq RU.rg ?_; apply RU.condF rfl; refine RU.seq RU.rg ?_; apply RU.condF rfl; exact RU.skip))
    refine RU.seq RU.rg ?_
    (apply RU.seq; focus (refine RU.seq RU.rg ?_; apply RU.condF rfl; refine RU.seq RU.rg ?_; apply RU.condF rfl; exact RU.skip))
    refine RU.seq RU.rg ?_
    (apply RU.seq; focus (refine RU.seq RU.rg ?_; apply RU.condF rfl; refine RU.seq RU.rg ?_; apply RU.condF rfl; exact RU.skip))
    refine RU.seq RU.rg ?_
    (apply RU.seq; focus (refine RU.seq RU.rg ?_; apply RU.condF rfl; refine RU.seq RU.rg ?_; apply RU.condF rfl; exact RU.skip))
    refine RU.seq RU.rg ?_
    (apply RU.seqx; rotate_left; focus (simp)); refine RU.seq RU.rg ?_; apply RU.condT rfl
    refine RU.seq RU.rg ?_
    exact RU.ret
  · rfl
theorem uvl_0 {H : Heap} {src : AV} {n : Int}
    (hlen : lenA P 22 src = some (.i .i64 n))
    (g0 : binA P .lss 3 true (.i .i64 n) (.i .i64 1) = some (.b true)) :
    CA P NS 111 [src] H (.t [.i .u32 0, .i .i64 0], H) := by
  refine CA.go (fn := Tryd.f111) (vs := [_, _]) (by kernel_rfl) rfl (.inr rfl) ?_
  apply Exists.intro
  apply And.intro
  · dsimp only [Tryd.f111]
    dsimp only [List.length_cons, List.length_nil, List.cons_append, List.nil_append, Nat.reduceSub, Nat.reduceAdd, List.replicate]
    refine RU.seq RU.rg ?_
    apply RU.scope1 (l := 0)
    case h =>
      refine RU.seq RU.rg ?_
      refine RU.seq RU.rg ?_
      (apply RU.seqx; rotate_left; focus (simp))
      refine RU.seq RU.rg ?_
      apply RU.condT rfl
      exact RU.goto
    case hl => rfl
    case h2 =>
      (apply RU.seq; focus (first | exact RU.label | exact RU.skip))
      refine RU.seq RU.rg ?_
      exact RU.ret
    case hx => intro l; simp
  · rfl
theorem uvl_1 {H : Heap} {src q0 : AV} {n c0 m0 d0 w0 : Int}
    (hlen : lenA P 22 src = some (.i .i64 n))
    (g0 : binA P .lss 3 true (.i .i64 n) (.i .i64 1) = some (.b false))
    (i0 : indexAddrA P 22 src (.i .i64 0) = some q0) (l0 : loadA P H 5 q0 = some (.i .u8 c0))
    (a0 : binA P .and 5 true (.i .u8 c0) (.i .u8 127) = some (.i .u8 m0)) (v0 : convA P 5 62 (.i .u8 m0) = some (.i .u32 w0))
    (t0 : binA P .and 5 true (.i .u8 c0) (.i .u8 128) = some (.i .u8 d0)) (e0 : binA P .eql 5 true (.i .u8 d0) (.i .u8 0) = some (.b false))
    (g1 : binA P .lss 3 true (.i .i64 n) (.i .i64 2) = some (.b true)) :
    CA P NS 111 [src] H (.t [.i .u32 0, .i .i64 0], H) := by
  refine CA.go (fn := Tryd.f111) (vs := [_, _]) (by kernel_rfl) rfl (.inr rfl) ?_
  apply Exists.intro
  apply And.intro
  · dsimp only [Tryd.f111]
    dsimp only [List.length_cons, List.length_nil, List.cons_append, List.nil_append, Nat.reduceSub, Nat.reduceAdd, List.replicate]
    refine RU.seq RU.rg ?_
    apply RU.scope1 (l := 0)
    case h =>
      refine RU.seq RU.rg ?_
      refine RU.seq RU.rg ?_
      refine RU.seq (RU.seq RU.rg (RU.condF rfl RU.skip)) ?_
      refine RU.seq RU.rg ?_
      (apply RU.seqx; rotate_left; focus (simp))
      refine RU.seq RU.rg ?_
      apply RU.condF rfl
      refine RU.seq RU.rg ?_
      apply RU.condT rfl
      exact RU.goto
    case hl => rfl
    case h2 =>
      (apply RU.seq; focus (first | exact RU.label | exact RU.skip))
      refine RU.seq RU.rg ?_
      exact RU.ret
    case hx => intro l; simp
  · rfl
theorem uvl_2 {H : Heap} {src q0 q1 : AV} {n c0 m0 d0 w0 c1 m1 d1 w1 y1 x1 : Int}
    (hlen : lenA P 22 src = some (.i .i64 n))
    (g0 : binA P .lss 3 true (.i .i64 n) (.i .i64 1) = some (.b false))
    (i0 : indexAddrA P 22 src (.i .i64 0) = some q0) (l0 : loadA P H 5 q0 = some (.i .u8 c0))
    (a0 : binA P .and 5 true (.i .u8 c0) (.i .u8 127) = some (.i .u8 m0)) (v0 : convA P 5 62 (.i .u8 m0) = some (.i .u32 w0))
    (t0 : binA P .and 5 true (.i .u8 c0) (.i .u8 128) = some (.i .u8 d0)) (e0 : binA P .eql 5 true (.i .u8 d0) (.i .u8 0) = some (.b false))
    (g1 : binA P .lss 3 true (.i .i64 n) (.i .i64 2) = some (.b false))
    (i1 : indexAddrA P 22 src (.i .i64 1) = some q1) (l1 : loadA P H 5 q1 = some (.i .u8 c1))
    (a1 : binA P .and 5 true (.i .u8 c1) (.i .u8 127) = some (.i .u8 m1)) (v1 : convA P 5 62 (.i .u8 m1) = some (.i .u32 w1))
    (t1 : binA P .and 5 true (.i .u8 c1) (.i .u8 128) = some (.i .u8 d1)) (e1 : binA P .eql 5 true (.i .u8 d1) (.i .u8 0) = some (.b false))
    (s1 : binA P .shl 62 true (.i .u32 w1) (.i .u64 7) = some (.i .u32 y1)) (o1 : binA P .or 62 false (.i .u32 w0) (.i .u32 y1) = some (.i .u32 x1))
    (g2 : binA P .lss 3 true (.i .i64 n) (.i .i64 3) = some (.b true)) :
    CA P NS 111 [src] H (.t [.i .u32 0, .i .i64 0], H) := by
  refine CA.go (fn := Tryd.f111) (vs := [_, _]) (by kernel_rfl) rfl (.inr rfl) ?_
  apply Exists.intro
  apply And.intro
  · dsimp only [Tryd.f111]
    dsimp only [List.length_cons, List.length_nil, List.cons_append, List.nil_append, Nat.reduceSub, Nat.reduceAdd, List.replicate]
    refine RU.seq RU.rg ?_
    apply RU.scope1 (l := 0)
    case h =>
      refine RU.seq RU.rg ?_
      refine RU.seq RU.rg ?_
      refine RU.seq (RU.seq RU.rg (RU.condF rfl RU.skip)) ?_
      refine RU.seq RU.rg ?_
      (apply RU.seq; focus (refine RU.seq RU.rg ?_; apply RU.condF rfl; refine RU.seq RU.rg ?_; apply RU.condF rfl; exact RU.skip))
      refine RU.seq RU.rg ?_
      (apply RU.seqx; rotate_left; focus (simp))
      refine RU.seq RU.rg ?_
      apply RU.condF rfl
      refine RU.seq RU.rg ?_
      apply RU.condT rfl
      exact RU.goto
    case hl => rfl
    case h2 =>
      (apply RU.seq; focus (first | exact RU.label | exact RU.skip))
      refine RU.seq RU.rg ?_
      exact RU.ret
    case hx => intro l; simp
  · rfl
theorem uvl_3 {H : Heap} {src q0 q1 q2 : AV} {n c0 m0 d0 w0 c1 m1 d1 w1 y1 x1 c2 m2 d2 w2 y2 x2 : Int}
    (hlen : lenA P 22 src = some (.i .i64 n))
    (g0 : binA P .lss 3 true (.i .i64 n) (.i .i64 1) = some (.b false))
    (i0 : indexAddrA P 22 src (.i .i64 0) = some q0) (l0 : loadA P H 5 q0 = some (.i .u8 c0))
    (a0 : binA P .and 5 true (.i .u8 c0) (.i .u8 127) = some (.i .u8 m0)) (v0 : convA P 5 62 (.i .u8 m0) = some (.i .u32 w0))
    (t0 : binA P .and 5 true (.i .u8 c0) (.i .u8 128) = some (.i .u8 d0)) (e0 : binA P .eql 5 true (.i .u8 d0) (.i .u8 0) = some (.b false))
    (g1 : binA P .lss 3 true (.i .i64 n) (.i .i64 2) = some (.b false))
    (i1 : indexAddrA P 22 src (.i .i64 1) = some q1) (l1 : loadA P H 5 q1 = some (.i .u8 c1))
    (a1 : binA P .and 5 true (.i .u8 c1) (.i .u8 127) = some (.i .u8 m1)) (v1 : convA P 5 62 (.i .u8 m1) = some (.i .u32 w1))
    (t1 : binA P .and 5 true (.i .u8 c1) (.i .u8 128) = some (.i .u8 d1)) (e1 : binA P .eql 5 true (.i .u8 d1) (.i .u8 0) = some (.b false))
    (s1 : binA P .shl 62 true (.i .u32 w1) (.i .u64 7) = some (.i .u32 y1)) (o1 : binA P .or 62 false (.i .u32 w0) (.i .u32 y1) = some (.i .u32 x1))
    (g2 : binA P .lss 3 true (.i .i64 n) (.i .i64 3) = some (.b false))
    (i2 : indexAddrA P 22 src (.i .i64 2) = some q2) (l2 : loadA P H 5 q2 = some (.i .u8 c2))
    (a2 : binA P .and 5 true (.i .u8 c2) (.i .u8 127) = some (.i .u8 m2)) (v2 : convA P 5 62 (.i .u8 m2) = some (.i .u32 w2))
    (t2 : binA P .and 5 true (.i .u8 c2) (.i .u8 128) = some (.i .u8 d2)) (e2 : binA P .eql 5 true (.i .u8 d2) (.i .u8 0) = some (.b false))
    (s2 : binA P .shl 62 true (.i .u32 w2) (.i .u64 14) = some (.i .u32 y2)) (o2 : binA P .or 62 false (.i .u32 x1) (.i .u32 y2) = some (.i .u32 x2))
    (g3 : binA P .lss 3 true (.i .i64 n) (.i .i64 4) = some (.b true)) :
    CA P NS 111 [src] H (.t [.i .u32 0, .i .i64 0], H) := by
  refine CA.go (fn := Tryd.f111) (vs := [_, _]) (by kernel_rfl) rfl (.inr rfl) ?_
  apply Exists.intro
  apply And.intro
  · dsimp only [Tryd.f111]
    dsimp only [List.length_cons, List.length_nil, List.cons_append, List.nil_append, Nat.reduceSub, Nat.reduceAdd, List.replicate]
    refine RU.seq RU.rg ?_
    apply RU.scope1 (l := 0)
    case h =>
      refine RU.seq RU.rg ?_
      refine RU.seq RU.rg ?_
      refine RU.seq (RU.seq RU.rg (RU.condF rfl RU.skip)) ?_
      refine RU.seq RU.rg ?_
      (apply RU.seq; focus (refine RU.seq RU.rg ?_; apply RU.condF rfl; refine RU.seq RU.rg ?_; apply RU.condF rfl; exact RU.skip))
      refine RU.seq RU.rg ?_
      (apply RU.seq; focus (refine RU.seq RU.rg ?_; apply RU.condF rfl; refine RU.seq RU.rg ?_; apply RU.condF rfl; exact RU.skip))
      refine RU.seq RU.rg ?_
      (apply RU.seqx; rotate_left; focus (simp))
      refine RU.seq RU.rg ?_
      apply RU.condF rfl
      refine RU.seq RU.rg ?_
      apply RU.condT rfl
      exact RU.goto
    case hl => rfl
    case h2 =>
      (apply RU.seq; focus (first | exact RU.label | exact RU.skip))
      refine RU.seq RU.rg ?_
      exact RU.ret
    case hx => intro l; simp
  · rfl
theorem uvl_4 {H : Heap} {src q0 q1 q2 q3 : AV} {n c0 m0 d0 w0 c1 m1 d1 w1 y1 x1 c2 m2 d2 w2 y2 x2 c3 m3 d3 w3 y3 x3 : Int}
    (hlen : lenA P 22 src = some (.i .i64 n))
    (g0 : binA P .lss 3 true (.i .i64 n) (.i .i64 1) = some (.b false))
    (i0 : indexAddrA P 22 src (.i .i64 0) = some q0) (l0 : loadA P H 5 q0 = some (.i .u8 c0))
    (a0 : binA P .and 5 true (.i .u8 c0) (.i .u8 127) = some (.i .u8 m0)) (v0 : convA P 5 62 (.i .u8 m0) = some (.i .u32 w0))
    (t0 : binA P .and 5 true (.i .u8 c0) (.i .u8 128) = some (.i .u8 d0)) (e0 : binA P .eql 5 true (.i .u8 d0) (.i .u8 0) = some (.b false))
    (g1 : binA P .lss 3 true (.i .i64 n) (.i .i64 2) = some (.b false))
    (i1 : indexAddrA P 22 src (.i .i64 1) = some q1) (l1 : loadA P H 5 q1 = some (.i .u8 c1))
    (a1 : binA P .and 5 true (.i .u8 c1) (.i .u8 127) = some (.i .u8 m1)) (v1 : convA P 5 62 (.i .u8 m1) = some (.i .u32 w1))
    (t1 : binA P .and 5 true (.i .u8 c1) (.i .u8 128) = some (.i .u8 d1)) (e1 : binA P .eql 5 true (.i .u8 d1) (.i .u8 0) = some (.b false))
    (s1 : binA P .shl 62 true (.i .u32 w1) (.i .u64 7) = some (.i .u32 y1)) (o1 : binA P .or 62 false (.i .u32 w0) (.i .u32 y1) = some (.i .u32 x1))
    (g2 : binA P .lss 3 true (.i .i64 n) (.i .i64 3) = some (.b false))
    (i2 : indexAddrA P 22 src (.i .i64 2) = some q2) (l2 : loadA P H 5 q2 = some (.i .u8 c2))
    (a2 : binA P .and 5 true (.i .u8 c2) (.i .u8 127) = some (.i .u8 m2)) (v2 : convA P 5 62 (.i .u8 m2) = some (.i .u32 w2))
    (t2 : binA P .and 5 true (.i .u8 c2) (.i .u8 128) = some (.i .u8 d2)) (e2 : binA P .eql 5 true (.i .u8 d2) (.i .u8 0) = some (.b false))
    (s2 : binA P .shl 62 true (.i .u32 w2) (.i .u64 14) = some (.i .u32 y2)) (o2 : binA P .or 62 false (.i .u32 x1) (.i .u32 y2) = some (.i .u32 x2))
    (g3 : binA P .lss 3 true (.i .i64 n) (.i .i64 4) = some (.b false))
    (i3 : indexAddrA P 22 src (.i .i64 3) = some q3) (l3 : loadA P H 5 q3 = some (.i .u8 c3))
    (a3 : binA P .and 5 true (.i .u8 c3) (.i .u8 127) = some (.i .u8 m3)) (v3 : convA P 5 62 (.i .u8 m3) = some (.i .u32 w3))
    (t3 : binA P .and 5 true (.i .u8 c3) (.i .u8 128) = some (.i .u8 d3)) (e3 : binA P .eql 5 true (.i .u8 d3) (.i .u8 0) = some (.b false))
    (s3 : binA P .shl 62 true (.i .u32 w3) (.i .u64 21) = some (.i .u32 y3)) (o3 : binA P .or 62 false (.i .u32 x2) (.i .u32 y3) = some (.i .u32 x3))
    (g4 : binA P .lss 3 true (.i .i64 n) (.i .i64 5) = some (.b true)) :
    CA P NS 111 [src] H (.t [.i .u32 0, .i .i64 0], H) := by
  refine CA.go (fn := Tryd.f111) (vs := [_, _]) (by kernel_rfl) rfl (.inr rfl) ?_
  apply Exists.intro
  apply And.intro
  · dsimp only [Tryd.f111]
    dsimp only [List.length_cons, List.length_nil, List.cons_append, List.nil_append, Nat.reduceSub, Nat.reduceAdd, List.replicate]
    refine RU.seq RU.rg ?_
    apply RU.scope1 (l := 0)
    case h =>
      refine RU.seq RU.rg ?_
      refine RU.seq RU.rg ?_
      refine RU.seq (RU.seq RU.rg (RU.condF rfl RU.skip)) ?_
      refine RU.seq RU.rg ?_
      (apply RU.seq; focus (refine RU.seq RU.rg ?_; apply RU.condF rfl; refine RU.seq RU.rg ?_; apply RU.condF rfl; exact RU.skip))
      refine RU.seq RU.rg ?_
      (apply RU.seq; focus (refine RU.seq RU.rg ?_; apply RU.condF rfl; refine RU.seq RU.rg ?_; apply RU.condF rfl; exact RU.skip))
      refine RU.seq RU.rg ?_
      (apply RU.seq; focus (refine RU.seq RU.rg ?_; apply RU.condF rfl; refine RU.seq RU.rg ?_; apply RU.condF rfl; exact RU.skip))
      refine RU.seq RU.rg ?_
      (apply RU.seqx; rotate_left; focus (simp))
      refine RU.seq RU.rg ?_
      apply RU.condF rfl
      refine RU.seq RU.rg ?_
      apply RU.condT rfl
      exact RU.goto
    case hl => rfl
    case h2 =>
      (apply RU.seq; focus (first | exact RU.label | exact RU.skip))
      refine RU.seq RU.rg ?_
      exact RU.ret
    case hx => intro l; simp
  · rfl
theorem uvo {H : Heap} {src q0 q1 q2 q3 q4 : AV} {n c0 m0 d0 w0 c1 m1 d1 w1 y1 x1 c2 m2 d2 w2 y2 x2 c3 m3 d3 w3 y3 x3 c4 w4 y4 x4 : Int}
    (hlen : lenA P 22 src = some (.i .i64 n))
    (g0 : binA P .lss 3 true (.i .i64 n) (.i .i64 1) = some (.b false))
    (i0 : indexAddrA P 22 src (.i .i64 0) = some q0) (l0 : loadA P H 5 q0 = some (.i .u8 c0))
    (a0 : binA P .and 5 true (.i .u8 c0) (.i .u8 127) = some (.i .u8 m0)) (v0 : convA P 5 62 (.i .u8 m0) = some (.i .u32 w0))
    (t0 : binA P .and 5 true (.i .u8 c0) (.i .u8 128) = some (.i .u8 d0)) (e0 : binA P .eql 5 true (.i .u8 d0) (.i .u8 0) = some (.b false))
    (g1 : binA P .lss 3 true (.i .i64 n) (.i .i64 2) = some (.b false))
    (i1 : indexAddrA P 22 src (.i .i64 1) = some q1) (l1 : loadA P H 5 q1 = some (.i .u8 c1))
    (a1 : binA P .and 5 true (.i .u8 c1) (.i .u8 127) = some (.i .u8 m1)) (v1 : convA P 5 62 (.i .u8 m1) = some (.i .u32 w1))
    (t1 : binA P .and 5 true (.i .u8 c1) (.i .u8 128) = some (.i .u8 d1)) (e1 : binA P .eql 5 true (.i .u8 d1) (.i .u8 0) = some (.b false))
    (s1 : binA P .shl 62 true (.i .u32 w1) (.i .u64 7) = some (.i .u32 y1)) (o1 : binA P .or 62 false (.i .u32 w0) (.i .u32 y1) = some (.i .u32 x1))
    (g2 : binA P .lss 3 true (.i .i64 n) (.i .i64 3) = some (.b false))
    (i2 : indexAddrA P 22 src (.i .i64 2) = some q2) (l2 : loadA P H 5 q2 = some (.i .u8 c2))
    (a2 : binA P .and 5 true (.i .u8 c2) (.i .u8 127) = some (.i .u8 m2)) (v2 : convA P 5 62 (.i .u8 m2) = some (.i .u32 w2))
    (t2 : binA P .and 5 true (.i .u8 c2) (.i .u8 128) = some (.i .u8 d2)) (e2 : binA P .eql 5 true (.i .u8 d2) (.i .u8 0) = some (.b false))
    (s2 : binA P .shl 62 true (.i .u32 w2) (.i .u64 14) = some (.i .u32 y2)) (o2 : binA P .or 62 false (.i .u32 x1) (.i .u32 y2) = some (.i .u32 x2))
    (g3 : binA P .lss 3 true (.i .i64 n) (.i .i64 4) = some (.b false))
    (i3 : indexAddrA P 22 src (.i .i64 3) = some q3) (l3 : loadA P H 5 q3 = some (.i .u8 c3))
    (a3 : binA P .and 5 true (.i .u8 c3) (.i .u8 127) = some (.i .u8 m3)) (v3 : convA P 5 62 (.i .u8 m3) = some (.i .u32 w3))
    (t3 : binA P .and 5 true (.i .u8 c3) (.i .u8 128) = some (.i .u8 d3)) (e3 : binA P .eql 5 true (.i .u8 d3) (.i .u8 0) = some (.b false))
    (s3 : binA P .shl 62 true (.i .u32 w3) (.i .u64 21) = some (.i .u32 y3)) (o3 : binA P .or 62 false (.i .u32 x2) (.i .u32 y3) = some (.i .u32 x3))
    (g4 : binA P .lss 3 true (.i .i64 n) (.i .i64 5) = some (.b false))
    (i4 : indexAddrA P 22 src (.i .i64 4) = some q4) (l4 : loadA P H 5 q4 = some (.i .u8 c4))
    (v4 : convA P 5 62 (.i .u8 c4) = some (.i .u32 w4)) (e4 : binA P .leq 5 true (.i .u8 c4) (.i .u8 15) = some (.b false))
    (s4 : binA P .shl 62 true (.i .u32 w4) (.i .u64 28) = some (.i .u32 y4)) (o4 : binA P .or 62 false (.i .u32 x3) (.i .u32 y4) = some (.i .u32 x4)) :
    CA P NS 111 [src] H (.t [.i .u32 0, .i .i64 (-5)], H) := by
  refine CA.go (fn := Tryd.f111) (vs := [_, _]) (by kernel_rfl) rfl (.inr rfl) ?_
  apply Exists.intro
  apply And.intro
  · dsimp only [Tryd.f111]
    dsimp only [List.length_cons, List.length_nil, List.cons_append, List.nil_append, Nat.reduceSub, Nat.reduceAdd, List.replicate]
    refine RU.seq RU.rg ?_
    apply RU.scope
    rotate_left
    focus (simp)
    refine RU.seq RU.rg ?_
    refine RU.seq RU.rg ?_
    refine RU.seq (RU.seq RU.rg (RU.condF rfl RU.skip)) ?_
    refine RU.seq RU.rg ?_
    (apply RU.seq; focus (refine RU.seq RU.rg ?_; apply RU.condF rfl; refine RU.seq RU.rg ?_; apply RU.condF rfl; exact RU.skip))
    refine RU.seq RU.rg ?_
    (apply RU.seq; focus (refine RU.seq RU.rg ?_; apply RU.condF rfl; refine RU.seq RU.rg ?_; apply RU.condF rfl; exact RU.skip))
    refine RU.seq RU.rg ?_
    (apply RU.seq; focus (refine RU.seq RU.rg ?_; apply RU.condF rfl; refine RU.seq RU.rg ?_; apply RU.condF rfl; exact RU.skip))
    refine RU.seq RU.rg ?_
    (apply RU.seq; focus (refine RU.seq RU.rg ?_; apply RU.condF rfl; refine RU.seq RU.rg ?_; apply RU.condF rfl; exact RU.skip))
    refine RU.seq RU.rg ?_
    refine RU.seq (RU.seq RU.rg (RU.condF rfl RU.skip)) ?_
    refine RU.seq RU.rg ?_
    (apply RU.seq; focus (first | exact RU.label | exact RU.skip))
    refine RU.seq RU.rg ?_
    exact RU.ret
  · rfl
end Go.Proofs.YtjncijimikfdnaaDoor.Rd

