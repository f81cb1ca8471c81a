/-
  TAGS READ, AND PASSED OVER, by a reader behind an interface.
-/
import Derived.Test.YtdoaobkfbjegpaaQRdTags
set_option linter.constructorNameAsVariable false
set_option linter.unusedVariables false
set_option linter.unusedSimpArgs false
namespace Go.Proofs.Ytdoaobkfbjegpaa.Rd
open Go Go.Proofs.Ytdoaobkfbjegpaa.Ax Go.Proofs.Ytdoaobkfbjegpaa.Wire
set_option maxRecDepth 100000
set_option maxHeartbeats 2000000
abbrev tI : TypeId := 44
theorem metU : metA P 44 "Uvarint" = some 70 := by kernel_rfl
theorem metS : metA P 44 "Span" = some 68 := by kernel_rfl
noncomputable def bodyG : Code := loopT (flatT (Try.f13.body.getD .skip))
def TFG (rb b2 tb : Nat) (n : Int) (fr : List AV) : Prop := ∃ x1 x5 x6 x7 x8 x9 x10 x11 x12 x13 x14 x15 x16 x17 x18 x19 x20 x21 x22 x23 : AV, fr = [.ip tI rb 0, x1, .p b2 0, .p tb 0, .i .u32 n, x5, x6, x7, x8, x9, x10, x11, x12, x13, x14, x15, x16, x17, x18, x19, x20, x21, x22, x23]
theorem tagG_out {rb b2 tb : Nat} {fr : List AV} {H : Heap} (h : TFG rb b2 tb 0 fr) : ∃ fr', RU P NS bodyG fr H (.exit 0, fr', H) ∧ TFG rb b2 tb 0 fr' := by
  obtain ⟨x1, x5, x6, x7, x8, x9, x10, x11, x12, x13, x14, x15, x16, x17, x18, x19, x20, x21, x22, x23, rfl⟩ := h
  have g : binA P .gtr 37 true (.i .u32 0) (.i .u32 0) = some (.b false) := by kernel_rfl
  apply Exists.intro
  apply And.intro
  · dsimp only [bodyG, Try.f13, Option.getD_some, flatT, loopT, List.cons_append, List.nil_append]
    (apply RU.seqx; rotate_left; focus (simp))
    refine RU.seq RU.rg ?_
    apply RU.condF rfl
    exact RU.exit
  · exact ⟨_, _, _, _, _, _, _, _, _, _, _, _, _, _, _, _, _, _, _, _, rfl⟩
theorem tagG_step {rb b2 tb n : Nat} {fr : List AV} {H H1 H2 H3 H4 : Heap} {k : Int} {l : Nat} {av : AV} (h : TFG rb b2 tb ((n + 1 : Nat) : Int) fr) (hn : n + 1 < 4294967296) (hl : l < 4294967296)
    (c1 : CA P NS 70 [.p rb 0] H (.i .u32 k, H1)) (c2 : CA P NS 70 [.p rb 0] H1 (.i .u32 (l : Int), H2))
    (c3 : CA P NS 68 [.p rb 0, .i .i64 (l : Int)] H2 (av, H3)) (c4 : CA P NS 17 [.p tb 0, .i .u32 k, av] H3 (.t [], H4)) :
    ∃ fr', RU P NS bodyG fr H (.normal, fr', H4) ∧ TFG rb b2 tb n fr' := by
  obtain ⟨x1, x5, x6, x7, x8, x9, x10, x11, x12, x13, x14, x15, x16, x17, x18, x19, x20, x21, x22, x23, rfl⟩ := h
  have g := gtr32 (n + 1) true
  have mU := metU
  have mS := metS
  rw [decide_eq_true (by omega)] at g
  have s := sub32 n hn true
  have v := conv32_64 l hl
  generalize ((n + 1 : Nat) : Int) = nn at g s
  generalize ((l : Nat) : Int) = ll at c2 c3 v
  apply Exists.intro
  apply And.intro
  · dsimp only [bodyG, Try.f13, Option.getD_some, flatT, loopT, List.cons_append, List.nil_append]
    refine RU.seq (RU.seq RU.rg (RU.condT rfl RU.skip)) ?_
    (apply RU.seq; focus (apply RU.blockN; refine RU.seq RU.rg ?_; exact RU.rg))
    exact RU.rg
  · exact ⟨_, _, _, _, _, _, _, _, _, _, _, _, _, _, _, _, _, _, _, _, rfl⟩
def TLG (A : Nat → Prop) (rb b2 tb n0 n : Nat) (H : Heap) (st : Option B) (ts : List (Nat × B)) (fr : List AV) : Prop :=
  ∃ fr' H', RU P NS (.loop bodyG) fr H (.exit 0, fr', H') ∧ TFG rb b2 tb 0 fr' ∧ H.length ≤ H'.length ∧ (∀ i b, i ≠ rb → i ≠ tb → i < n0 → H[i]? = some b → H'[i]? = some b) ∧
    ∃ es' ts', TB n0 H' tb es' ∧ TagsIn A H' es' ts' ∧ okT 0 ts' ∧ ts'.length ≤ ts.length + n ∧ RdAt A tR H' rb true ((st.bind (skT n)))
theorem tagG_loop {A : Nat → Prop} {rb b2 tb n0 : Nat} (hrt : tb ≠ rb) (hrn : rb < n0) (htb : ¬ A tb) :
    ∀ (n : Nat) (H : Heap) (st : Option B) (ts : List (Nat × B)) (es : List (Int × AV)) (fr : List AV), n < 4294967296 → Room A H rb → RdAt A tR H rb true st → TB n0 H tb es → TagsIn A H es ts → okT 0 ts → n0 ≤ H.length → TFG rb b2 tb n fr → TLG A rb b2 tb n0 n H st ts fr
  | 0, H, st, ts, es, fr, hn, R, h, ht, hi1, hi2, hl, hf => by
    obtain ⟨fr', r, hf'⟩ := tagG_out hf
    refine ⟨fr', H, RU.loopx r (by simp), hf', Nat.le_refl _, fun i b _ _ _ hx => hx, es, ts, ht, hi1, hi2, by omega, ?_⟩
    cases st with
    | none => exact h
    | some bs => exact h
  | n + 1, H, st, ts, es, fr, hn, R, h, ht, hi1, hi2, hl, hf => by
    obtain ⟨k, H1, st1, c1, h1, le1, k1, m1⟩ := num_both rd_uvarint R h
    have K1 : Keep A H H1 := ⟨le1, fun i b a x => k1 i b (fun e => R.no (e ▸ a)) x⟩
    have R1 := R.keep K1
    obtain ⟨l, H2, st2, c2, h2, le2, k2, m2⟩ := num_both rd_uvarint R1 h1
    have K2 : Keep A H1 H2 := ⟨le2, fun i b a x => k2 i b (fun e => R.no (e ▸ a)) x⟩
    have R2 := R1.keep K2
    have nat : ∀ {q : Int} {s s' : Option B}, (match s.bind rdVi with | none => s' = none ∧ q = 0 | some (v, r) => s' = some r ∧ q = v) → ∃ qn : Nat, q = (qn : Int) ∧ qn < 4294967296 := by
      intro q s s' m
      cases hx : s.bind rdVi with
      | none => rw [hx] at m; exact ⟨0, m.2, by omega⟩
      | some x =>
        rw [hx] at m
        obtain ⟨v, r⟩ := x
        cases s with
        | none => cases hx
        | some b1 =>
          simp only [Option.bind_some, rdVi, Option.map_eq_some_iff] at hx
          obtain ⟨⟨q', r'⟩, hq, he⟩ := hx
          simp at he
          exact ⟨q', by rw [m.2, ← he.1], rdV_lt hq⟩
    obtain ⟨kn, rfl, hkn⟩ := nat m1
    obtain ⟨ln, rfl, hln⟩ := nat m2
    obtain ⟨av, H3, st3, c3, av1, h3, le3, k3, m3⟩ := span_both (l := (ln : Int)) R2 h2
    have K3 : Keep A H2 H3 := ⟨le3, fun i b a x => k3 i b (fun e => R.no (e ▸ a)) x⟩
    have R3 := R2.keep K3
    have ht3 : TB n0 H3 tb es := ((ht.keep hrn hrt k1).keep hrn hrt k2).keep hrn hrt k3
    obtain ⟨H4, c4, ht4, le4, k4⟩ := set_any (k := (kn : Int)) ht3 (by omega) av1
    have K4 : KC A H3 H4 := ⟨le4, fun i ty kn cs a x => k4 i _ (fun e => htb (e ▸ a)) (.inr (fun kd es h => by cases h)) x⟩
    have R4 := R3.kc K4
    have h4 : RdAt A tR H4 rb true st3 := rdAt_kc h3 K4 (fun b x => k4 _ _ (Ne.symm hrt) (.inl hrn) x)
    obtain ⟨fr1, r1, hf1⟩ := tagG_step hf hn hln c1 c2 c3 c4
    have hi3 : TagsIn A H3 es ts := hi1.kc (((Keep.kc K1).trans (Keep.kc K2)).trans (Keep.kc K3))
    obtain ⟨hd, hbd, hdl⟩ : ∃ hd : B, BytesAt A H3 av hd ∧ hd.length < 2 ^ 32 := by
      cases hx : st2.bind (rdS (ln : Int)) with
      | none =>
        rw [hx] at m3
        obtain ⟨src, hr2⟩ : ∃ x, x = av := ⟨_, rfl⟩
        obtain ⟨H3', c3', _, _⟩ := rd_span_bad R2 h2 hx
        have := CA.det c3 c3'
        simp only [Prod.mk.injEq] at this
        rw [this.1]
        exact ⟨[], .z, by simp⟩
      | some x =>
        obtain ⟨v, r⟩ := x
        rw [hx] at m3
        refine ⟨v, m3.2, ?_⟩
        cases st2 with
        | none => cases hx
        | some b2 =>
          simp only [Option.bind_some, rdS_nat] at hx
          have := (cut_len hx).1
          omega
    obtain ⟨fr', H', r, hf', le, kp, es', ts', ht', q1, q2, q3, q4⟩ := tagG_loop hrt hrn htb n H4 st3 (put kn hd ts) (putM (kn : Int) av es) fr1 (by omega) R4 h4 ht4 (tagsIn_put (hi3.kc K4) hi2 (hbd.kc K4)) (okT_put ts 0 kn hd hi2 (Nat.zero_le _) (by omega) hdl) (by omega) hf1
    have hpl := put_len ts kn hd
    refine ⟨fr', H', RU.loop r1 r, hf', by omega, fun i b hi hit hin x => kp i b hi hit hin (k4 i b hit (.inl hin) (k3 i b hi (k2 i b hi (k1 i b hi x)))), es', ts', ht', q1, q2, by omega, ?_⟩
    have e : st.bind (skT (n + 1)) = st3.bind (skT n) := by
      cases st with
      | none =>
        obtain rfl : st1 = none := m1.1
        obtain rfl : st2 = none := m2.1
        obtain rfl : st3 = none := m3
        rfl
      | some bs =>
        simp only [Option.bind_some, skT] at m1 ⊢
        cases e1 : rdV bs with
        | none =>
          have x : rdVi bs = none := by simp [rdVi, e1]
          rw [x] at m1
          obtain rfl : st1 = none := m1.1
          obtain rfl : st2 = none := m2.1
          obtain rfl : st3 = none := m3
          rfl
        | some x1 =>
          obtain ⟨kn', r⟩ := x1
          have x : rdVi bs = some ((kn' : Int), r) := by simp [rdVi, e1]
          rw [x] at m1
          obtain ⟨rfl, _⟩ := m1
          simp only [Option.bind_some] at m2 ⊢
          cases e2 : rdV r with
          | none =>
            have x : rdVi r = none := by simp [rdVi, e2]
            rw [x] at m2
            obtain rfl : st2 = none := m2.1
            obtain rfl : st3 = none := m3
            rfl
          | some x2 =>
            obtain ⟨ln', r2⟩ := x2
            have x : rdVi r = some ((ln' : Int), r2) := by simp [rdVi, e2]
            rw [x] at m2
            obtain ⟨rfl, e⟩ := m2
            obtain rfl : ln = ln' := by omega
            simp only [Option.bind_some, rdS_nat] at m3 ⊢
            cases e3 : cut ln r2 with
            | none =>
              rw [e3] at m3
              obtain rfl : st3 = none := m3
              rfl
            | some x3 =>
              obtain ⟨hd', r3⟩ := x3
              rw [e3] at m3
              obtain ⟨rfl, _⟩ := m3
              rfl
    rw [e]; exact q4
def frG (rb b : Nat) (n : Int) : List AV := [.ip tI rb 0, .t [], .p b 0, .p (b + 1) 0, .i .u32 n, .t [], .t [], .ip tI rb 0, .i .u32 n, .t [], .t [], .t [], .t [], .t [], .t [], .t [], .t [], .t [], .t [], .t [], .t [], .t [], .t [], .t []]
theorem frG_tfg (rb b : Nat) (n : Int) : TFG rb b (b + 1) n (frG rb b n) := ⟨_, _, _, _, _, _, _, _, _, _, _, _, _, _, _, _, _, _, _, _, rfl⟩
theorem tagsG_walk {rb n : Nat} {H H3 H4 : Heap} {fr' : List AV} {w v0 : AV} (c : CA P NS 70 [.p rb 0] (H ++ [Blk.cells 49 .vr [.m0]] ++ [Blk.cells 49 .vr [.m0]]) (.i .u32 (n : Int), H3))
    (hL : RU P NS (.loop bodyG) (frG rb H.length n) H3 (.exit 0, fr', H4)) (hf : TFG rb H.length (H.length + 1) 0 fr')
    (h1 : H4[H.length + 1]? = some (.cells 49 .vr [w])) (h2 : H4[H.length]? = some (.cells 49 .vr [v0])) (ho : w.one = true) :
    CA P NS 13 [.ip tI rb 0] H (.g [w], H4.set H.length (.cells 49 .vr [w])) := by
  have mU := metU
  have z0 : zeroA P 49 = some (.g [.m0]) := by kernel_rfl
  have l0 := ldT h1
  have s0 := stT h2 ho
  have hlt := (List.getElem?_eq_some_iff.1 h2).1
  have l1 : loadA P (H4.set H.length (.cells 49 .vr [w])) 49 (.p H.length 0) = some (.g [w]) := ldT (by rw [List.getElem?_set_self hlt])
  have hl1 : (H ++ [Blk.cells 49 .vr [.m0]]).length = H.length + 1 := by simp
  have a1 : opA P (.alloc 49) [.ip tI rb 0, .t [], .p H.length 0, .t [], .t [], .t [], .t [], .t [], .t [], .t [], .t [], .t [], .t [], .t [], .t [], .t [], .t [], .t [], .t [], .t [], .t [], .t [], .t [], .t []] (H ++ [Blk.cells 49 .vr [.m0]]) = some (.p (H.length + 1) 0, H ++ [Blk.cells 49 .vr [.m0]] ++ [Blk.cells 49 .vr [.m0]]) := by
    rw [op_alloc z0 rfl, hl1]; rfl
  obtain ⟨x1, x5, x6, x7, x8, x9, x10, x11, x12, x13, x14, x15, x16, x17, x18, x19, x20, x21, x22, x23, rfl⟩ := hf
  unfold frG at hL
  generalize ((n : Nat) : Int) = nn at c hL
  refine CA.go (fn := Try.f13) (vs := [.g [w]]) (by kernel_rfl) rfl (.inr rfl) ?_
  apply Exists.intro
  apply And.intro
  · dsimp only [bodyG, Try.f13, Option.getD_some, flatT, loopT, List.cons_append, List.nil_append] at hL ⊢
    dsimp only [List.length_cons, List.length_nil, List.cons_append, List.nil_append, Nat.reduceSub, Nat.reduceAdd, List.replicate]
    refine RU.seq RU.rg ?_
    (apply RU.seq; focus (apply RU.region; refine OS.st rfl rfl ?_ a1; dsimp only [AV.cells, putA, List.set_cons_zero, List.set_cons_succ]; exact OS.nil))
    (apply RU.seq; focus (refine RU.seq RU.rg ?_; apply RU.block0; exact hL))
    refine RU.seq RU.rg ?_
    exact RU.ret
  · simp [resultsA, l1]
theorem rdG {A : Nat → Prop} {H : Heap} {rb : Nat} {nn : Bool} {st : Option B} (R : Room A H rb) (h : RdAt A tR H rb nn st) :
    ∃ w H' ts, CA P NS 13 [.ip tI rb 0] H (.g [w], H') ∧ w.one = true ∧ Keep A H H' ∧ TagRep A H' (.t ts) (.g [w]) ∧ ts.length ≤ 4294967296 ∧ RdAt A tR H' rb true (st.bind skipT) := by
  have hrb := rdAt_lt h
  let A1 : Nat → Prop := fun i => A i ∧ i ≠ H.length ∧ i ≠ H.length + 1
  let H1 : Heap := H ++ [Blk.cells 49 .vr [.m0]] ++ [Blk.cells 49 .vr [.m0]]
  have hH1 : ∀ i b, H[i]? = some b → H1[i]? = some b := fun i b x => by
    have := (List.getElem?_eq_some_iff.1 x).1
    show (H ++ _ ++ _)[i]? = _
    rw [List.getElem?_append_left (by simp; omega), List.getElem?_append_left this]; exact x
  have hlen : H1.length = H.length + 2 := by simp [H1]
  have k1 : KT A H A1 H1 := ⟨by omega, fun i b a x => by
    have := (List.getElem?_eq_some_iff.1 x).1
    exact ⟨⟨a, by omega, by omega⟩, hH1 i b x⟩⟩
  have R1 : Room A1 H1 rb := R.kt k1 (fun a => R.no a.1) (fun i hi => ⟨R.new i (by omega), by omega, by omega⟩)
  have h1 : RdAt A1 tR H1 rb nn st := rdAt_kt h k1 (by
    show (H ++ _ ++ _)[rb]? = _
    rw [List.getElem?_append_left (by simp; omega), List.getElem?_append_left hrb])
  obtain ⟨k, H3, st3, c, h3, le3, k3, m3⟩ := num_both rd_uvarint R1 h1
  obtain ⟨n, rfl, hn⟩ : ∃ n : Nat, k = (n : Int) ∧ n < 4294967296 := by
    cases hx : st.bind rdVi with
    | none => rw [hx] at m3; exact ⟨0, m3.2, by omega⟩
    | some x =>
      rw [hx] at m3
      obtain ⟨v, r⟩ := x
      cases st with
      | none => cases hx
      | some b1 =>
        simp only [Option.bind_some, rdVi, Option.map_eq_some_iff] at hx
        obtain ⟨⟨q, r'⟩, hq, he⟩ := hx
        simp at he
        exact ⟨q, by rw [m3.2, ← he.1], rdV_lt hq⟩
  have K3 : Keep A1 H1 H3 := ⟨le3, fun i b a x => k3 i b (fun e => R1.no (e ▸ a)) x⟩
  have R3 := R1.keep K3
  have e1 : H1[H.length + 1]? = some (.cells 49 .vr [.m0]) := by
    show (H ++ _ ++ _)[H.length + 1]? = _
    rw [List.getElem?_append_right (by simp)]; simp
  have e0 : H1[H.length]? = some (.cells 49 .vr [.m0]) := by
    show (H ++ _ ++ _)[H.length]? = _
    rw [List.getElem?_append_left (by simp), List.getElem?_append_right (Nat.le_refl _)]; simp
  have t3 : TB (H.length + 2) H3 (H.length + 1) [] := .inl ⟨rfl, k3 _ _ (by omega) e1⟩
  obtain ⟨fr', H4, hr, hf', le4, k4, es', ts', ht4, b1, b2, b3, m4⟩ := tagG_loop (A := A1) (b2 := H.length) (n0 := H.length + 2) (by omega) (by omega) (fun a => a.2.2 rfl) n H3 st3 [] [] _ hn R3 h3 t3 ⟨[], .nil, rfl, fun j k v kk bs h => by cases h⟩ trivial (by omega) (frG_tfg rb H.length n)
  have e4 : H4[H.length]? = some (.cells 49 .vr [.m0]) := k4 _ _ (by omega) (by omega) (by omega) (k3 _ _ (by omega) e0)
  obtain ⟨w, hw, hwo, hwc⟩ : ∃ w, H4[H.length + 1]? = some (.cells 49 .vr [w]) ∧ w.one = true ∧ ((es' = [] ∧ w = .m0) ∨ ∃ m, w = .mp m ∧ H.length + 2 ≤ m ∧ H4[m]? = some (.map .u32 es')) := by
    rcases ht4 with ⟨rfl, h⟩ | ⟨m, h, hm, hne, hb⟩
    · exact ⟨_, h, rfl, .inl ⟨rfl, rfl⟩⟩
    · exact ⟨_, h, rfl, .inr ⟨m, rfl, hm, hb⟩⟩
  refine ⟨w, _, ts', tagsG_walk c hr hf' hw e4 hwo, hwo, ⟨by simp; omega, fun i b a x => ?_⟩, ?_, by simp at b3; omega, ?_⟩
  · have hi := (List.getElem?_eq_some_iff.1 x).1
    have hne : i ≠ rb := fun e => R.no (e ▸ a)
    rw [List.getElem?_set_ne (by omega)]
    exact k4 _ _ hne (by omega) (by omega) (k3 _ _ hne (hH1 _ _ x))
  · have kk : KT A1 H4 A (H4.set H.length (.cells 49 .vr [w])) := ⟨by simp, fun i b a x => ⟨a.1, by
      rw [List.getElem?_set_ne (Ne.symm a.2.1)]; exact x⟩⟩
    refine ⟨ts', rfl, b2, ?_⟩
    rcases hwc with ⟨rfl, rfl⟩ | ⟨m, rfl, hm, hb⟩
    · refine .inl ⟨?_, rfl⟩
      obtain ⟨es2, p1, p2, _⟩ := b1
      have q1 := p1.length_eq
      have q2 := congrArg List.length p2
      rw [List.length_map, List.length_map, q1] at q2
      exact List.eq_nil_of_length_eq_zero q2.symm
    · obtain ⟨es2, p1, p2, p3⟩ := b1
      refine .inr ⟨m, es', rfl, ?_, ?_, es2, p1, p2, fun j k v kk' bs q1 q2 => BytesAt.kt (p3 j k v kk' bs q1 q2) kk⟩
      · exact R.new m (by omega)
      · rw [List.getElem?_set_ne (by omega)]; exact hb
  · have kk : KT A1 H4 A (H4.set H.length (.cells 49 .vr [w])) := ⟨by simp, fun i b a x => ⟨a.1, by
      rw [List.getElem?_set_ne (Ne.symm a.2.1)]; exact x⟩⟩
    have krb : (H4.set H.length (.cells 49 .vr [w]))[rb]? = H4[rb]? := by rw [List.getElem?_set_ne (by omega)]
    have e : st.bind skipT = st3.bind (skT n) := by
      cases st with
      | none =>
        obtain rfl : st3 = none := m3.1
        rfl
      | some bs =>
        simp only [Option.bind_some, skipT] at m3 ⊢
        cases e1 : rdV bs with
        | none =>
          have x : rdVi bs = none := by simp [rdVi, e1]
          rw [x] at m3
          obtain rfl : st3 = none := m3.1
          rfl
        | some x1 =>
          obtain ⟨kn, r⟩ := x1
          have x : rdVi bs = some ((kn : Int), r) := by simp [rdVi, e1]
          rw [x] at m3
          obtain ⟨rfl, e⟩ := m3
          obtain rfl : n = kn := by omega
          rfl
    rw [e]
    exact rdAt_kt m4 kk krb
noncomputable def bodyK : Code := loopT (flatT (Try.f16.body.getD .skip))
def KFR (rb : Nat) (n : Int) (fr : List AV) : Prop := ∃ x1 x3 x4 x5 x6 x7 x8 x9 x10 x11 x12 x13 x14 x15 x16 x17 x18 : AV, fr = [.ip tI rb 0, x1, .i .u32 n, x3, x4, x5, x6, x7, x8, x9, x10, x11, x12, x13, x14, x15, x16, x17, x18]
theorem skip_out {rb : Nat} {fr : List AV} {H : Heap} (h : KFR rb 0 fr) : ∃ fr', RU P NS bodyK fr H (.exit 0, fr', H) ∧ KFR rb 0 fr' := by
  obtain ⟨x1, x3, x4, x5, x6, x7, x8, x9, x10, x11, x12, x13, x14, x15, x16, x17, x18, rfl⟩ := h
  have g : binA P .gtr 37 true (.i .u32 0) (.i .u32 0) = some (.b false) := by kernel_rfl
  apply Exists.intro
  apply And.intro
  · dsimp only [bodyK, Try.f16, Option.getD_some, flatT, loopT, List.cons_append, List.nil_append]
    (apply RU.seqx; rotate_left; focus (simp))
    refine RU.seq RU.rg ?_
    apply RU.condF rfl
    exact RU.exit
  · exact ⟨_, _, _, _, _, _, _, _, _, _, _, _, _, _, _, _, _, rfl⟩
theorem skip_step {rb n : Nat} {fr : List AV} {H H1 H2 H3 : Heap} {k : Int} {l : Nat} {av : AV} (h : KFR rb ((n + 1 : Nat) : Int) fr) (hn : n + 1 < 4294967296) (hl : l < 4294967296)
    (c1 : CA P NS 70 [.p rb 0] H (.i .u32 k, H1)) (c2 : CA P NS 70 [.p rb 0] H1 (.i .u32 (l : Int), H2))
    (c3 : CA P NS 68 [.p rb 0, .i .i64 (l : Int)] H2 (av, H3)) :
    ∃ fr', RU P NS bodyK fr H (.normal, fr', H3) ∧ KFR rb n fr' := by
  obtain ⟨x1, x3, x4, x5, x6, x7, x8, x9, x10, x11, x12, x13, x14, x15, x16, x17, x18, rfl⟩ := h
  have g := gtr32 (n + 1) true
  have mU := metU
  have mS := metS
  rw [decide_eq_true (by omega)] at g
  have s := sub32 n hn true
  have v := conv32_64 l hl
  generalize ((n + 1 : Nat) : Int) = nn at g s
  generalize ((l : Nat) : Int) = ll at c2 c3 v
  apply Exists.intro
  apply And.intro
  · dsimp only [bodyK, Try.f16, Option.getD_some, flatT, loopT, List.cons_append, List.nil_append]
    refine RU.seq (RU.seq RU.rg (RU.condT rfl RU.skip)) ?_
    (apply RU.seq; focus (apply RU.blockN; refine RU.seq RU.rg ?_; exact RU.rg))
    exact RU.rg
  · exact ⟨_, _, _, _, _, _, _, _, _, _, _, _, _, _, _, _, _, rfl⟩
theorem natQ {q : Int} {s s' : Option B} (m : match s.bind rdVi with | none => s' = none ∧ q = 0 | some (v, r) => s' = some r ∧ q = v) : ∃ qn : Nat, q = (qn : Int) ∧ qn < 4294967296 := by
  cases hx : s.bind rdVi with
  | none => rw [hx] at m; exact ⟨0, m.2, by omega⟩
  | some x =>
    rw [hx] at m
    obtain ⟨v, r⟩ := x
    cases s with
    | none => cases hx
    | some b1 =>
      simp only [Option.bind_some, rdVi, Option.map_eq_some_iff] at hx
      obtain ⟨⟨q', r'⟩, hq, he⟩ := hx
      simp at he
      exact ⟨q', by rw [m.2, ← he.1], rdV_lt hq⟩
theorem stepQ {st st1 st2 st3 : Option B} {kn ln n : Nat} {R3 : B → Prop} (m1 : match st.bind rdVi with | none => st1 = none ∧ ((kn : Nat) : Int) = 0 | some (v, r) => st1 = some r ∧ ((kn : Nat) : Int) = v)
    (m2 : match st1.bind rdVi with | none => st2 = none ∧ ((ln : Nat) : Int) = 0 | some (v, r) => st2 = some r ∧ ((ln : Nat) : Int) = v) (m3 : match st2.bind (rdS (ln : Int)) with | none => st3 = none | some (v, r) => st3 = some r ∧ R3 v) : st.bind (skT (n + 1)) = st3.bind (skT n) := by
  cases st with
  | none =>
    obtain rfl : st1 = none := m1.1
    obtain rfl : st2 = none := m2.1
    obtain rfl : st3 = none := m3
    rfl
  | some bs =>
    simp only [Option.bind_some, skT] at m1 ⊢
    cases e1 : rdV bs with
    | none =>
      have x : rdVi bs = none := by simp [rdVi, e1]
      rw [x] at m1
      obtain rfl : st1 = none := m1.1
      obtain rfl : st2 = none := m2.1
      obtain rfl : st3 = none := m3
      rfl
    | some x1 =>
      obtain ⟨kn', r⟩ := x1
      have x : rdVi bs = some ((kn' : Int), r) := by simp [rdVi, e1]
      rw [x] at m1
      obtain ⟨rfl, _⟩ := m1
      simp only [Option.bind_some] at m2 ⊢
      cases e2 : rdV r with
      | none =>
        have x : rdVi r = none := by simp [rdVi, e2]
        rw [x] at m2
        obtain rfl : st2 = none := m2.1
        obtain rfl : st3 = none := m3
        rfl
      | some x2 =>
        obtain ⟨ln', r2⟩ := x2
        have x : rdVi r = some ((ln' : Int), r2) := by simp [rdVi, e2]
        rw [x] at m2
        obtain ⟨rfl, e⟩ := m2
        obtain rfl : ln = ln' := by omega
        simp only [Option.bind_some, rdS_nat] at m3 ⊢
        cases e3 : cut ln r2 with
        | none =>
          rw [e3] at m3
          obtain rfl : st3 = none := m3
          rfl
        | some x3 =>
          obtain ⟨hd', r3⟩ := x3
          rw [e3] at m3
          obtain ⟨rfl, _⟩ := m3
          rfl
theorem skip_loop {A : Nat → Prop} {rb : Nat} : ∀ (n : Nat) (H : Heap) (st : Option B) (fr : List AV), n < 4294967296 → Room A H rb → RdAt A tR H rb true st → KFR rb n fr →
    ∃ fr' H', RU P NS (.loop bodyK) fr H (.exit 0, fr', H') ∧ KFR rb 0 fr' ∧ Keep A H H' ∧ RdAt A tR H' rb true (st.bind (skT n))
  | 0, H, st, fr, hn, R, h, hf => by
    obtain ⟨fr', r, hf'⟩ := skip_out hf
    refine ⟨fr', H, RU.loopx r (by simp), hf', Keep.refl _ _, ?_⟩
    cases st with
    | none => exact h
    | some bs => exact h
  | n + 1, H, st, fr, hn, R, h, hf => by
    obtain ⟨k, H1, st1, c1, h1, le1, k1, m1⟩ := num_both rd_uvarint R h
    have K1 : Keep A H H1 := ⟨le1, fun i b a x => k1 i b (fun e => R.no (e ▸ a)) x⟩
    have R1 := R.keep K1
    obtain ⟨l, H2, st2, c2, h2, le2, k2, m2⟩ := num_both rd_uvarint R1 h1
    have K2 : Keep A H1 H2 := ⟨le2, fun i b a x => k2 i b (fun e => R.no (e ▸ a)) x⟩
    have R2 := R1.keep K2
    obtain ⟨kn, rfl, hkn⟩ := natQ m1
    obtain ⟨ln, rfl, hln⟩ := natQ m2
    obtain ⟨av, H3, st3, c3, av1, h3, le3, k3, m3⟩ := span_both (l := (ln : Int)) R2 h2
    have K3 : Keep A H2 H3 := ⟨le3, fun i b a x => k3 i b (fun e => R.no (e ▸ a)) x⟩
    obtain ⟨fr1, r1, hf1⟩ := skip_step hf hn hln c1 c2 c3
    obtain ⟨fr', H', r, hf', kp, q⟩ := skip_loop n H3 st3 fr1 (by omega) (R2.keep K3) h3 hf1
    refine ⟨fr', H', RU.loop r1 r, hf', ((K1.trans K2).trans K3).trans kp, ?_⟩
    rw [stepQ m1 m2 m3]
    exact q
theorem skG {A : Nat → Prop} {H : Heap} {rb : Nat} {nn : Bool} {st : Option B} (R : Room A H rb) (h : RdAt A tR H rb nn st) :
    ∃ H', CA P NS 16 [.ip tI rb 0] H (.t [], H') ∧ Keep A H H' ∧ RdAt A tR H' rb true (st.bind skipT) := by
  obtain ⟨k, H1, st1, c1, h1, le1, k1, m1⟩ := num_both rd_uvarint R h
  have K1 : Keep A H H1 := ⟨le1, fun i b a x => k1 i b (fun e => R.no (e ▸ a)) x⟩
  obtain ⟨n, rfl, hn⟩ := natQ m1
  have mU := metU
  have hfr : KFR rb (n : Int) [.ip tI rb 0, .t [], .i .u32 (n : Int), .t [], .t [], .ip tI rb 0, .i .u32 (n : Int), .t [], .t [], .t [], .t [], .t [], .t [], .t [], .t [], .t [], .t [], .t [], .t []] := ⟨_, _, _, _, _, _, _, _, _, _, _, _, _, _, _, _, _, rfl⟩
  obtain ⟨fr', H', r, hf', kp, q⟩ := skip_loop n H1 st1 _ hn (R.keep K1) h1 hfr
  refine ⟨H', ?_, K1.trans kp, ?_⟩
  · generalize ((n : Nat) : Int) = nn at c1 r
    refine CA.go (fn := Try.f16) (vs := []) (by kernel_rfl) rfl (.inl rfl) ?_
    apply Exists.intro
    apply And.intro
    · dsimp only [bodyK, Try.f16, Option.getD_some, flatT, loopT, List.cons_append, List.nil_append] at r ⊢
      dsimp only [List.length_cons, List.length_nil, List.cons_append, List.nil_append, Nat.reduceSub, Nat.reduceAdd, List.replicate]
      refine RU.seq RU.rg ?_
      apply RU.block0
      exact r
    · rfl
  · have e : st.bind skipT = st1.bind (skT n) := by
      cases st with
      | none =>
        obtain rfl : st1 = none := m1.1
        rfl
      | some bs =>
        simp only [Option.bind_some, skipT] at m1 ⊢
        cases e1 : rdV bs with
        | none =>
          have x : rdVi bs = none := by simp [rdVi, e1]
          rw [x] at m1
          obtain rfl : st1 = none := m1.1
          rfl
        | some x1 =>
          obtain ⟨kn, r⟩ := x1
          have x : rdVi bs = some ((kn : Int), r) := by simp [rdVi, e1]
          rw [x] at m1
          obtain ⟨rfl, e⟩ := m1
          obtain rfl : n = kn := by omega
          rfl
    rw [e]; exact q
end Go.Proofs.Ytdoaobkfbjegpaa.Rd

namespace Go.Proofs.Ytdoaobkfbjegpaa.Rd
open Go Go.Proofs.Ytdoaobkfbjegpaa.Ax Go.Proofs.Ytdoaobkfbjegpaa.Wire
set_option maxRecDepth 100000
set_option maxHeartbeats 2000000
theorem ifI (b : Nat) : ifaceA P 44 (.p b 0) = some (.ip 44 b 0) := by kernel_rfl
theorem own_x {H : Heap} {data : AV} {bs : B} (hd : DatAt H data bs) (hl : bs.length ≤ 1099511627776) :
    ∃ cv H1, appendA P H 28 false .s0 data = some (cv, H1) ∧ Kp H H1 ∧ BytesAt (Lt H1) H1 cv bs := by
  have hf := hd.first
  unfold appendA
  simp only [bty.elem, bty.size, bty.bytes, bty.zero]
  rw [if_pos ⟨by omega, rfl, rfl, by simp⟩]
  simp only [hf]
  by_cases h0 : bs.length = 0
  · rw [if_pos h0]
    obtain rfl : bs = [] := List.eq_nil_of_length_eq_zero h0
    exact ⟨_, _, rfl, Kp.refl _, .z⟩
  · rw [if_neg h0, if_pos ⟨by omega, by omega⟩]
    simp only [newBlk, u8s_one, if_true, Option.map_some]
    refine ⟨_, _, rfl, Kp.app _ _, ?_⟩
    exact .s (show H.length < _ by simp) (by rw [List.getElem?_concat_length]) (by omega) (by rw [List.drop_zero, ← u8s_length bs, List.take_length])
theorem reader_x {H : Heap} {cv : AV} {bs : B} (hc : BytesAt (Lt H) H cv bs) : ∃ H2, BoxA H tR (.g [cv, .b false]) (.p H.length 0) H2 ∧ Kp H H2 ∧ H2.length = H.length + 1 ∧ Room (fun i => i ≠ H.length) H2 H.length ∧ RdAt (fun i => i ≠ H.length) tR H2 H.length false (some bs) := by
  have h1 := (BytesAt.one' hc).2
  refine ⟨H ++ [.cells tR .vr [cv, .b false]], ⟨rfl, rfl, by have : (AV.b false).one = true := rfl; simp [AV.cells, h1, this]⟩, Kp.app _ _, by simp, ?_, ⟨cv, by simp, ?_, fun h => by cases h⟩⟩
  · exact { no := by simp, new := fun i hi => by simp at hi; omega }
  · exact BytesAt.kt hc ⟨by simp, fun i b hi hx => ⟨by have : i < H.length := hi; omega, by rw [List.getElem?_append_left hi]; exact hx⟩⟩
theorem impl_read {H : Heap} {data : AV} {bs : B} (hd : DatAt H data bs) (hl : bs.length ≤ 1099511627776) :
    ∃ v H', CA P NS 10 [data] H (.t [v, .i .i64 (((skipT bs).getD []).length : Nat), .b (skipT bs).isSome], H') ∧ Kp H H' := by
  obtain ⟨cv, H1, hap, k1, hcv⟩ := own_x hd hl
  obtain ⟨H2, hbx, k2, hl2, R2, r2⟩ := reader_x hcv
  have hbu := build_rd hcv
  obtain ⟨w, H3, ts, cr, hw, kp3, htr, htl, r3⟩ := rdG R2 r2
  have r3 : RdAt (fun i => i ≠ H1.length) tR H3 H1.length true (skipT bs) := r3
  have k3 : Kp H1 H3 := ⟨by have := kp3.1; omega, fun i hi => by
    have hx : H1[i]? = some H1[i] := by simp [hi]
    have := kp3.2 i _ (show i ≠ H1.length by omega) (k2.at_ hx)
    rw [this, hx]⟩
  have hz : zeroA P 49 = some (.g [.m0]) := by kernel_rfl
  obtain ⟨tb, H3a, H4, hal, hst, k4, v4, ht4, k4a, _, _⟩ := alloc_new (H := H3) (cs := [w]) hz rfl sizeT rfl rfl (by simp [hw])
  obtain ⟨src, bad, hrb3, hln3, hbad⟩ := RdAt.cell r3
  have hbad' : bad = !(skipT bs).isSome := by
    cases hs : skipT bs with
    | none =>
      rw [hs] at r3
      have : H3[H1.length]? = some (.cells tR .vr [.s0, .b true]) := r3
      rw [this] at hrb3; cases hrb3; rfl
    | some r =>
      rw [hs] at r3
      obtain ⟨src', h1, _⟩ := r3
      rw [h1] at hrb3; cases hrb3; rfl
  have hrb4 := k4.at_ hrb3
  have htr4 : TagRep (Lt H4) H4 (.t ts) (.g [w]) := TagRep.kt htr ⟨k4.1, fun i b hi hx => ⟨show i < H4.length from (List.getElem?_eq_some_iff.1 (k4.at_ hx)).1, k4.at_ hx⟩⟩
  have hvl : ∀ t ∈ ts, t.2.length ≤ 1099511627776 := by
    obtain ⟨ts', e, hok, _⟩ := htr4
    cases e
    have key : ∀ (l : List (Nat × B)) (m : Nat), okT m l → ∀ t ∈ l, t.2.length ≤ 1099511627776 := by
      intro l
      induction l with
      | nil => intro m _ t ht; cases ht
      | cons x r ih =>
        intro m h t ht
        obtain ⟨_, _, h3, h4⟩ := h
        rcases List.mem_cons.1 ht with rfl | ht
        · omega
        · exact ih _ h4 t ht
    exact key ts 0 hok
  obtain ⟨v, H5, ctg, k5⟩ := tagged_x htr4 htl hvl
  have r5 : RdAt (fun i => i ≠ H1.length) tR H5 H1.length true (skipT bs) := rdAt_kc r3 (Keep.kc ⟨by have := k4.1; have := k5.1; omega, fun i b _ hx => k5.at_ (k4.at_ hx)⟩) (fun b x => k5.at_ (k4.at_ x))
  have cok := rdok.run _ _ _ _ _ r5
  have hif := ifI H1.length
  have hfa : fieldAddrA P 46 (.p H1.length 0) 0 = some (.p H1.length 0) := fr0 _ 0
  have hns := hd.noS
  have key : ∃ x H', CA P NS 10 [data] H (x, H') ∧ (x = .t [v, .i .i64 (((skipT bs).getD []).length : Nat), .b (skipT bs).isSome] ∧ Kp H H') := by
    refine CA.wp (fn := Try.f10) (R := fun x H' => x = .t [v, .i .i64 (((skipT bs).getD []).length : Nat), .b (skipT bs).isSome] ∧ Kp H H') (by kernel_rfl) rfl ?_
    have hcr := cr
    obtain ⟨n1, ctg⟩ := ctg
    obtain ⟨n2, cok⟩ := cok
    have hR : H4[H1.length]? = some (.cells tR .vr [src, .b bad]) ∧ H4[tb]? = some (.cells 49 .vr [w]) := ⟨hrb4, v4⟩
    have hR5 : H5[H1.length]? = some (.cells tR .vr [src, .b bad]) ∧ H5[tb]? = some (.cells 49 .vr [w]) := ⟨k5.at_ hrb4, k5.at_ v4⟩
    have k05 : Kp H H5 := ((k1.trans k3).trans k4).trans k5
    generalize ((((skipT bs).getD []).length : Nat) : Int) = nl at hln3 ⊢
    generalize (skipT bs).isSome = ob at cok ⊢
    dsimp only [Try.f10]
    dsimp only [List.length_cons, List.length_nil, List.cons_append, List.nil_append, Nat.reduceSub, Nat.reduceAdd, List.replicate]
    ((repeat with_reducible refine WP.seqs ?_); refine WP.rg ?_)
    ((repeat with_reducible refine WP.seqs ?_); refine WP.rg ?_)
    ((repeat with_reducible refine WP.seqs ?_); refine WP.rg ?_)
    refine WP.rS (fun H' => H'[H1.length]? = some (.cells tR .vr [src, .b bad]) ∧ H'[tb]? = some (.cells 49 .vr [w])) (n0 := max n1 n2) hR ?_
    apply Exists.intro; apply Exists.intro; apply And.intro
    · intro n hn
      have ctg := ctg n (by omega)
      have cok := cok n (by omega)
      (refine OpsP.pu rfl rfl (fun H2 hk => by have hld := ldw hk.2 aggT sizeT rfl; exact ⟨_, opy⟩) ?_; dsimp only [AV.cells, putA, List.set_cons_zero, List.set_cons_succ])
      (refine OpsP.cl rfl rfl ?_; dsimp only [AV.cells, putA, List.set_cons_zero, List.set_cons_succ])
      (refine OpsP.pu rfl rfl (fun H2 hk => by exact ⟨_, opy⟩) ?_; dsimp only [AV.cells, putA, List.set_cons_zero, List.set_cons_succ])
      (refine OpsP.pu rfl rfl (fun H2 hk => by exact ⟨_, opy⟩) ?_; dsimp only [AV.cells, putA, List.set_cons_zero, List.set_cons_succ])
      (refine OpsP.pu rfl rfl (fun H2 hk => by exact ⟨_, opy⟩) ?_; dsimp only [AV.cells, putA, List.set_cons_zero, List.set_cons_succ])
      (refine OpsP.pu rfl rfl (fun H2 hk => by have hld := rd_src hk.1; exact ⟨_, opy⟩) ?_; dsimp only [AV.cells, putA, List.set_cons_zero, List.set_cons_succ])
      (refine OpsP.pu rfl rfl (fun H2 hk => by exact ⟨_, opy⟩) ?_; dsimp only [AV.cells, putA, List.set_cons_zero, List.set_cons_succ])
      (refine OpsP.pu rfl rfl (fun H2 hk => by exact ⟨_, opy⟩) ?_; dsimp only [AV.cells, putA, List.set_cons_zero, List.set_cons_succ])
      (refine OpsP.cl rfl rfl ?_; dsimp only [AV.cells, putA, List.set_cons_zero, List.set_cons_succ])
      (refine OpsP.pu rfl rfl (fun H2 hk => by exact ⟨_, opy⟩) ?_; dsimp only [AV.cells, putA, List.set_cons_zero, List.set_cons_succ])
      (refine OpsP.pu rfl rfl (fun H2 hk => by exact ⟨_, opy⟩) ?_; dsimp only [AV.cells, putA, List.set_cons_zero, List.set_cons_succ])
      (refine OpsP.pu rfl rfl (fun H2 hk => by exact ⟨_, opy⟩) ?_; dsimp only [AV.cells, putA, List.set_cons_zero, List.set_cons_succ])
      exact OpsP.nil
    refine WP.ret ?_; repeat (first | with_reducible refine Sq.n ?_ | with_reducible refine Sq.ret ?_ | with_reducible refine Sq.exit ?_ | with_reducible refine Bk.n ?_ | with_reducible refine Bk.ret ?_ | with_reducible refine Bk.exit ?_ | with_reducible refine Bk.ex' (by decide) ?_ | with_reducible refine Lp.ret ?_ | with_reducible refine Lp.exit ?_ | with_reducible refine Lx.exit ?_)
    exact Fe.ret rfl ⟨rfl, k05⟩
  obtain ⟨x, H', c, rfl, k⟩ := key
  exact ⟨_, _, c, k⟩
theorem impl_skip {H : Heap} {data : AV} {bs : B} (hd : DatAt H data bs) (hl : bs.length ≤ 1099511627776) :
    ∃ H', CA P NS 11 [data] H (.t [.i .i64 (((skipT bs).getD []).length : Nat), .b (skipT bs).isSome], H') ∧ Kp H H' := by
  obtain ⟨cv, H1, hap, k1, hcv⟩ := own_x hd hl
  obtain ⟨H2, hbx, k2, hl2, R2, r2⟩ := reader_x hcv
  have hbu := build_rd hcv
  obtain ⟨H3, cr, kp3, r3⟩ := skG R2 r2
  have r3 : RdAt (fun i => i ≠ H1.length) tR H3 H1.length true (skipT bs) := r3
  have k3 : Kp H1 H3 := ⟨by have := kp3.1; omega, fun i hi => by
    have hx : H1[i]? = some H1[i] := by simp [hi]
    have := kp3.2 i _ (show i ≠ H1.length by omega) (k2.at_ hx)
    rw [this, hx]⟩
  obtain ⟨src, bad, hrb3, hln3, hbad⟩ := RdAt.cell r3
  have cok := rdok.run _ _ _ _ _ r3
  have hif := ifI H1.length
  have hfa : fieldAddrA P 46 (.p H1.length 0) 0 = some (.p H1.length 0) := fr0 _ 0
  have hns := hd.noS
  have key : ∃ x H', CA P NS 11 [data] H (x, H') ∧ (x = .t [.i .i64 (((skipT bs).getD []).length : Nat), .b (skipT bs).isSome] ∧ Kp H H') := by
    refine CA.wp (fn := Try.f11) (R := fun x H' => x = .t [.i .i64 (((skipT bs).getD []).length : Nat), .b (skipT bs).isSome] ∧ Kp H H') (by kernel_rfl) rfl ?_
    have k03 : Kp H H3 := k1.trans k3
    obtain ⟨n2, cok⟩ := cok
    generalize ((((skipT bs).getD []).length : Nat) : Int) = nl at hln3 ⊢
    generalize (skipT bs).isSome = ob at cok ⊢
    dsimp only [Try.f11]
    dsimp only [List.length_cons, List.length_nil, List.cons_append, List.nil_append, Nat.reduceSub, Nat.reduceAdd, List.replicate]
    ((repeat with_reducible refine WP.seqs ?_); refine WP.rg ?_)
    ((repeat with_reducible refine WP.seqs ?_); refine WP.rg ?_)
    ((repeat with_reducible refine WP.seqs ?_); refine WP.rg ?_)
    refine WP.rS (fun H' => H'[H1.length]? = some (.cells tR .vr [src, .b bad])) (n0 := n2) hrb3 ?_
    apply Exists.intro; apply Exists.intro; apply And.intro
    · intro n hn
      have cok := cok n (by omega)
      (refine OpsP.pu rfl rfl (fun H2 hk => by exact ⟨_, opy⟩) ?_; dsimp only [AV.cells, putA, List.set_cons_zero, List.set_cons_succ])
      (refine OpsP.pu rfl rfl (fun H2 hk => by exact ⟨_, opy⟩) ?_; dsimp only [AV.cells, putA, List.set_cons_zero, List.set_cons_succ])
      (refine OpsP.pu rfl rfl (fun H2 hk => by exact ⟨_, opy⟩) ?_; dsimp only [AV.cells, putA, List.set_cons_zero, List.set_cons_succ])
      (refine OpsP.pu rfl rfl (fun H2 hk => by have hld := rd_src hk; exact ⟨_, opy⟩) ?_; dsimp only [AV.cells, putA, List.set_cons_zero, List.set_cons_succ])
      (refine OpsP.pu rfl rfl (fun H2 hk => by exact ⟨_, opy⟩) ?_; dsimp only [AV.cells, putA, List.set_cons_zero, List.set_cons_succ])
      (refine OpsP.pu rfl rfl (fun H2 hk => by exact ⟨_, opy⟩) ?_; dsimp only [AV.cells, putA, List.set_cons_zero, List.set_cons_succ])
      (refine OpsP.cl rfl rfl ?_; dsimp only [AV.cells, putA, List.set_cons_zero, List.set_cons_succ])
      (refine OpsP.pu rfl rfl (fun H2 hk => by exact ⟨_, opy⟩) ?_; dsimp only [AV.cells, putA, List.set_cons_zero, List.set_cons_succ])
      (refine OpsP.pu rfl rfl (fun H2 hk => by exact ⟨_, opy⟩) ?_; dsimp only [AV.cells, putA, List.set_cons_zero, List.set_cons_succ])
      exact OpsP.nil
    refine WP.ret ?_; repeat (first | with_reducible refine Sq.n ?_ | with_reducible refine Sq.ret ?_ | with_reducible refine Sq.exit ?_ | with_reducible refine Bk.n ?_ | with_reducible refine Bk.ret ?_ | with_reducible refine Bk.exit ?_ | with_reducible refine Bk.ex' (by decide) ?_ | with_reducible refine Lp.ret ?_ | with_reducible refine Lp.exit ?_ | with_reducible refine Lx.exit ?_)
    exact Fe.ret rfl ⟨rfl, k03⟩
  obtain ⟨x, H', c, rfl, k⟩ := key
  exact ⟨_, c, k⟩
end Go.Proofs.Ytdoaobkfbjegpaa.Rd

