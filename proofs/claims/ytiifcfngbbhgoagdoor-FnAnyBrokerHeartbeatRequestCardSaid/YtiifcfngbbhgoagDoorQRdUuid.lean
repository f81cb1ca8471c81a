/-
  REGIONS in whose order something is left open, where the heap does more than grow; and the sixteen octets that are read by one.
-/
import Derived.Test.YtiifcfngbbhgoagDoorQRdStr
import Derived.Test.YtiifcfngbbhgoagDoorQSxSt
set_option linter.constructorNameAsVariable false
set_option linter.unusedVariables false
set_option linter.unusedSimpArgs false
namespace Go.Proofs.YtiifcfngbbhgoagDoor.Rd
open Go Go.Proofs.YtiifcfngbbhgoagDoor.Ax Go.Proofs.YtiifcfngbbhgoagDoor.Wire
set_option maxRecDepth 100000
set_option maxHeartbeats 1000000
structure PreO (G : Heap → Heap → Prop) : Prop where
  refl : ∀ a, G a a
  trans : ∀ {a b c}, G a b → G b c → G a c
def Stab (G : Heap → Heap → Prop) (P : Program) (o : Op) : Prop := ∀ (fr : List AV) (a b : Heap) (v : AV) (H2 : Heap), G a b → opA P o fr a = some (v, H2) → ∃ H3, opA P o fr b = some (v, H3)
inductive OpsR (G : Heap → Heap → Prop) (P : Program) (call : CallA) : List Oper → List AV → Heap → List AV → Heap → Prop
  | nil (fr : List AV) (H : Heap) : OpsR G P call [] fr H fr H
  | op {o : Oper} {l : List Oper} {fr fr' : List AV} {H H1 H' : Heap} {v : AV} (hg : o.guard = none) (h : oneOp P call o.op fr H = some (v, H1)) (g : G H H1) (t : OpsR G P call l (putA fr o.dst v) H1 fr' H') : OpsR G P call (o :: l) fr H fr' H'
theorem statEs_mem : ∀ (l : List Oper) (es : List Ent) (y : Ent), y ∈ statEs l es → y.o ∈ l ∨ y ∈ es
  | [], es, y, h => .inr h
  | o :: r, es, y, h => by
    rcases statEs_mem r _ y h with h | h
    · exact .inl (List.mem_cons_of_mem _ h)
    · rcases List.mem_append.1 h with h | h
      · exact .inr h
      · simp at h; subst h; exact .inl List.mem_cons_self
def ChainR (G : Heap → Heap → Prop) (Hs : List Heap) : Prop := ∀ (i j : Nat) (a b : Heap), i ≤ j → Hs[i]? = some a → Hs[j]? = some b → G a b
theorem ChainR.one {G : Heap → Heap → Prop} (hG : PreO G) (H : Heap) : ChainR G [H] := by
  intro i j a b hij ha hb
  have h1 := (List.getElem?_eq_some_iff.1 ha).1
  have h2 := (List.getElem?_eq_some_iff.1 hb).1
  simp at h1 h2
  subst h1; subst h2
  simp at ha hb
  subst ha; subst hb
  exact hG.refl _
theorem ChainR.snoc {G : Heap → Heap → Prop} (hG : PreO G) {Hs : List Heap} (h : ChainR G Hs) {c : Nat} {H H1 : Heap} (hl : Hs.length = c + 1) (hc : Hs[c]? = some H) (g : G H H1) : ChainR G (Hs ++ [H1]) := by
  intro i j a b hij ha hb
  rw [List.getElem?_append] at ha hb
  split at hb
  · rename_i hj
    rw [if_pos (by omega)] at ha
    exact h i j a b hij ha hb
  · rename_i hj
    have hb1 : H1 = b := by
      have hlt : j - Hs.length < 1 := by have := (List.getElem?_eq_some_iff.1 hb).1; simpa using this
      have : j - Hs.length = 0 := by omega
      rw [this] at hb; simpa using hb
    subst hb1
    split at ha
    · rename_i hi
      exact hG.trans (h i c a H (by omega) ha hc) g
    · rename_i hi
      have : a = H1 := by
        have hlt : i - Hs.length < 1 := by have := (List.getElem?_eq_some_iff.1 ha).1; simpa using this
        have : i - Hs.length = 0 := by omega
        rw [this] at ha; simpa using ha.symm
      subst this
      exact hG.refl _
theorem lexA_R {G : Heap → Heap → Prop} (hG : PreO G) {P : Program} {call : CallA} {ops : Array Oper} : ∀ (l : List Oper) (fr : List AV) (H : Heap) (fr' : List AV) (H' : Heap), OpsR G P call l fr H fr' H' → ∀ (es es0 : List Ent) (Hs : List Heap), Hs.length = countEff es + 1 → Hs[countEff es]? = some H → ChainR G Hs → es.map Ent.key = es0.map Ent.key →
    (∀ e ∈ es, FltAt P Hs e) →
    ∃ es' Hs', lexA P call ops l es Hs fr H = some (es', Hs', fr', H') ∧ ChainR G Hs' ∧ es'.map Ent.key = (statEs l es0).map Ent.key ∧ (∀ e ∈ es', FltAt P Hs' e) := by
  intro l fr H fr' H' h
  induction h with
  | nil fr H => intro es es0 Hs hl hH hc hk hg; exact ⟨es, Hs, rfl, hc, hk, hg⟩
  | @op o l fr fr' H H1 H' v hgd hv g _ ih =>
    intro es es0 Hs hl hH hc hk hg
    have hops : ∀ x ∈ o.op.operands, ∀ t, x = .tmp t → t ∈ o.looksAt ops := by
      intro x hx t ht
      unfold Oper.looksAt
      refine List.mem_append_left _ (List.mem_filterMap.2 ⟨x, by simpa using hx, ?_⟩)
      rw [ht]
    have hr : oneOp P call o.op (restr (o.looksAt ops) fr) H = some (v, H1) := by rw [oneOp_restr o.op hops]; exact hv
    have hw : wantA ops (restr (o.looksAt ops) fr) o.guard = some true := by rw [hgd]; rfl
    by_cases he : isEff o.op = true
    · obtain ⟨es', Hs', h1, h2, h3, h4⟩ := ih (es ++ [⟨o, true, true, countEff es, loOf es o.after.toList, v, restr (o.looksAt ops) fr⟩]) (es0 ++ [⟨o, true, isEff o.op, countEff es0, loOf es0 o.after.toList, .u, []⟩]) (Hs ++ [H1])
        (by simp [countEff_snoc, hl]) (by simp [countEff_snoc, ← hl]) (hc.snoc hG hl hH g) (by simp [hk, Ent.key, he, key_count hk, key_lo hk]) (fun e hm hf => by
          rcases List.mem_append.1 hm with hm | hm
          · obtain ⟨k1, Hc, H2, k2, k3⟩ := hg e hm hf
            exact ⟨k1, Hc, H2, by rw [List.getElem?_append_left (List.getElem?_eq_some_iff.1 k2).1]; exact k2, k3⟩
          · simp at hm; subst hm; cases hf)
      refine ⟨es', Hs', ?_, h2, h3, h4⟩
      unfold lexA
      simp only [hw, he, if_true, hr]
      exact h1
    · have hcl : isCall o.op = false := by
        cases ho : o.op <;> simp [isCall]
        rename_i c
        obtain ⟨cl, _, _⟩ := c
        cases cl <;> simp [ho, isEff] at *
      have hr2 : opA P o.op (restr (o.looksAt ops) fr) H = some (v, H1) := by rw [← oneOp_pure (call := call) hcl]; exact hr
      have he' : isEff o.op = false := by simpa using he
      obtain rfl : H1 = H := float_heap he' hr2
      obtain ⟨es', Hs', h1, h2, h3, h4⟩ := ih (es ++ [⟨o, true, false, countEff es, loOf es o.after.toList, v, restr (o.looksAt ops) fr⟩]) (es0 ++ [⟨o, true, isEff o.op, countEff es0, loOf es0 o.after.toList, .u, []⟩]) Hs
        (by simp [countEff_snoc, hl]) (by simpa [countEff_snoc] using hH) hc (by simp [hk, Ent.key, he', key_count hk, key_lo hk]) (fun e hm hf => by
          rcases List.mem_append.1 hm with hm | hm
          · exact hg e hm hf
          · simp at hm; subst hm; exact ⟨he', _, _, hH, hr2⟩)
      refine ⟨es', Hs', ?_, h2, h3, h4⟩
      unfold lexA
      simp only [hw, he', hr2]
      exact h1
theorem draw_R {G : Heap → Heap → Prop} (hG : PreO G) {P : Program} {call : CallA} {ops : Array Oper} {H H' : Heap} {fr fr' : List AV} (hok : drawOk P ops = true) (hst : ∀ o ∈ ops.toList, isEff o.op = false → heapFree P o.op = true ∨ Stab G P o.op) (h : OpsR G P call ops.toList fr H fr' H') : drawA P call ops fr H = some (fr', H') := by
  unfold drawOk at hok
  simp only [Bool.and_eq_true] at hok
  obtain ⟨⟨⟨⟨a, b⟩, c⟩, d⟩, e⟩ := hok
  obtain ⟨es', Hs', h1, h2, h3, h4⟩ := lexA_R hG (ops := ops) _ _ _ _ _ h [] [] [H] rfl rfl (ChainR.one hG H) rfl (fun e he => by simp at he)
  have ho : ∀ x ∈ es', x.o ∈ ops.toList := fun x hx => by
    have hkx : x.key ∈ es'.map Ent.key := List.mem_map_of_mem hx
    rw [h3] at hkx
    obtain ⟨y, hy, hxy⟩ := List.mem_map.1 hkx
    have k0 : y.o = x.o := congrArg (fun z => z.1) hxy
    rw [← k0]
    exact (statEs_mem _ _ _ hy).resolve_right (fun h => by cases h)
  unfold drawA
  simp only [a, b, c, d, Bool.and_self, if_true, h1]
  rw [if_pos]
  rw [List.all_eq_true]
  rintro ⟨x, nx⟩ hx
  have hx := (List.mem_zipIdx_iff_getElem?.1 hx)
  have hx : x ∈ es' := List.mem_of_getElem? hx
  unfold effOk at e
  rw [List.all_eq_true] at e
  have hkx : x.key ∈ es'.map Ent.key := List.mem_map_of_mem hx
  rw [h3] at hkx
  obtain ⟨y, hy, hxy⟩ := List.mem_map.1 hkx
  have hy2 := e y hy
  have k0 : y.o = x.o := congrArg (fun z => z.1) hxy
  have k1 : y.eff = x.eff := congrArg (fun z => z.2.2.1) hxy
  have k2 : y.no = x.no := congrArg (fun z => z.2.2.2.1) hxy
  have k3 : y.lo = x.lo := congrArg (fun z => z.2.2.2.2) hxy
  rw [k0, k1, k2, k3] at hy2
  cases hxe : x.eff with
  | true => simp [hxe] at hy2; simp [hy2]
  | false =>
    obtain ⟨hne, Hc, H2, hno, hv⟩ := h4 x hx hxe
    simp [hxe] at hy2
    have : floatOk P x (Hs'.take (hiOf es' nx + 1)) = true := by
      unfold floatOk
      rw [List.all_eq_true]
      intro h hh
      have hval : ∃ H3, opA P x.o.op x.fr h = some (x.val, H3) := by
        rcases hy2 with hy2 | hy2
        · exact ⟨_, opA_free hy2 hv⟩
        · obtain ⟨j, hj⟩ := List.mem_iff_getElem?.1 hh
          rw [List.getElem?_drop, List.getElem?_take] at hj
          split at hj
          rotate_left
          · cases hj
          rcases hst x.o (ho x hx) hne with hf | hs
          · exact ⟨_, opA_free hf hv⟩
          · exact hs _ _ _ _ _ (h2 x.no _ Hc h (by omega) hno hj) hv
      obtain ⟨H3, hval⟩ := hval
      rw [hval]
      exact sameV_refl _
    simp [this]
theorem RU.drawR {G : Heap → Heap → Prop} (hG : PreO G) {P : Program} {S : CallA} {id : Nat} {ops : Array Oper} {fr fr1 : List AV} {H H1 : Heap} (hok : drawOk P ops = true) (hst : ∀ o ∈ ops.toList, isEff o.op = false → heapFree P o.op = true ∨ Stab G P o.op) {n0 : Nat} (h : ∀ n, n0 ≤ n → OpsR G P (run P S n) ops.toList fr H fr1 H1) : RU P S (.region id ops true) fr H (.normal, fr1, H1) := by
  refine ⟨n0 + 1, fun n hn => ?_⟩
  obtain ⟨m, rfl⟩ : ∃ m, n = m + 1 := ⟨n - 1, by omega⟩
  have := draw_R hG hok hst (h m (by omega))
  simp only [run] at this
  simp [exec, this]
def VrK (a b : Heap) : Prop := ∀ (i : Nat) (ty : TypeId) (cs : List AV), a[i]? = some (.cells ty .vr cs) → ∃ cs', b[i]? = some (.cells ty .vr cs')
theorem VrK.pre : PreO VrK := ⟨fun a i ty cs h => ⟨cs, h⟩, fun h k i ty cs x => (h i ty cs x).elim fun cs' y => k i ty cs' y⟩
theorem VrK.set {a : Heap} {i : Nat} {ty : TypeId} {cs cs' : List AV} (h : a[i]? = some (.cells ty .vr cs)) : VrK a (a.set i (.cells ty .vr cs')) := fun j ty' ds x => by
  by_cases e : i = j
  · subst e
    rw [h] at x; cases x
    exact ⟨cs', by rw [List.getElem?_set_self (List.getElem?_eq_some_iff.1 h).1]⟩
  · exact ⟨ds, by rw [List.getElem?_set_ne e]; exact x⟩
theorem stab_slice (t : TypeId) (x : Operand) : Stab VrK P (.slice t x none none none) := by
  intro fr a b v H2 g h
  simp only [opA] at h ⊢
  obtain ⟨y, hy, h⟩ := Option.bind_eq_some_iff.1 h
  obtain ⟨w, hw, he⟩ := Option.map_eq_some_iff.1 h
  simp only [Prod.mk.injEq] at he
  obtain ⟨rfl, rfl⟩ := he
  refine ⟨b, ?_⟩
  rw [hy]
  simp only [Option.bind_some]
  have : sliceArrA P b t y = some w := by
    unfold sliceArrA at hw ⊢
    split at hw
    · rename_i n e i o hu
      split at hw
      · rename_i ty cs sz hb hsz
        obtain ⟨cs', hc⟩ := g _ _ _ hb
        simp only [hc, hsz]
        exact hw
      · cases hw
    · cases hw
  rw [this]; rfl
def z16 : List AV := [.i .u8 0, .i .u8 0, .i .u8 0, .i .u8 0, .i .u8 0, .i .u8 0, .i .u8 0, .i .u8 0, .i .u8 0, .i .u8 0, .i .u8 0, .i .u8 0, .i .u8 0, .i .u8 0, .i .u8 0, .i .u8 0]
theorem zA : zeroA P 52 = some (.g z16) := by kernel_rfl
theorem aggA16 : aggA P 52 = some true := by kernel_rfl
theorem sizeA16 : sizeA P 52 = some 16 := by kernel_rfl
theorem undA16 : P.underlying 52 = some (.array 16 5) := by kernel_rfl
theorem sizeU8 : sizeA P 5 = some 1 := bty.size
theorem ld16 {H : Heap} {b : Nat} {cs : List AV} (h : H[b]? = some (.cells 52 .vr cs)) (hl : cs.length = 16) : loadA P H 52 (.p b 0) = some (.g cs) := by
  have ht : cs.take 16 = cs := by rw [← hl, List.take_length]
  simp [loadA, loadAt, h, aggA16, sizeA16, hl, ht]
theorem st16 {H : Heap} {b : Nat} {cs cs' : List AV} (h : H[b]? = some (.cells 52 .vr cs)) (hl : cs.length = 16) (hl' : cs'.length = 16) (h1 : cs'.all AV.one = true) : storeA P H 52 (.p b 0) (.g cs') = some (H.set b (.cells 52 .vr cs')) := by
  have hd : cs.drop 16 = [] := List.drop_eq_nil_of_le (by omega)
  have h1' : ∀ x ∈ cs', x.one = true := by simpa using h1
  simp [storeA, h, sizeA16, Kn.own, AV.cells, h1, hl, hl', over, hd, h1']
theorem sa16 {H : Heap} {b : Nat} {cs : List AV} (h : H[b]? = some (.cells 52 .vr cs)) : sliceArrA P H 52 (.p b 0) = some (.sl b 0 16) := by
  simp [sliceArrA, undA16, h, sizeU8]
def OR (G : Heap → Heap → Prop) (P : Program) (call : CallA) (l : List Oper) (fr : List AV) (H : Heap) (r : List AV × Heap) : Prop := OpsR G P call l fr H r.1 r.2
theorem OR.nil {G : Heap → Heap → Prop} {P : Program} {call : CallA} {fr : List AV} {H : Heap} : OR G P call [] fr H (fr, H) := OpsR.nil _ _
theorem OR.op {G : Heap → Heap → Prop} {P : Program} {call : CallA} {o : Oper} {l : List Oper} {fr : List AV} {H H1 : Heap} {v : AV} {r : List AV × Heap} (hg : o.guard = none) (h : oneOp P call o.op fr H = some (v, H1)) (g : G H H1) (t : OR G P call l (putA fr o.dst v) H1 r) : OR G P call (o :: l) fr H r := OpsR.op hg h g t
theorem RU.drR {id : Nat} {S : CallA} {ops : Array Oper} {fr fr1 : List AV} {H H1 : Heap} {n0 : Nat} (hok : drawOk P ops = true) (hst : ∀ o ∈ ops.toList, isEff o.op = false → heapFree P o.op = true ∨ Stab VrK P o.op) (h : ∀ n, n0 ≤ n → OR VrK P (run P S n) ops.toList fr H (fr1, H1)) : RU P S (.region id ops true) fr H (.normal, fr1, H1) := RU.drawR VrK.pre hok hst h
theorem oneR {call : CallA} {f : Operand} {args : Array Operand} {ats : Array TypeId} {fr : List AV} {H : Heap} {g : FuncId} {as_ : List AV} (hf : ev fr f = some (.fn g [])) (ha : evl fr args.toList = some as_) : oneOp P call (.call { callee := .value f, args := args, argTypes := ats }) fr H = call g as_ H := by
  simp only [oneOp, hf, ha, List.append_nil]
theorem uuid_walk {rb : Nat} {H H2 H3 : Heap} {av n : AV} {cs ds : List AV} (c : CA P NS 31 [.p rb 0, .i .i64 16] (H ++ [Blk.cells 52 .vr z16] ++ [Blk.cells 52 .vr z16]) (av, H2))
    (g1 : VrK (H ++ [Blk.cells 52 .vr z16] ++ [Blk.cells 52 .vr z16]) H2) (hc : copyA P H2 22 (.sl (H.length + 1) 0 16) av = some (n, H3)) (g2 : VrK H2 H3)
    (h1 : H3[H.length + 1]? = some (.cells 52 .vr cs)) (hl : cs.length = 16) (ho : cs.all AV.one = true) (h2 : H3[H.length]? = some (.cells 52 .vr ds)) (hl2 : ds.length = 16) :
    CA P NS 36 [.p rb 0] H (.g cs, H3.set H.length (.cells 52 .vr cs)) := by
  have l0 := ld16 h1 hl
  have s0 := st16 h2 hl2 hl ho
  have hlt := (List.getElem?_eq_some_iff.1 h2).1
  have l1 : loadA P (H3.set H.length (.cells 52 .vr cs)) 52 (.p H.length 0) = some (.g cs) := ld16 (by rw [List.getElem?_set_self hlt]) hl
  have hl1 : (H ++ [Blk.cells 52 .vr z16]).length = H.length + 1 := by simp
  have zo : (AV.g z16).cells.all AV.one = true := by decide
  have a0 : ∀ fr, opA P (.alloc 52) fr H = some (.p H.length 0, H ++ [Blk.cells 52 .vr z16]) := fun fr => op_alloc zA zo
  have a1 : ∀ fr, opA P (.alloc 52) fr (H ++ [Blk.cells 52 .vr z16]) = some (.p (H.length + 1) 0, H ++ [Blk.cells 52 .vr z16] ++ [Blk.cells 52 .vr z16]) := fun fr => by
    rw [op_alloc zA zo, hl1]; rfl
  have hs := sa16 (H := H ++ [Blk.cells 52 .vr z16] ++ [Blk.cells 52 .vr z16]) (b := H.length + 1) (cs := z16) (by rw [List.getElem?_append_right (by simp)]; simp)
  obtain ⟨n0, hcall⟩ := c
  generalize H ++ [Blk.cells 52 .vr z16] ++ [Blk.cells 52 .vr z16] = H1 at a1 hs hcall g1
  generalize H ++ [Blk.cells 52 .vr z16] = H0 at a0 a1
  generalize H.length + 1 = b3 at a1 hs hc l0
  refine CA.go (fn := Tryd.f36) (vs := [_]) (by kernel_rfl) rfl (.inr rfl) ?_
  apply Exists.intro
  apply And.intro
  · dsimp only [Tryd.f36]
    dsimp only [List.length_cons, List.length_nil, List.cons_append, List.nil_append, Nat.reduceSub, Nat.reduceAdd, List.replicate]
    (apply RU.seq; focus (apply RU.region; refine OS.st rfl rfl ?_ (a0 _); dsimp only [AV.cells, putA, List.set_cons_zero, List.set_cons_succ]; exact OS.nil))
    (apply RU.seq; focus (apply RU.region; refine OS.st rfl rfl ?_ (a1 _); dsimp only [AV.cells, putA, List.set_cons_zero, List.set_cons_succ]; exact OS.nil))
    apply RU.seq
    case h1 =>
      apply RU.drR (n0 := n0)
      case hok => kernel_rfl
      case hst =>
        intro o ho
        simp only [List.mem_cons, List.not_mem_nil, or_false] at ho
        rcases ho with rfl | rfl | rfl | rfl
        · exact fun _ => .inr (stab_slice _ _)
        · exact fun _ => .inl rfl
        · exact fun h => by cases h
        · exact fun h => by cases h
      case h =>
        intro k hk
        refine OR.op rfl ((oneOp_pure rfl).trans (op_sliceArr rfl hs)) (VrK.pre.refl _) ?_
        dsimp only [AV.cells, putA, List.set_cons_zero, List.set_cons_succ]
        refine OR.op rfl ((oneOp_pure rfl).trans (op_move rfl)) (VrK.pre.refl _) ?_
        dsimp only [AV.cells, putA, List.set_cons_zero, List.set_cons_succ]
        refine OR.op (v := av) (H1 := H2) rfl ((oneR rfl rfl).trans (hcall k hk)) g1 ?_
        dsimp only [AV.cells, putA, List.set_cons_zero, List.set_cons_succ]
        refine OR.op rfl ((oneOp_pure rfl).trans (op_copy rfl rfl hc)) g2 ?_
        dsimp only [AV.cells, putA, List.set_cons_zero, List.set_cons_succ]
        exact OR.nil
    refine RU.seq RU.rg ?_
    exact RU.ret
  · simp [resultsA, l1]
theorem cp16 {A : Nat → Prop} {H : Heap} {b : Nat} {av : AV} {x : B} (h : H[b]? = some (.cells 52 .vr z16)) (hb : BytesAt A H av x) (hl : x.length = 16 ∨ x.length = 0) :
    ∃ n cs, copyA P H 22 (.sl b 0 16) av = some (n, H.set b (.cells 52 .vr cs)) ∧ cs.length = 16 ∧ cs.all AV.one = true ∧ (x.length = 16 → cs = u8s x) := by
  have hz : z16.length = 16 := rfl
  refine ⟨.i .i64 (min x.length 16 : Nat), over z16 ((u8s x).take (min x.length 16)) 0, ?_, ?_, ?_, ?_⟩
  · simp [copyA, bty.elem, bty.size, hb.first, h, Kn.own, hz]
  · rcases hl with hl | hl <;> simp [over, hl, hz, u8s_length]
  · rcases hl with hl | hl
    · have hx : (u8s x).take 16 = u8s x := by rw [← hl, ← u8s_length x, List.take_length]
      have hd : z16.drop 16 = [] := rfl
      simp [over, hl, hx, hd, u8s_length]
      simpa using u8s_one x
    · obtain rfl : x = [] := List.eq_nil_of_length_eq_zero hl
      decide
  · intro hl
    have hx : (u8s x).take 16 = u8s x := by rw [← hl, ← u8s_length x, List.take_length]
    have hd : z16.drop 16 = [] := rfl
    simp [over, hl, hx, hd, u8s_length]
theorem RdAt.nn {A : Nat → Prop} {H : Heap} {rb : Nat} {nn : Bool} {bs : B} (h : RdAt A tR H rb nn (some bs)) (h0 : 0 < bs.length) : RdAt A tR H rb true (some bs) := by
  obtain ⟨src, h1, h2, h3⟩ := h
  refine ⟨src, h1, h2, fun _ => ?_⟩
  cases h2 with
  | z => simp at h0
  | e => simp at h0
  | s => simp
theorem span_b {A : Nat → Prop} {H : Heap} {rb : Nat} {nn : Bool} {st : Option B} {l : Int} (hl : 0 < l) (R : Room A H rb) (h : RdAt A tR H rb nn st) :
    ∃ av H1 st1, CA P NS 31 [.p rb 0, .i .i64 l] H (av, H1) ∧ RdAt A tR H1 rb true st1 ∧ H.length ≤ H1.length ∧ (∀ i b, i ≠ rb → H[i]? = some b → H1[i]? = some b) ∧
      (match st.bind (rdS l) with | none => st1 = none ∧ av = .s0 | some (v, r) => st1 = some r ∧ BytesAt A H1 av v) := by
  cases hd : st.bind (rdS l) with
  | none =>
    obtain ⟨H1, c, r, kp⟩ := rd_span_bad R h hd
    obtain ⟨H1', c', _, kp'⟩ := rd_span_bad (room_rb R (rdAt_lt h)) (rdAt_rb R.no h) hd
    cases CA.det c c'
    exact ⟨.s0, H1, none, c, r, kp.1, kp'.2, rfl, rfl⟩
  | some x =>
    obtain ⟨v, r1⟩ := x
    cases st with
    | none => cases hd
    | some bs =>
      simp only [Option.bind_some] at hd
      have h : RdAt A tR H rb true (some bs) := RdAt.nn h (by obtain ⟨n, e, hn, _⟩ := rdS_some hd; omega)
      obtain ⟨av, H1, c, b, _, r, kp⟩ := rd_span_good R h hd
      obtain ⟨av', H1', c', _, _, _, kp'⟩ := rd_span_good (room_rb R (rdAt_lt h)) (rdAt_rb R.no h) hd
      cases CA.det c c'
      exact ⟨av, H1, some r1, c, r, kp.1, kp'.2, rfl, b⟩
theorem sp16 {st : Option B} : (st.bind fun bs => (cut 16 bs).map fun (h, r) => (V.s h, r)) = (st.bind (rdS 16)).map fun (h, r) => (V.s h, r) := by
  cases st with
  | none => rfl
  | some bs => rfl
theorem uuid_get {A : Nat → Prop} {H : Heap} {rb : Nat} {nn : Bool} {st : Option B} (R : Room A H rb) (h : RdAt A tR H rb nn st) :
    ∃ cs H', CA P NS 36 [.p rb 0] H (.g cs, H') ∧ cs.length = 16 ∧ cs.all AV.one = true ∧ Keep A H H' ∧
      (match st.bind (rdS 16) with | none => RdAt A tR H' rb true none | some (x, r) => RdAt A tR H' rb true (some r) ∧ cs = u8s x) := by
  have hrb := rdAt_lt h
  let A1 : Nat → Prop := fun i => A i ∧ i ≠ H.length ∧ i ≠ H.length + 1
  let H1 : Heap := H ++ [Blk.cells 52 .vr z16] ++ [Blk.cells 52 .vr z16]
  have hH1 : ∀ i b, H[i]? = some b → H1[i]? = some b := fun i b x => by
    have := (List.getElem?_eq_some_iff.1 x).1
    show (H ++ _ ++ _)[i]? = _
    rw [List.getElem?_append_left (by simp; omega), List.getElem?_append_left this]; exact x
  have hlen : H1.length = H.length + 2 := by simp [H1]
  have k1 : KT A H A1 H1 := ⟨by omega, fun i b a x => by
    have := (List.getElem?_eq_some_iff.1 x).1
    exact ⟨⟨a, by omega, by omega⟩, hH1 i b x⟩⟩
  have R1 : Room A1 H1 rb := R.kt k1 (fun a => R.no a.1) (fun i hi => ⟨R.new i (by omega), by omega, by omega⟩)
  have h1 : RdAt A1 tR H1 rb nn st := rdAt_kt h k1 (by
    show (H ++ _ ++ _)[rb]? = _
    rw [List.getElem?_append_left (by simp; omega), List.getElem?_append_left hrb])
  obtain ⟨av, H2, st2, c, h2, le2, kp2, m2⟩ := span_b (l := 16) (by omega) R1 h1
  have e1 : H1[H.length + 1]? = some (.cells 52 .vr z16) := by
    show (H ++ _ ++ _)[H.length + 1]? = _
    rw [List.getElem?_append_right (by simp)]; simp
  have e0 : H1[H.length]? = some (.cells 52 .vr z16) := by
    show (H ++ _ ++ _)[H.length]? = _
    rw [List.getElem?_append_left (by simp), List.getElem?_append_right (Nat.le_refl _)]; simp
  have g1 : VrK H1 H2 := fun i ty cs x => by
    by_cases e : i = rb
    · subst e
      obtain ⟨s1, b1, q1, _⟩ := RdAt.cell h1
      obtain ⟨s2, b2, q2, _⟩ := RdAt.cell h2
      rw [q1] at x; cases x
      exact ⟨_, q2⟩
    · exact ⟨cs, kp2 i _ e x⟩
  have f1 := kp2 _ _ (by omega) e1
  have f0 := kp2 _ _ (by omega) e0
  obtain ⟨x, hx, hl, hxs⟩ : ∃ x, BytesAt A1 H2 av x ∧ (x.length = 16 ∨ x.length = 0) ∧ (∀ y r, st.bind (rdS 16) = some (y, r) → x = y ∧ x.length = 16) := by
    cases hd : st.bind (rdS 16) with
    | none =>
      rw [hd] at m2
      obtain ⟨_, rfl⟩ := m2
      exact ⟨[], .z, .inr rfl, fun y r h => by cases h⟩
    | some p =>
      obtain ⟨y, r⟩ := p
      rw [hd] at m2
      have hy : y.length = 16 := by
        cases st with
        | none => cases hd
        | some bs =>
          simp only [Option.bind_some] at hd
          obtain ⟨n, e, hn, rfl, _⟩ := rdS_some hd
          simp
          omega
      exact ⟨y, m2.2, .inl hy, fun y' r' h => by cases h; exact ⟨rfl, hy⟩⟩
  obtain ⟨n, cs, hc, q1, q2, q3⟩ := cp16 f1 hx hl
  have d1 : (H2.set (H.length + 1) (.cells 52 .vr cs))[H.length + 1]? = some (.cells 52 .vr cs) := by rw [List.getElem?_set_self (by omega)]
  have d0 : (H2.set (H.length + 1) (.cells 52 .vr cs))[H.length]? = some (.cells 52 .vr z16) := by rw [List.getElem?_set_ne (by omega)]; exact f0
  refine ⟨cs, _, uuid_walk c g1 hc (VrK.set f1) d1 q1 q2 d0 rfl, q1, q2, ⟨by simp; omega, fun i b a x => ?_⟩, ?_⟩
  · have hi := (List.getElem?_eq_some_iff.1 x).1
    rw [List.getElem?_set_ne (by omega), List.getElem?_set_ne (by omega)]
    exact kp2 i b (fun e => R.no (e ▸ a)) (hH1 i b x)
  · have kk : KT A1 H2 A ((H2.set (H.length + 1) (.cells 52 .vr cs)).set H.length (.cells 52 .vr cs)) := ⟨by simp, fun i b a x => ⟨a.1, by
      rw [List.getElem?_set_ne (Ne.symm a.2.1), List.getElem?_set_ne (Ne.symm a.2.2)]; exact x⟩⟩
    have krb : ((H2.set (H.length + 1) (.cells 52 .vr cs)).set H.length (.cells 52 .vr cs))[rb]? = H2[rb]? := by rw [List.getElem?_set_ne (by omega), List.getElem?_set_ne (by omega)]
    cases hd : st.bind (rdS 16) with
    | none =>
      rw [hd] at m2
      obtain ⟨rfl, _⟩ := m2
      exact rdAt_kt (st := none) h2 kk krb
    | some p =>
      obtain ⟨y, r⟩ := p
      rw [hd] at m2
      obtain ⟨rfl, hb⟩ := m2
      obtain ⟨rfl, hx16⟩ := hxs y r hd
      exact ⟨rdAt_kt h2 kk krb, q3 hx16⟩
theorem decU (flex null : Bool) (st : Option B) : st.bind (decK flex .uuid null) = (st.bind (rdS 16)).map fun (h, r) => (V.s h, r) := sp16
theorem rdv_uuid (flex null : Bool) : RdV 36 flex .uuid null where
  good A H rb nn bs v r R h hd := by
    obtain ⟨cs, H', c, q1, q2, k, m⟩ := uuid_get R h
    have e := decU flex null (some bs)
    simp only [Option.bind_some] at e m
    rw [hd] at e
    obtain ⟨⟨x, r'⟩, hx, hh⟩ := Option.map_eq_some_iff.1 e.symm
    simp at hh
    obtain ⟨rfl, rfl⟩ := hh
    rw [hx] at m
    obtain ⟨m1, rfl⟩ := m
    exact ⟨_, H', c, rfl, q1, q2, m1, k⟩
  bad A H rb nn st R h hd := by
    obtain ⟨cs, H', c, q1, q2, k, m⟩ := uuid_get R h
    rw [decU, Option.map_eq_none_iff] at hd
    rw [hd] at m
    exact ⟨_, H', c, q1, q2, m, k⟩
end Go.Proofs.YtiifcfngbbhgoagDoor.Rd

