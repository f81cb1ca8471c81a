import Derived.Test.YtopfghmpaobnnaaDoorQWxOp
/-
  THE WRITING CODE's CHECKER: regions are sound.
-/
namespace Go.Proofs.YtopfghmpaobnnaaDoor.Rd
set_option linter.constructorNameAsVariable false
set_option linter.unusedVariables false
set_option linter.unusedSimpArgs false
open Go Go.Proofs.YtopfghmpaobnnaaDoor.Ax Go.Proofs.YtopfghmpaobnnaaDoor.Wire
set_option linter.unusedVariables false
set_option linter.unusedSimpArgs false
set_option maxRecDepth 100000

theorem putW_fields (s : WS) (d : Option Tmp) (v : WV) : (s.put d v).lv = s.lv ∧ (s.put d v).ver = s.ver ∧ (s.put d v).cur = s.cur ∧ (s.put d v).pend = s.pend ∧ (s.put d v).exp = s.exp ∧ (s.put d v).k = s.k ∧ (s.put d v).fr.length = s.fr.length := by
  cases d <;> simp [WS.put]
theorem FRW.put {H0 : Heap} {cur : Nat} {out : AV} {lv : List WL} {sf : WF} {fr : List AV} (h : sf.length = fr.length ∧ ∀ (t : Nat) (v : WV) (a : AV), sf[t]? = some v → fr[t]? = some a → denW H0 cur out lv v a) {v : WV} {a : AV} (d : denW H0 cur out lv v a) (t : Nat) :
    (sf.set t v).length = (fr.set t a).length ∧ ∀ (u : Nat) (x : WV) (b : AV), (sf.set t v)[u]? = some x → (fr.set t a)[u]? = some b → denW H0 cur out lv x b := by
  refine ⟨by simp [h.1], fun u x b hx hb => ?_⟩
  rw [List.getElem?_set] at hx hb
  split at hx
  · rename_i e
    rw [if_pos e] at hb
    split at hx
    · split at hb
      · cases hx; cases hb; exact d
      · cases hb
    · cases hx
  · rename_i e
    rw [if_neg e] at hb
    exact h.2 u x b hx hb
structure WStep (L0 : Nat) (s s' : WS) (σ σ' : WSta) : Prop where
  lv : σ'.lv = σ.lv
  vs : σ'.vs = σ.vs
  slv : s'.lv = s.lv
  exp : s'.exp = s.exp
  ver : s'.ver = s.ver
  frl : s'.fr.length = s.fr.length
  keep : WKeep L0 σ.H σ'.H
theorem WStep.refl (L0 : Nat) (s : WS) (σ : WSta) : WStep L0 s s σ σ := ⟨rfl, rfl, rfl, rfl, rfl, rfl, .refl _ _⟩
theorem WStep.trans {L0 : Nat} {s s1 s2 : WS} {σ σ1 σ2 : WSta} (h : WStep L0 s s1 σ σ1) (k : WStep L0 s1 s2 σ1 σ2) : WStep L0 s s2 σ σ2 :=
  ⟨k.lv.trans h.lv, k.vs.trans h.vs, k.slv.trans h.slv, k.exp.trans h.exp, k.ver.trans h.ver, k.frl.trans h.frl, h.keep.trans k.keep⟩

section
variable {C : Cfg} {H0 : Heap} {L0 : Nat} {o0 : B} {s : WS} {σ : WSta}
theorem WOK.put (h : WOK C H0 L0 o0 s σ) {v : WV} {a : AV} (d : denW H0 s.cur σ.out σ.lv v a) (o : Option Tmp) : WOK C H0 L0 o0 (s.put o v) { σ with fr := putA σ.fr o a } := by
  cases o with
  | none => exact h
  | some t => exact ⟨FRW.put h.fr d t, h.lvl, h.exl, h.vsl, h.pos, h.lv, h.up, h.said, h.ver, h.keep, h.l0, h.out, h.bytes, h.bound⟩
theorem WStep.put (h : WStep L0 s s σ σ) (o : Option Tmp) (v : WV) (a : AV) : WStep L0 s (s.put o v) σ { σ with fr := putA σ.fr o a } := by
  obtain ⟨p1, p2, p3, p4, p5, p6, p7⟩ := putW_fields s o v
  exact ⟨rfl, rfl, p1, p5, p2, p7, .refl _ _⟩
/-- Something was written. -/
theorem WOK.app (h : WOK C H0 L0 o0 s σ) (hf : s.fresh = true) {out' : AV} {H' : Heap} {bs' : B} {p' : Option (Nat × Option Bool)} {k' : Nat} (ho : OutAt L0 H' out' bs') (hk : WKeep L0 σ.H H')
    (hb : ∀ (e : WL) (pl : List (Ev × Nat)) (vs : List V), σ.lv[s.top]? = some e → s.exp[s.top]? = some pl → σ.vs[s.top]? = some vs → ∃ p, pendB C.flex H0 e.cs p' = some p ∧ bs' = o0 ++ encs C.flex (pl.take k') vs ++ p) (dst : Option Tmp) :
    WOK C H0 L0 o0 ({ s with cur := s.cur + 1, pend := p', k := k' }.put dst (.out (s.cur + 1))) { σ with out := out', H := H', bs := bs', fr := putA σ.fr dst out' } ∧
    WStep L0 s ({ s with cur := s.cur + 1, pend := p', k := k' }.put dst (.out (s.cur + 1))) σ { σ with out := out', H := H', bs := bs', fr := putA σ.fr dst out' } := by
  have h1 : WOK C H0 L0 o0 { s with cur := s.cur + 1, pend := p', k := k' } { σ with out := out', H := H', bs := bs' } := by
    refine ⟨⟨h.fr.1, fun t v a hv ha => ?_⟩, h.lvl, h.exl, h.vsl, h.pos, h.lv, h.up, h.said, h.ver, h.keep.trans hk, h.l0, ho, hb, h.bound⟩
    have hd := h.fr.2 t v a hv ha
    unfold WS.fresh at hf
    rw [List.all_eq_true] at hf
    have hne := hf v (List.mem_of_getElem? hv)
    cases v with
    | out c =>
      intro hc
      subst hc
      simp at hne
    | _ => exact hd
  refine ⟨h1.put (v := .out (s.cur + 1)) (a := out') (fun _ => rfl) dst, ?_⟩
  obtain ⟨p1, p2, p3, p4, p5, p6, p7⟩ := putW_fields { s with cur := s.cur + 1, pend := p', k := k' } dst (.out (s.cur + 1))
  exact ⟨rfl, rfl, p1, p5, p2, p7, hk⟩
theorem WOK.top3 (h : WOK C H0 L0 o0 s σ) : ∃ e pl vs, σ.lv[s.top]? = some e ∧ s.exp[s.top]? = some pl ∧ σ.vs[s.top]? = some vs ∧ s.pl = pl := by
  have hp := h.pos
  have ht : s.top < σ.lv.length := by unfold WS.top; rw [h.lvl]; omega
  have hex : s.exp[s.top]? = some (s.exp[s.top]'(by rw [h.exl]; exact ht)) := by simp
  exact ⟨σ.lv[s.top], s.exp[s.top]'(by rw [h.exl]; exact ht), σ.vs[s.top]'(by rw [h.vsl]; exact ht), by simp, hex, by simp, by unfold WS.pl; rw [hex]; rfl⟩
theorem take_snoc {α : Type} {l : List α} {k : Nat} {x : α} (h : l[k]? = some x) : l.take (k + 1) = l.take k ++ [x] := by
  rw [List.take_add_one, h]; rfl
theorem encs_take (flex : Bool) {pl : List (Ev × Nat)} {vs : List V} {k : Nat} {e : Ev} {o : Nat} {v : V} (h : pl[k]? = some (e, o)) (hv : vs[k]? = some v) : encs flex (pl.take (k + 1)) vs = encs flex (pl.take k) vs ++ e.enc flex v := by
  rw [take_snoc h]
  have hl : (pl.take k).length = k := by have := (List.getElem?_eq_some_iff.1 h).1; simp; omega
  exact encs_snoc flex _ vs e o v (by rw [hl]; exact hv)
theorem encs_fit (flex : Bool) (pl : List (Ev × Nat)) (vs : List V) (k : Nat) : (encs flex (pl.take k) vs).length ≤ (encs flex pl vs).length := by
  have := encs_len flex (pl.take k) (pl.drop k) vs
  rw [List.take_append_drop] at this
  exact this

theorem RepK.cell {A : Nat → Prop} {H : Heap} {k : K} {n : Bool} {av : AV} {v : V} (hk : k ≠ .uuid) (h : RepK A H k n av v) : av.cells = [av] := by
  cases k <;> cases v <;> simp only [RepK] at h <;> first | exact h.elim | (subst h; rfl) | exact absurd rfl hk | skip
  · split at h
    · obtain ⟨i, ty, _, rfl, _⟩ := h; rfl
    · subst h; rfl
  · exact (BytesAt.one' h.1).1
theorem RepK.uuid_g {A : Nat → Prop} {H : Heap} {n : Bool} {av : AV} {v : V} (h : RepK A H .uuid n av v) : av = .g av.cells := by
  cases v <;> simp only [RepK] at h <;> first | exact h.elim | (subst h; rfl)

theorem map2 {α β : Type} {f : α → Option β} {l : List α} {a b : β} (h : l.map f = [some a, some b]) : ∃ x y, l = [x, y] ∧ f x = some a ∧ f y = some b := by
  rcases l with _ | ⟨x, _ | ⟨y, _ | ⟨z, l⟩⟩⟩ <;> simp at h
  exact ⟨x, y, rfl, h.1, h.2⟩
theorem map1 {α β : Type} {f : α → Option β} {l : List α} {a : β} (h : l.map f = [some a]) : ∃ x, l = [x] ∧ f x = some a := by
  rcases l with _ | ⟨x, _ | ⟨y, l⟩⟩ <;> simp at h
  exact ⟨x, rfl, h⟩
theorem evl2 {fr : List AV} {args : Array Operand} {x y : Operand} {a b : AV} (h : args.toList = [x, y]) (hx : ev fr x = some a) (hy : ev fr y = some b) : evl fr args.toList = some [a, b] := by
  rw [h]; simp [evl, hx, hy]

theorem leafW (h : WOK C H0 L0 o0 s σ) {prim : List (FuncId × WPrim)} (hP : WPrims C prim) {f : FuncId} {k : K} {n : Bool} {fx : Option Bool} (hl : prim.lookup f = some (.leaf k n fx)) (hfx : fxOk C.flex fx = true) (hf : s.fresh = true) (hpd : s.pend = none) {o' : Nat} (hpl : s.pl[s.k]? = some (Ev.leaf k n, o')) {av : AV}
    (hav : ∀ (e : WL), σ.lv[s.top]? = some e → ∀ av', At e.cs o' k.wide (fun x => x = av') → (k ≠ .uuid → av'.cells = [av']) → (k = .uuid → av' = .g av'.cells) → av = av') (dst : Option Tmp) :
    ∃ out' H', CA P NS f [σ.out, av] σ.H (out', H') ∧ ∃ bs', WOK C H0 L0 o0 ({ s with cur := s.cur + 1, k := s.k + 1 }.put dst (.out (s.cur + 1))) { σ with out := out', H := H', bs := bs', fr := putA σ.fr dst out' } ∧
      WStep L0 s ({ s with cur := s.cur + 1, k := s.k + 1 }.put dst (.out (s.cur + 1))) σ { σ with out := out', H := H', bs := bs', fr := putA σ.fr dst out' } := by
  obtain ⟨e, pl, vs, t1, t2, t3, rfl⟩ := h.top3
  obtain ⟨v, v1, ⟨av', a1, a2, a3⟩, v2⟩ := h.said _ e _ _ t1 t2 t3 s.k _ _ hpl
  have a1 : RepK (fun i => i < L0) H0 k n av' v := a1
  have hav' : av = av' := hav e t1 av' ⟨av', rfl, a2, a3⟩ (fun hk => RepK.cell hk a1) (fun hk => by subst hk; exact RepK.uuid_g a1)
  subst hav'
  obtain ⟨p, p1, p2⟩ := h.bytes e _ _ t1 t2 t3
  rw [hpd] at p1
  simp [pendB] at p1
  subst p1
  have hb := h.bound _ _ t2 t3
  have henc := encs_take C.flex hpl v1
  have hfit := encs_fit C.flex s.pl vs (s.k + 1)
  rw [henc, List.length_append] at hfit
  have v2' : okK C.flex k n v := v2
  obtain ⟨out', H', c1, c2, c3⟩ := (hP _ _ hl hfx).run L0 σ.H σ.out σ.bs av v (Nat.le_trans h.l0 h.keep.len) h.out (RepK.kt a1 h.keep.kt) v2' (by
    rw [p2]; simp only [List.append_nil, List.length_append]
    have : (Ev.enc C.flex (.leaf k n) v).length = (encK C.flex k v).length := rfl
    omega)
  refine ⟨out', H', c1, σ.bs ++ encK C.flex k v, ?_⟩
  have := h.app hf (p' := none) (k' := s.k + 1) c2 c3 (fun e' pl' vs' q1 q2 q3 => by
    rw [t1] at q1; cases q1
    rw [t2] at q2; cases q2
    rw [t3] at q3; cases q3
    refine ⟨[], rfl, ?_⟩
    rw [henc, p2]
    simp [Ev.enc]) dst
  rw [← hpd] at this
  exact this

theorem tagN_keep {H0 H : Heap} {L0 : Nat} (hk : WKeep L0 H0 H) {x : AV} {n : Nat} (h : tagN H0 x = some n) : tagN H x = some n := h
theorem tagRep_keep {H0 H : Heap} {L0 : Nat} (hk : WKeep L0 H0 H) {v : V} {x : AV} (h : TagRep H0 v x) : TagRep H v x := h
theorem opW_sound {prim : List (FuncId × WPrim)} (hP : WPrims C prim) {o : Oper} {s1 : WS} (hs : opW C prim o s = some s1) (h : WOK C H0 L0 o0 s σ) :
    ∃ a σ1, One o σ.fr σ.H (a, σ1.H) ∧ σ1.fr = putA σ.fr o.dst a ∧ WOK C H0 L0 o0 s1 σ1 ∧ WStep L0 s s1 σ σ1 := by
  have htop := h.top3
  unfold opW at hs
  split at hs
  · rename_i f args ats hop
    split at hs
    · rename_i k n fx c x hl hargs
      obtain ⟨x1, x2, ha, hx1, hx2⟩ := map2 hargs
      split at hs
      · rename_i hc
        obtain ⟨rfl, hpd, hfx, hf⟩ := hc
        obtain ⟨a1, e1, d1⟩ := evW_sound h.fr hx1
        obtain ⟨a2, e2, d2⟩ := evW_sound h.fr hx2
        obtain rfl := d1 rfl
        split at hs
        · rename_i l o'
          split at hs
          · rename_i hc2
            obtain ⟨rfl, hk, hpl⟩ := hc2
            simp at hs; subst hs
            obtain ⟨out', H', c1, bs', c2, c3⟩ := leafW h hP hl hfx hf hpd hpl (av := a2) (fun e he av' hat h1 _ => by
              obtain ⟨e', g1, g2⟩ := d2
              rw [he] at g1; cases g1
              obtain ⟨y, rfl, y2, y3, y4⟩ := hat
              have hw1 : k.wide = 1 := by cases k <;> first | rfl | exact absurd rfl hk
              rw [hw1, h1 hk] at y4
              have := congrArg (fun l => l[0]?) y4
              simp [List.getElem?_take, g2] at this
              exact this) o.dst
            exact ⟨out', { σ with out := out', H := H', bs := bs', fr := putA σ.fr o.dst out' }, .call hop (evl2 ha e1 e2) c1, rfl, c2, c3⟩
          · cases hs
        · rename_i l o' w
          split at hs
          · rename_i hc2
            obtain ⟨rfl, rfl, rfl, hpl⟩ := hc2
            simp at hs; subst hs
            obtain ⟨out', H', c1, bs', c2, c3⟩ := leafW h hP hl hfx hf hpd hpl (av := a2) (fun e he av' hat _ h2 => by
              obtain ⟨e', g1, g2, rfl⟩ := d2
              rw [he] at g1; cases g1
              obtain ⟨y, rfl, y2, y3, y4⟩ := hat
              rw [h2 rfl]
              have y4 : (e.cs.drop o').take 16 = y.cells := y4
              rw [y4]) o.dst
            exact ⟨out', { σ with out := out', H := H', bs := bs', fr := putA σ.fr o.dst out' }, .call hop (evl2 ha e1 e2) c1, rfl, c2, c3⟩
          · cases hs
        · cases hs
      · cases hs
    · rename_i null fx c l o' r hl hargs
      split at hs
      · rename_i hc
        obtain ⟨rfl, hpd, rfl, rfl, hf, rfl, hany⟩ := hc
        simp at hs; subst hs
        obtain ⟨e, pl, vs, t1, t2, t3, t4⟩ := htop
        obtain ⟨p, p1, p2⟩ := h.bytes e pl vs t1 t2 t3
        rw [hpd] at p1
        simp [pendB] at p1
        subst p1
        have hb := h.bound _ _ t2 t3
        have hfit := encs_fit C.flex pl vs s.k
        have hlist : ∃ x n, e.cs[o']? = some x ∧ slen x = some n ∧ n < 2147483648 := by
          rw [t4] at hany
          cases hpk : pl[s.k]? with
          | none => rw [hpk] at hany; simp at hany
          | some q =>
            obtain ⟨ev, oo⟩ := q
            rw [hpk] at hany
            simp at hany
            obtain ⟨rfl, hi⟩ := hany
            obtain ⟨sz, nn, ff, rfl⟩ := isList_spec hi
            obtain ⟨v, x, kk, _, g2, _, _, g3, g4, _⟩ := said_list (h.said _ e pl vs t1 t2 t3) hpk
            exact ⟨x, kk, g2, g3, g4⟩
        obtain ⟨x, n, g1, g2, g3⟩ := hlist
        have hargs2 : ∃ as_, evl σ.fr args.toList = some as_ ∧ as_ = σ.out :: .i .i64 (n : Nat) :: (if null then [.b (isS0 x)] else []) := by
          have hcnt : ∀ y, evW s.fr y = some (.cnt s.top o') → ev σ.fr y = some (.i .i64 (n : Nat)) := fun y hy => by
            obtain ⟨a, e1, e', x', n', q1, q2, q3, rfl⟩ := evW_sound h.fr hy
            rw [t1] at q1; cases q1
            rw [g1] at q2; cases q2
            rw [g2] at q3; cases q3
            exact e1
          have hout : ∀ y, evW s.fr y = some (.out s.cur) → ev σ.fr y = some σ.out := fun y hy => by
            obtain ⟨a, e1, d⟩ := evW_sound h.fr hy
            rw [d rfl] at e1; exact e1
          cases null with
          | false =>
            simp only [lenR, Bool.false_eq_true, if_false] at hargs
            obtain ⟨y1, y2, ha, hy1, hy2⟩ := map2 hargs
            exact ⟨_, evl2 ha (hout _ hy1) (hcnt _ hy2), rfl⟩
          | true =>
            simp only [lenR, if_true] at hargs
            rcases hL : args.toList with _ | ⟨y1, _ | ⟨y2, _ | ⟨y3, _ | ⟨y4, L⟩⟩⟩⟩ <;> rw [hL] at hargs <;> simp at hargs
            obtain ⟨hy1, hy2, hy3⟩ := hargs
            obtain ⟨a, e3, e', x', n', q1, q2, q3, rfl⟩ := evW_sound h.fr hy3
            rw [t1] at q1; cases q1
            rw [g1] at q2; cases q2
            exact ⟨_, by simp [evl, hout _ hy1, hcnt _ hy2, e3], rfl⟩
        obtain ⟨as_, hev, rfl⟩ := hargs2
        obtain ⟨out', H', c1, c2, c3⟩ := (hP _ _ hl rfl).run L0 σ.H σ.out σ.bs n (isS0 x) (Nat.le_trans h.l0 h.keep.len) h.out g3 (by rw [p2]; simp; omega)
        obtain ⟨q1, q2⟩ := h.app hf (p' := some (o', some null)) (k' := s.k) c2 c3 (fun e' pl' vs' r1 r2 r3 => by
          rw [t1] at r1; cases r1
          rw [t2] at r2; cases r2
          rw [t3] at r3; cases r3
          refine ⟨if null && isS0 x then cnt0 C.flex 4 else cnt C.flex 4 n, by simp only [pendB, g1, g2, Option.bind_some, Option.map_some], ?_⟩
          rw [p2]; simp only [List.append_nil]) o.dst
        exact ⟨out', _, .call hop hev c1, rfl, q1, q2⟩
      · cases hs
    · rename_i l o' hl hargs
      obtain ⟨x1, ha, hx1⟩ := map1 hargs
      split at hs
      · rename_i hc
        obtain ⟨rfl, htg⟩ := hc
        simp at hs; subst hs
        obtain ⟨a1, e1, e, g1, hj, rfl⟩ := evW_sound h.fr hx1
        obtain ⟨x, n, g2, g3, g4⟩ := h.tgs_at g1 htg
        obtain ⟨ty, kn, bl, b1, b2, b3, b4⟩ := h.blk g1 hj
        have hlt := (List.getElem?_eq_some_iff.1 g2).1
        have hx : bl[e.w + o']? = some x := by rw [cs_get b3 (by omega)]; exact g2
        have c1 := (hP _ _ hl).run σ.H e.b (e.w + o') ty kn bl x n b1 hx (tagN_keep h.keep g3)
        exact ⟨.i .i64 (n : Nat), { σ with fr := putA σ.fr o.dst (.i .i64 (n : Nat)) }, .call hop (evl1 ha e1) c1, rfl, h.put (v := .tl false s.top o') ⟨e, x, n, g1, g2, g3, g4, rfl⟩ o.dst, (WStep.refl L0 s σ).put o.dst _ _⟩
      · cases hs
    · rename_i c l o' hl hargs
      obtain ⟨x1, x2, ha, hx1, hx2⟩ := map2 hargs
      split at hs
      · rename_i hc
        obtain ⟨rfl, hpd, rfl, hf⟩ := hc
        simp at hs; subst hs
        obtain ⟨a1, e1, d1⟩ := evW_sound h.fr hx1
        obtain rfl := d1 rfl
        obtain ⟨a2, e2, e, x, n, g1, g2, g3, g4, rfl⟩ := evW_sound h.fr hx2
        have e2 : ev σ.fr x2 = some (.i .u32 (n : Nat)) := e2
        obtain ⟨e', pl, vs, t1, t2, t3, t4⟩ := htop
        rw [t1] at g1; cases g1
        obtain ⟨p, p1, p2⟩ := h.bytes e pl vs t1 t2 t3
        rw [hpd] at p1
        simp [pendB] at p1
        subst p1
        have hb := h.bound _ _ t2 t3
        have hfit := encs_fit C.flex pl vs s.k
        obtain ⟨out', H', c1, c2, c3⟩ := (hP _ _ hl).run L0 σ.H σ.out σ.bs n (Nat.le_trans h.l0 h.keep.len) h.out g4 (by rw [p2]; simp; omega)
        obtain ⟨q1, q2⟩ := h.app hf (p' := some (o', none)) (k' := s.k) c2 c3 (fun e' pl' vs' r1 r2 r3 => by
          rw [t1] at r1; cases r1
          rw [t2] at r2; cases r2
          rw [t3] at r3; cases r3
          refine ⟨uv n, by simp only [pendB, g2, g3, Option.bind_some, Option.map_some], ?_⟩
          rw [p2]; simp) o.dst
        exact ⟨out', _, .call hop (evl2 ha e1 e2) c1, rfl, q1, q2⟩
      · cases hs
    · rename_i l o' c hl hargs
      obtain ⟨x1, x2, ha, hx1, hx2⟩ := map2 hargs
      split at hs
      · rename_i hc
        obtain ⟨rfl, rfl, hpd, hf, hpl⟩ := hc
        simp at hs; subst hs
        obtain ⟨a2, e2, d2⟩ := evW_sound h.fr hx2
        obtain rfl := d2 rfl
        obtain ⟨a1, e1, e, g1, hj, rfl⟩ := evW_sound h.fr hx1
        obtain ⟨e', pl, vs, t1, t2, t3, rfl⟩ := htop
        rw [t1] at g1; cases g1
        obtain ⟨ts, x, v1, g2, g3, g4, g5⟩ := said_tags (h.said _ e _ vs t1 t2 t3) hpl
        obtain ⟨ty, kn, bl, b1, b2, b3, b4⟩ := h.blk t1 hj
        have hlt := (List.getElem?_eq_some_iff.1 g2).1
        have hx : bl[e.w + o']? = some x := by rw [cs_get b3 (by omega)]; exact g2
        obtain ⟨p, p1, p2⟩ := h.bytes e _ vs t1 t2 t3
        rw [hpd] at p1
        simp only [pendB, g2, g4, Option.bind_some, Option.map_some, Option.some.injEq] at p1
        subst p1
        have hb := h.bound _ _ t2 t3
        have henc := encs_take C.flex hpl v1
        have hfit := encs_fit C.flex s.pl vs (s.k + 1)
        rw [henc, List.length_append] at hfit
        have hel : (Ev.enc C.flex .tags (.t ts)) = uv ts.length ++ encT ts := rfl
        rw [hel, List.length_append] at hfit
        obtain ⟨out', H', c1, c2, c3⟩ := (hP _ _ hl).run L0 σ.H σ.out σ.bs e.b (e.w + o') ty kn bl x ts (Nat.le_trans h.l0 h.keep.len) h.out b1 hx ((h.lv _ e t1).2 hj).2.1 (tagRep_keep h.keep g3) (by rw [p2]; simp only [List.length_append]; omega)
        obtain ⟨q1, q2⟩ := h.app hf (p' := none) (k' := s.k + 1) c2 c3 (fun e' pl' vs' r1 r2 r3 => by
          rw [t1] at r1; cases r1
          rw [t2] at r2; cases r2
          rw [t3] at r3; cases r3
          refine ⟨[], rfl, ?_⟩
          rw [henc, p2, hel]; simp) o.dst
        exact ⟨out', _, .call hop (evl2 ha e1 e2) c1, rfl, q1, q2⟩
      · cases hs
    · cases hs
  · simp only [Option.map_eq_some_iff] at hs
    obtain ⟨v, hv, rfl⟩ := hs
    obtain ⟨hc, a, ha, hd⟩ := pureW_sound h hv
    exact ⟨a, { σ with fr := putA σ.fr o.dst a }, .pure hc ha, rfl, h.put hd o.dst, (WStep.refl L0 s σ).put o.dst _ _⟩
end
end Go.Proofs.YtopfghmpaobnnaaDoor.Rd

