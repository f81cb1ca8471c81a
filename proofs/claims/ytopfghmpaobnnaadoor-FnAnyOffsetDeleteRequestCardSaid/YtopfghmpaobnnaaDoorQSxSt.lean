import Derived.Test.YtopfghmpaobnnaaDoorQSxOp
/-
  THE CHECKER: the state that it stands for, and how that turns.
-/
namespace Go.Proofs.YtopfghmpaobnnaaDoor.Rd
set_option linter.constructorNameAsVariable false
set_option linter.unusedVariables false
set_option linter.unusedSimpArgs false
open Go Go.Proofs.YtopfghmpaobnnaaDoor.Ax Go.Proofs.YtopfghmpaobnnaaDoor.Wire
set_option linter.unusedVariables false
set_option maxRecDepth 100000
set_option linter.unusedSimpArgs false

structure Sta where
  η : Env
  fr : List AV
  H : Heap
  nn : Bool
  st : Option B
  vs : List V

/-- The state that the checker speaks of; the reading began at st0. -/
structure OK (C : Cfg) (st0 : Option B) (s : SS) (σ : Sta) : Prop where
  fr : FR σ.η s.fr σ.fr
  win : WR σ.η s.win σ.H
  ln : σ.η.lv.length ≤ σ.η.ln.length
  nd : (σ.η.rb :: σ.η.lv.map Lv.b).Nodup
  room : Room (AO σ.η) σ.H σ.η.rb
  rd : s.rdy = true → RdAt (AO σ.η) tR σ.H σ.η.rb σ.nn σ.st
  rbl : σ.η.rb < σ.H.length
  avl : σ.η.av.length = s.base + s.evs.length
  one : ∀ (n : Nat) (a : AV), σ.η.av[n]? = some a → a.cells.all AV.one = true
  wid : ∀ (i : Nat) (e : Ev) (a : AV), s.evs[i]? = some e → σ.η.av[s.base + i]? = some a → a.cells.length = e.wide
  zl : s.zs.length = s.win.length
  zer : ∀ (l : Nat) (e : Lv) (w z : SF), σ.η.lv[l]? = some e → s.win[l]? = some w → s.zs[l]? = some (some z) → z.length = w.length ∧ ∃ ty bl n, σ.H[e.b]? = some (.cells ty .row bl) ∧ σ.η.ln[l]? = some n ∧ bl.length = n * w.length ∧
    ∀ (q : Nat), e.j < q → q < n → ∀ (o : Nat) (v : SV), z[o]? = some v → ∃ a, bl[q * w.length + o]? = some a ∧ a.one = true ∧ den σ.η v a
  lvj : ∀ (l : Nat) (e : Lv), s.live ≤ l → σ.η.lv[l]? = some e → e.j = 0
  run : match σ.st with
    | some r => ∃ bs0, st0 = some bs0 ∧ runE C.flex s.evs bs0 = some (σ.vs, r)
    | none => st0.bind (runE C.flex s.evs) = none
  rep : σ.st.isSome = true → ∀ (i : Nat) (e : Ev) (v : V) (a : AV), s.evs[i]? = some e → σ.vs[i]? = some v → σ.η.av[s.base + i]? = some a → RepE (AO σ.η) σ.H e v a

/-- The levels' blocks stay as they are outside of the structs. -/
def Side (η : Env) (win : List SF) (H H' : Heap) : Prop :=
  ∀ (l : Nat) (e : Lv) (w : SF) (ty : TypeId) (kn : Kn) (cs : List AV), η.lv[l]? = some e → win[l]? = some w → H[e.b]? = some (.cells ty kn cs) → ∃ cs', H'[e.b]? = some (.cells ty kn cs') ∧ cs'.length = cs.length ∧ ∀ (p : Nat), p < e.w ∨ e.w + w.length ≤ p → cs'[p]? = cs[p]?
theorem Side.refl (η : Env) (win : List SF) (H : Heap) : Side η win H H := fun l e w ty kn cs _ _ h => ⟨cs, h, rfl, fun _ _ => rfl⟩
structure Pre {α : Type} (a b : List α) : Prop where
  at_ : ∀ (i : Nat) (x : α), a[i]? = some x → b[i]? = some x
theorem Pre.refl {α : Type} (a : List α) : Pre a a := ⟨fun _ _ h => h⟩
theorem Pre.trans {α : Type} {a b c : List α} (h : Pre a b) (k : Pre b c) : Pre a c := ⟨fun i x y => k.at_ i x (h.at_ i x y)⟩
theorem Pre.app {α : Type} (a b : List α) : Pre a (a ++ b) := ⟨fun i x h => by rw [List.getElem?_append_left (List.getElem?_eq_some_iff.1 h).1]; exact h⟩
def Wl (a b : List SF) : Prop := ∀ (l : Nat) (w : SF), a[l]? = some w → ∃ w', b[l]? = some w' ∧ w'.length = w.length
structure Step (s s' : SS) (σ σ' : Sta) : Prop where
  rb : σ'.η.rb = σ.η.rb
  lv : Pre σ.η.lv σ'.η.lv
  ln : σ'.η.ln = σ.η.ln
  lq : σ'.η.lq = σ.η.lq
  av : Pre σ.η.av σ'.η.av
  kt : KT (AO σ.η) σ.H (AO σ'.η) σ'.H
  side : Side σ.η s.win σ.H σ'.H
  base : s'.base = s.base
  wl : Wl s.win s'.win
  evs : ∃ l, s'.evs = s.evs ++ l
  frl : s'.fr.length = s.fr.length
  live : s'.live = s.live
  rdy : s'.rdy = s.rdy
  rbk : s.rdy = false → σ'.H[σ.η.rb]? = σ.H[σ.η.rb]?
theorem Step.refl (s : SS) (σ : Sta) : Step s s σ σ := ⟨rfl, .refl _, rfl, rfl, .refl _, .refl _ _, .refl _ _ _, rfl, fun l w h => ⟨w, h, rfl⟩, ⟨[], by simp⟩, rfl, rfl, rfl, fun _ => rfl⟩
theorem Step.trans {s s1 s2 : SS} {σ σ1 σ2 : Sta} (h : Step s s1 σ σ1) (k : Step s1 s2 σ1 σ2) : Step s s2 σ σ2 where
  rb := k.rb.trans h.rb
  lv := h.lv.trans k.lv
  ln := k.ln.trans h.ln
  lq := k.lq.trans h.lq
  av := h.av.trans k.av
  kt := h.kt.trans k.kt
  base := k.base.trans h.base
  frl := k.frl.trans h.frl
  live := k.live.trans h.live
  rdy := k.rdy.trans h.rdy
  rbk := fun hr => by have := k.rbk (h.rdy.trans hr); rw [h.rb] at this; exact this.trans (h.rbk hr)
  wl := fun l w hw => by
    obtain ⟨w1, h1, h2⟩ := h.wl l w hw
    obtain ⟨w2, h3, h4⟩ := k.wl l w1 h1
    exact ⟨w2, h3, h4.trans h2⟩
  evs := by
    obtain ⟨a, ha⟩ := h.evs
    obtain ⟨b, hb⟩ := k.evs
    exact ⟨a ++ b, by rw [hb, ha, List.append_assoc]⟩
  side := fun l e w ty kn cs he hw hc => by
    obtain ⟨cs1, c1, c2, c3⟩ := h.side l e w ty kn cs he hw hc
    obtain ⟨w1, w2, w3⟩ := h.wl l w hw
    obtain ⟨cs2, d1, d2, d3⟩ := k.side l e w1 ty kn cs1 (h.lv.at_ _ _ he) w2 c1
    exact ⟨cs2, d1, d2.trans c2, fun p hp => (d3 p (by rw [w3]; exact hp)).trans (c3 p hp)⟩

theorem den_mono {η η' : Env} (rb : η'.rb = η.rb) (lv : Pre η.lv η'.lv) (ln : Pre η.ln η'.ln) (av : Pre η.av η'.av) {v : SV} (hq : v = .lq → η'.lq = η.lq) {a : AV} (h : den η v a) : den η' v a := by
  cases v with
  | rd => simp only [den, rb] at *; exact h
  | ptr l o => obtain ⟨e, h1, h2⟩ := h; exact ⟨e, lv.at_ _ _ h1, h2⟩
  | pt n => exact av.at_ _ _ h
  | cel n j => obtain ⟨e, h1, h2⟩ := h; exact ⟨e, av.at_ _ _ h1, h2⟩
  | row l => obtain ⟨e, n, h1, h2, h3⟩ := h; exact ⟨e, n, lv.at_ _ _ h1, ln.at_ _ _ h2, h3⟩
  | len l => obtain ⟨n, h2, h3⟩ := h; exact ⟨n, ln.at_ _ _ h2, h3⟩
  | idx l => obtain ⟨e, n, h1, h2, h3⟩ := h; exact ⟨e, n, lv.at_ _ _ h1, ln.at_ _ _ h2, h3⟩
  | nxt l => obtain ⟨e, h1, h2⟩ := h; exact ⟨e, lv.at_ _ _ h1, h2⟩
  | fin l => obtain ⟨n, h2, h3⟩ := h; exact ⟨n, ln.at_ _ _ h2, h3⟩
  | lq => simp only [den, hq rfl] at *; exact h
  | _ => exact h

theorem FR.put {η : Env} {sf : SF} {fr : List AV} (h : FR η sf fr) {v : SV} {a : AV} (d : den η v a) (t : Nat) : FR η (sf.set t v) (fr.set t a) := by
  refine ⟨by simp [h.1], fun u x b hx hb => ?_⟩
  rw [List.getElem?_set] at hx hb
  split at hx
  · rename_i e
    rw [if_pos e] at hb
    split at hx
    · split at hb
      · cases hx; cases hb; exact d
      · cases hb
    · cases hx
  · rename_i e
    rw [if_neg e] at hb
    exact h.2 u x b hx hb
theorem FR.mono {η η' : Env} {sf : SF} {fr : List AV} (h : FR η sf fr) (k : ∀ v ∈ sf, ∀ a, den η v a → den η' v a) : FR η' sf fr :=
  ⟨h.1, fun t v a hv ha => k v (List.mem_of_getElem? hv) a (h.2 t v a hv ha)⟩
theorem putA_put {s : SS} {σ : Sta} {v : SV} {a : AV} (h : FR σ.η s.fr σ.fr) (d : den σ.η v a) (o : Option Tmp) : FR σ.η (s.put o v).fr (putA σ.fr o a) := by
  cases o with
  | none => exact h
  | some t => exact FR.put h d t
theorem put_fields (s : SS) (d : Option Tmp) (v : SV) : (s.put d v).win = s.win ∧ (s.put d v).base = s.base ∧ (s.put d v).evs = s.evs ∧ (s.put d v).fr.length = s.fr.length ∧ (s.put d v).zs = s.zs ∧ (s.put d v).live = s.live ∧ (s.put d v).rdy = s.rdy := by
  cases d <;> simp [SS.put]

/-- A value put into a slot. -/
theorem OK.put {C : Cfg} {st0 : Option B} {s : SS} {σ : Sta} (h : OK C st0 s σ) {v : SV} {a : AV} (d : den σ.η v a) (o : Option Tmp) : OK C st0 (s.put o v) { σ with fr := putA σ.fr o a } where
  fr := putA_put h.fr d o
  win := by rw [(put_fields s o v).1]; exact h.win
  ln := h.ln
  nd := h.nd
  room := h.room
  rd := by rw [(put_fields s o v).2.2.2.2.2.2]; exact h.rd
  rbl := h.rbl
  avl := by rw [(put_fields s o v).2.1, (put_fields s o v).2.2.1]; exact h.avl
  one := h.one
  wid := by rw [(put_fields s o v).2.1, (put_fields s o v).2.2.1]; exact h.wid
  zl := by rw [(put_fields s o v).1, (put_fields s o v).2.2.2.2.1]; exact h.zl
  zer := by rw [(put_fields s o v).1, (put_fields s o v).2.2.2.2.1]; exact h.zer
  lvj := by rw [(put_fields s o v).2.2.2.2.2.1]; exact h.lvj
  run := by rw [(put_fields s o v).2.2.1]; exact h.run
  rep := by rw [(put_fields s o v).2.1, (put_fields s o v).2.2.1]; exact h.rep
theorem Step.put {s s1 : SS} {σ σ1 : Sta} (h : Step s s1 σ σ1) (o : Option Tmp) (v : SV) (a : AV) : Step s (s1.put o v) σ { σ1 with fr := putA σ1.fr o a } where
  rb := h.rb
  lv := h.lv
  ln := h.ln
  lq := h.lq
  av := h.av
  kt := h.kt
  side := h.side
  base := by rw [(put_fields s1 o v).2.1]; exact h.base
  wl := by rw [(put_fields s1 o v).1]; exact h.wl
  evs := by rw [(put_fields s1 o v).2.2.1]; exact h.evs
  frl := by rw [(put_fields s1 o v).2.2.2.1]; exact h.frl
  live := by rw [(put_fields s1 o v).2.2.2.2.2.1]; exact h.live
  rdy := by rw [(put_fields s1 o v).2.2.2.2.2.2]; exact h.rdy
  rbk := h.rbk
end Go.Proofs.YtopfghmpaobnnaaDoor.Rd

