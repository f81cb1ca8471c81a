/-
  THE CHECKER: the state that it stands for, and how that turns.
-/
import Derived.Test.YtiifcfngbbhgoagDoorQRdStr
set_option linter.constructorNameAsVariable false
set_option linter.unusedVariables false
set_option linter.unusedSimpArgs false
namespace Go.Proofs.YtiifcfngbbhgoagDoor.Rd
open Go Go.Proofs.YtiifcfngbbhgoagDoor.Ax Go.Proofs.YtiifcfngbbhgoagDoor.Wire
set_option maxRecDepth 100000
structure Sta where
  η : Env
  fr : List AV
  H : Heap
  nn : Bool
  st : Option B
  vs : List V
structure OK (C : Cfg) (st0 : Option B) (s : SS) (σ : Sta) : Prop where
  fr : FR σ.η s.fr σ.fr
  win : WR σ.η s.win σ.H
  ln : σ.η.lv.length ≤ σ.η.ln.length
  nd : (σ.η.rb :: σ.η.lv.map Lv.b).Nodup
  room : Room (AO σ.η) σ.H σ.η.rb
  rd : s.rdy = true → RdAt (AO σ.η) tR σ.H σ.η.rb σ.nn σ.st
  rbl : σ.η.rb < σ.H.length
  avl : σ.η.av.length = s.base + s.evs.length
  one : ∀ (n : Nat) (a : AV), σ.η.av[n]? = some a → a.cells.all AV.one = true
  wid : ∀ (i : Nat) (e : Ev) (a : AV), s.evs[i]? = some e → σ.η.av[s.base + i]? = some a → a.cells.length = e.wide
  zl : s.zs.length = s.win.length
  zer : ∀ (l : Nat) (e : Lv) (w z : SF), σ.η.lv[l]? = some e → s.win[l]? = some w → s.zs[l]? = some (some z) → z.length = w.length ∧ ∃ ty bl n, σ.H[e.b]? = some (.cells ty .row bl) ∧ σ.η.ln[l]? = some n ∧ bl.length = n * w.length ∧
    ∀ (q : Nat), e.j < q → q < n → ∀ (o : Nat) (v : SV), z[o]? = some v → ∃ a, bl[q * w.length + o]? = some a ∧ a.one = true ∧ den σ.η v a
  lvj : ∀ (l : Nat) (e : Lv), s.live ≤ l → σ.η.lv[l]? = some e → e.j = 0
  run : match σ.st with
    | some r => ∃ bs0, st0 = some bs0 ∧ runE C.flex s.evs bs0 = some (σ.vs, r)
    | none => st0.bind (runE C.flex s.evs) = none
  rep : σ.st.isSome = true → ∀ (i : Nat) (e : Ev) (v : V) (a : AV), s.evs[i]? = some e → σ.vs[i]? = some v → σ.η.av[s.base + i]? = some a → RepE (AO σ.η) σ.H e v a
def Side (η : Env) (win : List SF) (H H' : Heap) : Prop :=
  ∀ (l : Nat) (e : Lv) (w : SF) (ty : TypeId) (kn : Kn) (cs : List AV), η.lv[l]? = some e → win[l]? = some w → H[e.b]? = some (.cells ty kn cs) → ∃ cs', H'[e.b]? = some (.cells ty kn cs') ∧ cs'.length = cs.length ∧ ∀ (p : Nat), p < e.w ∨ e.w + w.length ≤ p → cs'[p]? = cs[p]?
theorem Side.refl (η : Env) (win : List SF) (H : Heap) : Side η win H H := fun l e w ty kn cs _ _ h => ⟨cs, h, rfl, fun _ _ => rfl⟩
structure Pre {α : Type} (a b : List α) : Prop where
  at_ : ∀ (i : Nat) (x : α), a[i]? = some x → b[i]? = some x
theorem Pre.refl {α : Type} (a : List α) : Pre a a := ⟨fun _ _ h => h⟩
theorem Pre.trans {α : Type} {a b c : List α} (h : Pre a b) (k : Pre b c) : Pre a c := ⟨fun i x y => k.at_ i x (h.at_ i x y)⟩
theorem Pre.app {α : Type} (a b : List α) : Pre a (a ++ b) := ⟨fun i x h => by rw [List.getElem?_append_left (List.getElem?_eq_some_iff.1 h).1]; exact h⟩
def Wl (a b : List SF) : Prop := ∀ (l : Nat) (w : SF), a[l]? = some w → ∃ w', b[l]? = some w' ∧ w'.length = w.length
structure Step (s s' : SS) (σ σ' : Sta) : Prop where
  rb : σ'.η.rb = σ.η.rb
  lv : Pre σ.η.lv σ'.η.lv
  ln : σ'.η.ln = σ.η.ln
  lq : σ'.η.lq = σ.η.lq
  av : Pre σ.η.av σ'.η.av
  kt : KT (AO σ.η) σ.H (AO σ'.η) σ'.H
  side : Side σ.η s.win σ.H σ'.H
  base : s'.base = s.base
  wl : Wl s.win s'.win
  evs : ∃ l, s'.evs = s.evs ++ l
  frl : s'.fr.length = s.fr.length
  live : s'.live = s.live
  rdy : s'.rdy = s.rdy
  rbk : s.rdy = false → σ'.H[σ.η.rb]? = σ.H[σ.η.rb]?
theorem Step.refl (s : SS) (σ : Sta) : Step s s σ σ := ⟨rfl, .refl _, rfl, rfl, .refl _, .refl _ _, .refl _ _ _, rfl, fun l w h => ⟨w, h, rfl⟩, ⟨[], by simp⟩, rfl, rfl, rfl, fun _ => rfl⟩
theorem Step.trans {s s1 s2 : SS} {σ σ1 σ2 : Sta} (h : Step s s1 σ σ1) (k : Step s1 s2 σ1 σ2) : Step s s2 σ σ2 where
  rb := k.rb.trans h.rb
  lv := h.lv.trans k.lv
  ln := k.ln.trans h.ln
  lq := k.lq.trans h.lq
  av := h.av.trans k.av
  kt := h.kt.trans k.kt
  base := k.base.trans h.base
  frl := k.frl.trans h.frl
  live := k.live.trans h.live
  rdy := k.rdy.trans h.rdy
  rbk := fun hr => by have := k.rbk (h.rdy.trans hr); rw [h.rb] at this; exact this.trans (h.rbk hr)
  wl := fun l w hw => by
    obtain ⟨w1, h1, h2⟩ := h.wl l w hw
    obtain ⟨w2, h3, h4⟩ := k.wl l w1 h1
    exact ⟨w2, h3, h4.trans h2⟩
  evs := by
    obtain ⟨a, ha⟩ := h.evs
    obtain ⟨b, hb⟩ := k.evs
    exact ⟨a ++ b, by rw [hb, ha, List.append_assoc]⟩
  side := fun l e w ty kn cs he hw hc => by
    obtain ⟨cs1, c1, c2, c3⟩ := h.side l e w ty kn cs he hw hc
    obtain ⟨w1, w2, w3⟩ := h.wl l w hw
    obtain ⟨cs2, d1, d2, d3⟩ := k.side l e w1 ty kn cs1 (h.lv.at_ _ _ he) w2 c1
    exact ⟨cs2, d1, d2.trans c2, fun p hp => (d3 p (by rw [w3]; exact hp)).trans (c3 p hp)⟩
theorem den_mono {η η' : Env} (rb : η'.rb = η.rb) (lv : Pre η.lv η'.lv) (ln : Pre η.ln η'.ln) (av : Pre η.av η'.av) {v : SV} (hq : v = .lq → η'.lq = η.lq) {a : AV} (h : den η v a) : den η' v a := by
  cases v with
  | rd => simp only [den, rb] at *; exact h
  | ptr l o => obtain ⟨e, h1, h2⟩ := h; exact ⟨e, lv.at_ _ _ h1, h2⟩
  | pt n => exact av.at_ _ _ h
  | cel n j => obtain ⟨e, h1, h2⟩ := h; exact ⟨e, av.at_ _ _ h1, h2⟩
  | row l => obtain ⟨e, n, h1, h2, h3⟩ := h; exact ⟨e, n, lv.at_ _ _ h1, ln.at_ _ _ h2, h3⟩
  | len l => obtain ⟨n, h2, h3⟩ := h; exact ⟨n, ln.at_ _ _ h2, h3⟩
  | idx l => obtain ⟨e, n, h1, h2, h3⟩ := h; exact ⟨e, n, lv.at_ _ _ h1, ln.at_ _ _ h2, h3⟩
  | nxt l => obtain ⟨e, h1, h2⟩ := h; exact ⟨e, lv.at_ _ _ h1, h2⟩
  | fin l => obtain ⟨n, h2, h3⟩ := h; exact ⟨n, ln.at_ _ _ h2, h3⟩
  | lq => simp only [den, hq rfl] at *; exact h
  | vr n lo hi => obtain ⟨k, h1, h2⟩ := h; exact ⟨k, av.at_ _ _ h1, h2⟩
  | _ => exact h
theorem FR.put {η : Env} {sf : SF} {fr : List AV} (h : FR η sf fr) {v : SV} {a : AV} (d : den η v a) (t : Nat) : FR η (sf.set t v) (fr.set t a) := by
  refine ⟨by simp [h.1], fun u x b hx hb => ?_⟩
  rw [List.getElem?_set] at hx hb
  split at hx
  · rename_i e
    rw [if_pos e] at hb
    split at hx
    · split at hb
      · cases hx; cases hb; exact d
      · cases hb
    · cases hx
  · rename_i e
    rw [if_neg e] at hb
    exact h.2 u x b hx hb
theorem FR.mono {η η' : Env} {sf : SF} {fr : List AV} (h : FR η sf fr) (k : ∀ v ∈ sf, ∀ a, den η v a → den η' v a) : FR η' sf fr :=
  ⟨h.1, fun t v a hv ha => k v (List.mem_of_getElem? hv) a (h.2 t v a hv ha)⟩
theorem putA_put {s : SS} {σ : Sta} {v : SV} {a : AV} (h : FR σ.η s.fr σ.fr) (d : den σ.η v a) (o : Option Tmp) : FR σ.η (s.put o v).fr (putA σ.fr o a) := by
  cases o with
  | none => exact h
  | some t => exact FR.put h d t
theorem put_fields (s : SS) (d : Option Tmp) (v : SV) : (s.put d v).win = s.win ∧ (s.put d v).base = s.base ∧ (s.put d v).evs = s.evs ∧ (s.put d v).fr.length = s.fr.length ∧ (s.put d v).zs = s.zs ∧ (s.put d v).live = s.live ∧ (s.put d v).rdy = s.rdy := by
  cases d <;> simp [SS.put]
theorem OK.put {C : Cfg} {st0 : Option B} {s : SS} {σ : Sta} (h : OK C st0 s σ) {v : SV} {a : AV} (d : den σ.η v a) (o : Option Tmp) : OK C st0 (s.put o v) { σ with fr := putA σ.fr o a } where
  fr := putA_put h.fr d o
  win := by rw [(put_fields s o v).1]; exact h.win
  ln := h.ln
  nd := h.nd
  room := h.room
  rd := by rw [(put_fields s o v).2.2.2.2.2.2]; exact h.rd
  rbl := h.rbl
  avl := by rw [(put_fields s o v).2.1, (put_fields s o v).2.2.1]; exact h.avl
  one := h.one
  wid := by rw [(put_fields s o v).2.1, (put_fields s o v).2.2.1]; exact h.wid
  zl := by rw [(put_fields s o v).1, (put_fields s o v).2.2.2.2.1]; exact h.zl
  zer := by rw [(put_fields s o v).1, (put_fields s o v).2.2.2.2.1]; exact h.zer
  lvj := by rw [(put_fields s o v).2.2.2.2.2.1]; exact h.lvj
  run := by rw [(put_fields s o v).2.2.1]; exact h.run
  rep := by rw [(put_fields s o v).2.1, (put_fields s o v).2.2.1]; exact h.rep
theorem Step.put {s s1 : SS} {σ σ1 : Sta} (h : Step s s1 σ σ1) (o : Option Tmp) (v : SV) (a : AV) : Step s (s1.put o v) σ { σ1 with fr := putA σ1.fr o a } where
  rb := h.rb
  lv := h.lv
  ln := h.ln
  lq := h.lq
  av := h.av
  kt := h.kt
  side := h.side
  base := by rw [(put_fields s1 o v).2.1]; exact h.base
  wl := by rw [(put_fields s1 o v).1]; exact h.wl
  evs := by rw [(put_fields s1 o v).2.2.1]; exact h.evs
  frl := by rw [(put_fields s1 o v).2.2.2.1]; exact h.frl
  live := by rw [(put_fields s1 o v).2.2.2.2.2.1]; exact h.live
  rdy := by rw [(put_fields s1 o v).2.2.2.2.2.2]; exact h.rdy
  rbk := h.rbk
end Go.Proofs.YtiifcfngbbhgoagDoor.Rd

namespace Go.Proofs.YtiifcfngbbhgoagDoor.Rd
open Go Go.Proofs.YtiifcfngbbhgoagDoor.Ax Go.Proofs.YtiifcfngbbhgoagDoor.Wire
set_option maxRecDepth 100000
theorem setAll_length : ∀ (cs w : SF) (o : Nat), (setAll w o cs).length = w.length
  | [], w, o => rfl
  | v :: r, w, o => by unfold setAll; rw [setAll_length r]; simp
theorem setAll_get : ∀ (cs w : SF) (o p : Nat), o + cs.length ≤ w.length → (setAll w o cs)[p]? = if o ≤ p ∧ p < o + cs.length then cs[p - o]? else w[p]?
  | [], w, o, p, h => by
    unfold setAll
    rw [if_neg (by simp; try omega)]
  | v :: r, w, o, p, h => by
    unfold setAll
    simp only [List.length_cons] at h
    rw [setAll_get r _ _ _ (by simp; omega), List.getElem?_set]
    simp only [List.length_cons]
    by_cases e : o = p
    · subst e
      rw [if_neg (by omega), if_pos rfl, if_pos (by omega), if_pos (by omega)]
      simp
    · rw [if_neg e]
      by_cases q : o + 1 ≤ p ∧ p < o + 1 + r.length
      · rw [if_pos q, if_pos (by omega)]
        rw [show p - o = (p - (o + 1)) + 1 by omega]
        simp
      · rw [if_neg q, if_neg (by omega)]
theorem over_get {cs new : List AV} {o : Nat} (h : o + new.length ≤ cs.length) (p : Nat) : (over cs new o)[p]? = if o ≤ p ∧ p < o + new.length then new[p - o]? else cs[p]? := by
  unfold over
  by_cases h1 : p < o
  · rw [if_neg (by omega), List.append_assoc, List.getElem?_append_left (by simp; omega), List.getElem?_take, if_pos h1]
  · rw [List.append_assoc, List.getElem?_append_right (by simp; omega)]
    have : (cs.take o).length = o := by simp; omega
    rw [this]
    by_cases h2 : p < o + new.length
    · rw [if_pos (by omega), List.getElem?_append_left (by omega)]
    · rw [if_neg (by omega), List.getElem?_append_right (by omega), List.getElem?_drop]
      congr 1; omega
theorem over_len {cs new : List AV} {o : Nat} (h : o + new.length ≤ cs.length) : (over cs new o).length = cs.length := by
  unfold over; simp; omega
theorem one_cells {a : AV} (h : a.one = true) : a.cells = [a] := by cases a <;> first | rfl | simp [AV.one] at h
theorem cellsS_sound {η : Env} {v : SV} {sz : Nat} {cs : SF} {y : AV} (h : cellsS v sz = some cs) (d : den η v y) (ho : ∀ (n : Nat) (a : AV), η.av[n]? = some a → a.cells.all AV.one = true) (hp : ∀ (n : Nat), v = .pt n → y.cells.length = cs.length) :
    cs.length = sz ∧ y.cells.length = sz ∧ y.cells.all AV.one = true ∧ ∀ (j : Nat) (x : SV), cs[j]? = some x → ∃ b, y.cells[j]? = some b ∧ den η x b := by
  have hcon : ∀ {v : SV}, (∀ n, v ≠ .pt n) → (if sz = 1 ∧ v.con.isSome then some [v] else none) = some cs → den η v y → cs.length = sz ∧ y.cells.length = sz ∧ y.cells.all AV.one = true ∧ ∀ (j : Nat) (x : SV), cs[j]? = some x → ∃ b, y.cells[j]? = some b ∧ den η x b := by
    intro v _ h5 d
    by_cases hc : sz = 1 ∧ v.con.isSome = true
    · rw [if_pos hc] at h5
      obtain ⟨rfl, hc⟩ := hc
      cases h5
      cases hv : v.con with
      | none => rw [hv] at hc; cases hc
      | some a =>
        obtain rfl := con_den hv d
        obtain ⟨h1, h2⟩ := con_one hv
        refine ⟨rfl, by rw [h2]; rfl, by rw [h2]; simp [h1], fun j x hj => ?_⟩
        cases j with
        | zero => simp at hj; subst hj; exact ⟨y, by rw [h2]; rfl, d⟩
        | succ j => simp at hj
    · rw [if_neg hc] at h5; cases h5
  unfold cellsS at h
  split at h
  · rename_i n
    simp at h; subst h
    have hl := hp n rfl
    simp at hl
    refine ⟨by simp, hl, ho n y d, fun j x hj => ?_⟩
    simp only [List.getElem?_map, Option.map_eq_some_iff] at hj
    obtain ⟨j', hj', rfl⟩ := hj
    have hlt := (List.getElem?_eq_some_iff.1 hj').1
    simp at hlt
    simp [List.getElem?_range hlt] at hj'
    subst hj'
    exact ⟨y.cells[j], by simp [hl, hlt], y, d, by simp [hl, hlt]⟩
  · rename_i n j
    split at h
    · rename_i e; subst e
      simp at h; subst h
      obtain ⟨a, h1, h2⟩ := d
      have h3 : y.one = true := by
        have := ho n a h1
        rw [List.all_eq_true] at this
        exact this y (List.mem_of_getElem? h2)
      rw [one_cells h3]
      refine ⟨rfl, rfl, by simp [h3], fun j' x hj => ?_⟩
      cases j' with
      | zero => simp at hj; subst hj; exact ⟨y, rfl, a, h1, h2⟩
      | succ j => simp at hj
    · cases h
  · rename_i l o
    split at h
    · rename_i e; subst e
      simp at h; subst h
      obtain ⟨e, h1, rfl⟩ := d
      refine ⟨rfl, rfl, rfl, fun j' x hj => ?_⟩
      cases j' with
      | zero => simp at hj; subst hj; exact ⟨_, rfl, e, h1, rfl⟩
      | succ j => simp at hj
    · cases h
  · rename_i hn _ _
    exact hcon (fun n e => hn n e) h d
theorem AO_lv {η : Env} {l : Nat} {e : Lv} (h : η.lv[l]? = some e) : ¬ AO η e.b := by
  unfold AO
  intro hn
  apply hn
  exact List.mem_cons_of_mem _ (List.mem_map.2 ⟨e, List.mem_of_getElem? h, rfl⟩)
theorem AO_rb (η : Env) : ¬ AO η η.rb := by simp [AO]
theorem nd_lv {η : Env} (nd : (η.rb :: η.lv.map Lv.b).Nodup) {l l' : Nat} {e e' : Lv} (h : η.lv[l]? = some e) (h' : η.lv[l']? = some e') (hb : e.b = e'.b) : l = l' := by
  have hn := (List.nodup_cons.1 nd).2
  have h1 : (η.lv.map Lv.b)[l]? = some e.b := by simp [h]
  have h2 : (η.lv.map Lv.b)[l']? = some e.b := by simp [h', hb]
  have l1 := (List.getElem?_eq_some_iff.1 h1).1
  exact (List.getElem?_inj l1 hn).1 (h1.trans h2.symm)
theorem nd_rb {η : Env} (nd : (η.rb :: η.lv.map Lv.b).Nodup) {l : Nat} {e : Lv} (h : η.lv[l]? = some e) : e.b ≠ η.rb := by
  intro hb
  exact (List.nodup_cons.1 nd).1 (by rw [← hb]; exact List.mem_map.2 ⟨e, List.mem_of_getElem? h, rfl⟩)
theorem rdAt_kt {A A' : Nat → Prop} {H H' : Heap} {rb : Nat} {nn : Bool} {st : Option B} (h : RdAt A tR H rb nn st) (k : KT A H A' H') (e : H'[rb]? = H[rb]?) : RdAt A' tR H' rb nn st := by
  cases st with
  | none => exact e.trans h
  | some bs =>
    obtain ⟨src, h1, h2, h3⟩ := h
    exact ⟨src, e.trans h1, BytesAt.kt h2 k, h3⟩
theorem rdAt_lt {A : Nat → Prop} {H : Heap} {rb : Nat} {nn : Bool} {st : Option B} (h : RdAt A tR H rb nn st) : rb < H.length := by
  obtain ⟨src, b, h1, _⟩ := RdAt.cell h
  exact (List.getElem?_eq_some_iff.1 h1).1
theorem OK.store {C : Cfg} {st0 : Option B} {s s1 : SS} {σ : Sta} (h : OK C st0 s σ) {t : TypeId} {a v : SV} {x y : AV} (hs : storeS t a v s = some s1) (da : den σ.η a x) (dv : den σ.η v y) :
    ∃ H1, storeA P σ.H t x y = some H1 ∧ OK C st0 s1 { σ with H := H1 } ∧ Step s s1 σ { σ with H := H1 } ∧ s1.evs = s.evs := by
  unfold storeS at hs
  split at hs
  · rename_i l o
    split at hs
    · rename_i w cs hwl hcs
      split at hs
      · rename_i hc
        obtain ⟨hc, hpt⟩ := hc
        simp at hs; subst hs
        obtain ⟨e, he, rfl⟩ := da
        obtain ⟨w1, ty, kn, bl, b1, b2, b3, b4⟩ := h.win.2 _ _ _ he hwl
        cases hsz : sizeA P t with
        | none => rw [hsz] at hcs; cases hcs
        | some sz =>
          rw [hsz] at hcs
          simp only [Option.bind_some] at hcs
          obtain ⟨c1, c2, c3, c4⟩ := cellsS_sound hcs dv h.one (fun n hn => by
            subst hn
            simp only [ptOk, Bool.and_eq_true, decide_eq_true_eq, beq_iff_eq] at hpt
            obtain ⟨p1, p2⟩ := hpt
            simp only [Option.map_eq_some_iff] at p2
            obtain ⟨ev, p3, p4⟩ := p2
            rw [← p4]
            have d : σ.η.av[n]? = some y := dv
            exact h.wid _ _ _ p3 (by rw [show s.base + (n - s.base) = n by omega]; exact d))
          have hfit : e.w + o + y.cells.length ≤ bl.length := by omega
          have hne : ∀ i, i ≠ e.b → ∀ z, (σ.H.set e.b z)[i]? = σ.H[i]? := fun i hi z => by rw [List.getElem?_set, if_neg (fun x => hi x.symm)]
          have hkt : KT (AO σ.η) σ.H (AO σ.η) (σ.H.set e.b (.cells ty kn (over bl y.cells (e.w + o)))) := Keep.kt (Keep.set (AO_lv he) _)
          have hse : (σ.H.set e.b (.cells ty kn (over bl y.cells (e.w + o))))[e.b]? = some (.cells ty kn (over bl y.cells (e.w + o))) := List.getElem?_set_self (List.getElem?_eq_some_iff.1 b1).1
          refine ⟨σ.H.set e.b (.cells ty kn (over bl y.cells (e.w + o))), ?_, ?_, ?_, rfl⟩
          · simp only [storeA, b1, hsz]
            rw [if_pos ⟨b2, by omega, by omega, c3⟩]
          · refine ⟨h.fr, ⟨by simp [h.win.1], fun l' e' w' he' hw' => ?_⟩, h.ln, h.nd, h.room.keep hkt.keep, fun hr => rdAt_kt (h.rd hr) hkt (hne _ (fun x => nd_rb h.nd he x.symm) _), by simpa using h.rbl, h.avl, h.one, h.wid, by simp [h.zl], fun l' e' w' z he' hw' hz => ?_, h.lvj, h.run, fun hst i ev vv aa q1 q2 q3 => RepE.kt hkt (h.rep hst i ev vv aa q1 q2 q3)⟩
            have hw'' : (s.win.set l (setAll w o cs))[l']? = some w' := hw'
            rw [List.getElem?_set] at hw''
            by_cases hl : l = l'
            · subst hl
              rw [if_pos rfl] at hw''
              split at hw''
              · cases hw''
                have he2 : σ.η.lv[l]? = some e' := he'
                rw [he] at he2; cases he2
                rw [setAll_length]
                refine ⟨w1, ty, kn, _, hse, b2, by rw [setAll_length, over_len hfit]; exact b3, fun p z hz => ?_⟩
                rw [setAll_get _ _ _ _ hc] at hz
                rw [over_get hfit]
                split at hz
                · rename_i hq
                  obtain ⟨b, hb, db⟩ := c4 _ _ hz
                  rw [if_pos (by omega), show e.w + p - (e.w + o) = p - o by omega]
                  refine ⟨b, hb, ?_, db⟩
                  rw [List.all_eq_true] at c3
                  exact c3 b (List.mem_of_getElem? hb)
                · rename_i hq
                  rw [if_neg (by omega)]
                  exact b4 p z hz
              · cases hw''
            · rw [if_neg hl] at hw''
              obtain ⟨q1, ty', kn', cs', q2, q3, q4, q5⟩ := h.win.2 _ _ _ he' hw''
              exact ⟨q1, ty', kn', cs', (hne _ (fun x => hl (nd_lv h.nd he he' x.symm)) _).trans q2, q3, q4, q5⟩
            have hw'' : (s.win.set l (setAll w o cs))[l']? = some w' := hw'
            rw [List.getElem?_set] at hw''
            by_cases hl : l = l'
            · subst hl
              rw [if_pos rfl] at hw''
              split at hw''
              · cases hw''
                have he2 : σ.η.lv[l]? = some e' := he'
                rw [he] at he2; cases he2
                obtain ⟨z1, ty', bl', n, z2, z3, z4, z5⟩ := h.zer _ _ _ _ he hwl hz
                rw [b1] at z2; cases z2
                rw [setAll_length]
                refine ⟨z1, ty, _, n, hse, z3, by rw [over_len hfit]; exact z4, fun q hq hqn o' v' hv' => ?_⟩
                obtain ⟨a, a1, a2, a3⟩ := z5 q hq hqn o' v' hv'
                refine ⟨a, ?_, a2, a3⟩
                rw [over_get hfit, if_neg ?_]
                · exact a1
                · have := Nat.mul_le_mul_right w.length (show e.j + 1 ≤ q by omega)
                  rw [Nat.add_mul] at this
                  omega
              · cases hw''
            · rw [if_neg hl] at hw''
              obtain ⟨z1, ty', bl', n, z2, z3⟩ := h.zer _ _ _ _ he' hw'' hz
              exact ⟨z1, ty', bl', n, (hne _ (fun x => hl (nd_lv h.nd he he' x.symm)) _).trans z2, z3⟩
          · refine ⟨rfl, .refl _, rfl, rfl, .refl _, hkt, fun l' e' w' ty' kn' cs' he' hw' hh => ?_, rfl, fun l' w' hw' => ?_, ⟨[], by simp⟩, rfl, rfl, rfl, fun _ => hne _ (fun x => nd_rb h.nd he x.symm) _⟩
            · by_cases hl : l = l'
              · subst hl
                rw [he] at he'; cases he'
                rw [hwl] at hw'; cases hw'
                rw [b1] at hh; cases hh
                refine ⟨_, hse, over_len hfit, fun p hp => ?_⟩
                rw [over_get hfit, if_neg (by omega)]
              · exact ⟨cs', (hne _ (fun x => hl (nd_lv h.nd he he' x.symm)) _).trans hh, rfl, fun _ _ => rfl⟩
            · by_cases hl : l = l'
              · subst hl
                rw [hwl] at hw'; cases hw'
                exact ⟨setAll w o cs, List.getElem?_set_self (List.getElem?_eq_some_iff.1 hwl).1, setAll_length _ _ _⟩
              · exact ⟨w', by rw [List.getElem?_set, if_neg hl]; exact hw', rfl⟩
      · cases hs
    · cases hs
  · cases hs
theorem ofA_one {c : AV} (h : ofA c ≠ .u) : c.one = true := by cases c <;> first | rfl | exact absurd rfl h
theorem zerosA_get {z : List AV} : ∀ {n : Nat}, 0 < n → ∀ {o : Nat}, o < z.length → (zerosA z n)[o]? = z[o]?
  | n + 1, _, o, h => by unfold zerosA; rw [List.getElem?_append_left h]
theorem zerosA_length (z : List AV) : ∀ n, (zerosA z n).length = n * z.length
  | 0 => by simp [zerosA]
  | n + 1 => by unfold zerosA; rw [List.length_append, zerosA_length z n, Nat.add_mul]; omega
theorem zerosA_at {z : List AV} : ∀ {n q : Nat}, q < n → ∀ {o : Nat}, o < z.length → (zerosA z n)[q * z.length + o]? = z[o]?
  | n + 1, 0, _, o, h => by rw [Nat.zero_mul, Nat.zero_add]; exact zerosA_get (by omega) h
  | n + 1, q + 1, hq, o, h => by
    unfold zerosA
    rw [List.getElem?_append_right (by rw [Nat.add_mul]; omega), ← zerosA_at (n := n) (q := q) (by omega) h]
    congr 1
    rw [Nat.add_mul]; omega
theorem KT.new (A : Nat → Prop) (H K : Heap) : KT A H (fun i => A i ∧ i ≠ H.length) (H ++ K) := ⟨by simp, fun i b a x => by
  have := (List.getElem?_eq_some_iff.1 x).1
  exact ⟨⟨a, by omega⟩, by rw [List.getElem?_append_left this]; exact x⟩⟩
theorem OK.grow {C : Cfg} {st0 : Option B} {s : SS} {σ : Sta} (h : OK C st0 s σ) (K : Heap) : OK C st0 s { σ with H := σ.H ++ K } ∧ Step s s σ { σ with H := σ.H ++ K } := by
  have hkt : KT (AO σ.η) σ.H (AO σ.η) (σ.H ++ K) := Keep.kt (Keep.app _ _ _)
  have hat : ∀ {i : Nat} {b : Blk}, σ.H[i]? = some b → (σ.H ++ K)[i]? = some b := fun h => (Grows.app σ.H K).at h
  refine ⟨⟨h.fr, ⟨h.win.1, fun l e w he hw => ?_⟩, h.ln, h.nd, h.room.keep hkt.keep, fun hr => rdAt_kt (h.rd hr) hkt (by rw [List.getElem?_append_left h.rbl]), by have := h.rbl; simp; omega, h.avl, h.one, h.wid, h.zl, fun l e w z he hw hz => ?_, h.lvj, h.run, fun hst i ev vv aa q1 q2 q3 => RepE.kt hkt (h.rep hst i ev vv aa q1 q2 q3)⟩,
    ⟨rfl, .refl _, rfl, rfl, .refl _, hkt, fun l e w ty kn cs he hw hc => ⟨cs, hat hc, rfl, fun _ _ => rfl⟩, rfl, fun l w hw => ⟨w, hw, rfl⟩, ⟨[], by simp⟩, rfl, rfl, rfl, fun _ => by rw [List.getElem?_append_left h.rbl]⟩⟩
  · obtain ⟨q1, ty', kn', cs', q2, q3⟩ := h.win.2 _ _ _ he hw
    exact ⟨q1, ty', kn', cs', hat q2, q3⟩
  · obtain ⟨z1, ty', bl', n, z2, z3⟩ := h.zer _ _ _ _ he hw hz
    exact ⟨z1, ty', bl', n, hat z2, z3⟩
theorem zerosS_some {e : TypeId} {zs : SF} (h : zerosS e = some zs) : ∃ z, zeroA P e = some z ∧ zs = z.cells.map ofA ∧ z.cells.all AV.one = true := by
  unfold zerosS at h
  cases hz : zeroA P e with
  | none => rw [hz] at h; cases h
  | some z =>
    rw [hz] at h
    simp only [Option.bind_some] at h
    split at h
    · rename_i ha
      simp at h
      refine ⟨z, rfl, h.symm, ?_⟩
      rw [List.all_eq_true] at ha ⊢
      intro c hc
      have := ha c hc
      exact ofA_one (by simpa using this)
    · cases h
theorem OK.row {C : Cfg} {st0 : Option B} {s : SS} {σ : Sta} (h : OK C st0 s σ) {n : Nat} (hn : σ.η.ln[s.win.length]? = some n) (h0 : 0 < n) {e : TypeId} {z : AV} (hz : z.cells.all AV.one = true) :
    OK C st0 { s with win := s.win ++ [z.cells.map ofA], zs := s.zs ++ [some (z.cells.map ofA)] } { σ with η := { σ.η with lv := σ.η.lv ++ [⟨σ.H.length, 0, 0⟩] }, H := σ.H ++ [.cells e .row (zerosA z.cells n)] } ∧
    Step s { s with win := s.win ++ [z.cells.map ofA], zs := s.zs ++ [some (z.cells.map ofA)] } σ { σ with η := { σ.η with lv := σ.η.lv ++ [⟨σ.H.length, 0, 0⟩] }, H := σ.H ++ [.cells e .row (zerosA z.cells n)] } := by
  have hlt : ∀ (l : Nat) (e' : Lv), σ.η.lv[l]? = some e' → e'.b < σ.H.length := fun l e' he' => by
    have hl : l < s.win.length := by have := (List.getElem?_eq_some_iff.1 he').1; have := h.win.1; omega
    obtain ⟨_, ty, kn, cs, q, _⟩ := h.win.2 l e' s.win[l] he' (by simp [hl])
    exact (List.getElem?_eq_some_iff.1 q).1
  have hAO : ∀ i, AO { σ.η with lv := σ.η.lv ++ [⟨σ.H.length, 0, 0⟩] } i ↔ AO σ.η i ∧ i ≠ σ.H.length := fun i => by
    simp [AO, not_or, and_assoc]
  have hkt : KT (AO σ.η) σ.H (AO { σ.η with lv := σ.η.lv ++ [⟨σ.H.length, 0, 0⟩] }) (σ.H ++ [.cells e .row (zerosA z.cells n)]) := by
    have := KT.new (AO σ.η) σ.H [.cells e .row (zerosA z.cells n)]
    exact ⟨this.1, fun i b a x => ⟨(hAO i).2 (this.2 i b a x).1, (this.2 i b a x).2⟩⟩
  have hm : ∀ v a, den σ.η v a → den { σ.η with lv := σ.η.lv ++ [⟨σ.H.length, 0, 0⟩] } v a := fun v a d => den_mono (η := σ.η) (η' := { σ.η with lv := σ.η.lv ++ [⟨σ.H.length, 0, 0⟩] }) rfl (.app _ _) (.refl _) (.refl _) (fun _ => rfl) d
  have hat : ∀ {i : Nat} {b : Blk}, σ.H[i]? = some b → (σ.H ++ [.cells e .row (zerosA z.cells n)])[i]? = some b := fun h => (Grows.app σ.H _).at h
  refine ⟨⟨h.fr.mono fun v _ a => hm v a, ⟨by simp [h.win.1], fun l e' w he' hw => ?_⟩, ?_, ?_, ?_, fun hr => rdAt_kt (h.rd hr) hkt (by rw [List.getElem?_append_left h.rbl]), by have := h.rbl; simp; omega, h.avl, h.one, h.wid, by simp [h.zl], fun l e' w z' he' hw hz' => ?_, fun l e' hl he' => ?_, h.run, fun hst i ev vv aa q1 q2 q3 => RepE.kt hkt (h.rep hst i ev vv aa q1 q2 q3)⟩,
    ⟨rfl, .app _ _, rfl, rfl, .refl _, hkt, fun l e w ty kn cs he hw hc => ⟨cs, hat hc, rfl, fun _ _ => rfl⟩, rfl, fun l w hw => ⟨w, by rw [List.getElem?_append_left (List.getElem?_eq_some_iff.1 hw).1]; exact hw, rfl⟩, ⟨[], by simp⟩, rfl, rfl, rfl, fun _ => by rw [List.getElem?_append_left h.rbl]⟩⟩
  · have he2 : (σ.η.lv ++ [⟨σ.H.length, 0, 0⟩])[l]? = some e' := he'
    have hw2 : (s.win ++ [z.cells.map ofA])[l]? = some w := hw
    by_cases hl : l < σ.η.lv.length
    · rw [List.getElem?_append_left hl] at he2
      rw [List.getElem?_append_left (by rw [h.win.1]; exact hl)] at hw2
      obtain ⟨q1, ty', kn', cs', q2, q3, q4, q5⟩ := h.win.2 _ _ _ he2 hw2
      exact ⟨q1, ty', kn', cs', hat q2, q3, q4, fun o v hv => by obtain ⟨a, a1, a2, a3⟩ := q5 o v hv; exact ⟨a, a1, a2, hm _ _ a3⟩⟩
    · have hl2 := (List.getElem?_eq_some_iff.1 he2).1
      simp at hl2
      obtain rfl : l = σ.η.lv.length := by omega
      simp at he2
      subst he2
      rw [← h.win.1] at hw2
      simp at hw2
      subst hw2
      refine ⟨by simp, e, .row, zerosA z.cells n, by simp, rfl, ?_, fun o v hv => ?_⟩
      · rw [zerosA_length]; simp
        exact Nat.le_mul_of_pos_left _ h0
      · simp only [List.getElem?_map, Option.map_eq_some_iff] at hv
        obtain ⟨c, hc, rfl⟩ := hv
        have hol := (List.getElem?_eq_some_iff.1 hc).1
        refine ⟨c, by rw [Nat.zero_add, zerosA_get h0 hol]; exact hc, ?_, den_ofA c⟩
        rw [List.all_eq_true] at hz
        exact hz c (List.mem_of_getElem? hc)
  · have := (List.getElem?_eq_some_iff.1 hn).1
    have := h.win.1
    simp; omega
  · have hrb := h.rbl
    have nd := h.nd
    rw [List.nodup_cons] at nd ⊢
    simp only [List.map_append, List.map_cons, List.map_nil, List.mem_append, List.mem_singleton]
    refine ⟨fun hx => ?_, ?_⟩
    · rcases hx with hx | hx
      · exact nd.1 hx
      · have : σ.η.rb = σ.H.length := hx
        omega
    · rw [List.nodup_append]
      refine ⟨nd.2, by simp, fun a ha b hb => ?_⟩
      simp at hb
      obtain ⟨e', he', rfl⟩ := List.mem_map.1 ha
      obtain ⟨l, hl⟩ := List.mem_iff_getElem?.1 he'
      have := hlt l e' hl
      omega
  · have R := h.room
    exact Room.kt R hkt (AO_rb _) (fun i hi => (hAO i).2 ⟨R.new i (by simp at hi; omega), by simp at hi; omega⟩)
  · have he2 : (σ.η.lv ++ [⟨σ.H.length, 0, 0⟩])[l]? = some e' := he'
    have hw2 : (s.win ++ [z.cells.map ofA])[l]? = some w := hw
    have hz2 : (s.zs ++ [some (z.cells.map ofA)])[l]? = some (some z') := hz'
    by_cases hl : l < σ.η.lv.length
    · rw [List.getElem?_append_left hl] at he2
      rw [List.getElem?_append_left (by rw [h.win.1]; exact hl)] at hw2
      rw [List.getElem?_append_left (by rw [h.zl, h.win.1]; exact hl)] at hz2
      obtain ⟨z1, ty', bl', n', q2, q3, q4, q5⟩ := h.zer _ _ _ _ he2 hw2 hz2
      exact ⟨z1, ty', bl', n', hat q2, q3, q4, fun q hq hqn o v hv => by obtain ⟨a, a1, a2, a3⟩ := q5 q hq hqn o v hv; exact ⟨a, a1, a2, hm _ _ a3⟩⟩
    · have hl2 := (List.getElem?_eq_some_iff.1 he2).1
      simp at hl2
      obtain rfl : l = σ.η.lv.length := by omega
      simp at he2
      subst he2
      rw [← h.win.1] at hw2 hz2
      simp at hw2
      subst hw2
      rw [← h.zl] at hz2
      simp at hz2
      subst hz2
      refine ⟨rfl, e, zerosA z.cells n, n, by simp, by rw [← h.win.1]; exact hn, by rw [zerosA_length]; simp, fun q hq hqn o v hv => ?_⟩
      simp only [List.getElem?_map, Option.map_eq_some_iff] at hv
      obtain ⟨c, hc, rfl⟩ := hv
      have hol := (List.getElem?_eq_some_iff.1 hc).1
      refine ⟨c, ?_, ?_, den_ofA c⟩
      · rw [List.length_map, zerosA_at hqn hol]; exact hc
      · rw [List.all_eq_true] at hz
        exact hz c (List.mem_of_getElem? hc)
  · have he2 : (σ.η.lv ++ [⟨σ.H.length, 0, 0⟩])[l]? = some e' := he'
    by_cases hl3 : l < σ.η.lv.length
    · rw [List.getElem?_append_left hl3] at he2
      exact h.lvj l e' hl he2
    · have hl2 := (List.getElem?_eq_some_iff.1 he2).1
      simp at hl2
      obtain rfl : l = σ.η.lv.length := by omega
      simp at he2
      subst he2; rfl
end Go.Proofs.YtiifcfngbbhgoagDoor.Rd

namespace Go.Proofs.YtiifcfngbbhgoagDoor.Rd
open Go Go.Proofs.YtiifcfngbbhgoagDoor.Ax Go.Proofs.YtiifcfngbbhgoagDoor.Wire
set_option maxRecDepth 100000
theorem OK.read {C : Cfg} {st0 : Option B} {s : SS} {σ : Sta} (h : OK C st0 s σ) (hry : s.rdy = true) {e : Ev} {y : AV} {H1 : Heap} {nn1 : Bool} {st1 : Option B} {vs1 : List V} (hw : y.cells.length = e.wide) (ho : y.cells.all AV.one = true) (hrd : RdAt (AO σ.η) tR H1 σ.η.rb nn1 st1)
    (hl : σ.H.length ≤ H1.length) (hk : ∀ i b, i ≠ σ.η.rb → σ.H[i]? = some b → H1[i]? = some b)
    (hres : match σ.st.bind (e.dec C.flex) with | none => st1 = none | some (v, r) => st1 = some r ∧ vs1 = σ.vs ++ [v] ∧ RepE (AO σ.η) H1 e v y) :
    OK C st0 { s with evs := s.evs ++ [e] } { σ with η := { σ.η with av := σ.η.av ++ [y] }, H := H1, nn := nn1, st := st1, vs := vs1 } ∧
    Step s { s with evs := s.evs ++ [e] } σ { σ with η := { σ.η with av := σ.η.av ++ [y] }, H := H1, nn := nn1, st := st1, vs := vs1 } := by
  have hkt : KT (AO σ.η) σ.H (AO σ.η) H1 := ⟨hl, fun i b a x => ⟨a, hk i b (fun e => a (by rw [e]; exact List.mem_cons_self)) x⟩⟩
  have hm : ∀ v a, den σ.η v a → den { σ.η with av := σ.η.av ++ [y] } v a := fun v a d => den_mono (η := σ.η) (η' := { σ.η with av := σ.η.av ++ [y] }) rfl (.refl _) (.refl _) (.app _ _) (fun _ => rfl) d
  have hb : ∀ {l : Nat} {e' : Lv} {b : Blk}, σ.η.lv[l]? = some e' → σ.H[e'.b]? = some b → H1[e'.b]? = some b := fun he hc => hk _ _ (nd_rb h.nd he) hc
  refine ⟨⟨h.fr.mono fun v _ a => hm v a, ⟨h.win.1, fun l e' w he' hw' => ?_⟩, h.ln, h.nd, h.room.keep hkt.keep, fun _ => hrd, Nat.lt_of_lt_of_le h.rbl hl, by simp [h.avl]; omega, fun n a hn => ?_, fun i e' a he' ha => ?_, h.zl, fun l e' w z he' hw' hz => ?_, h.lvj, ?_, fun hst i e' v a he' hv ha => ?_⟩,
    ⟨rfl, .refl _, rfl, rfl, .app _ _, hkt, fun l e' w ty kn cs he' hw' hc => ⟨cs, hb he' hc, rfl, fun _ _ => rfl⟩, rfl, fun l w hw => ⟨w, hw, rfl⟩, ⟨[e], rfl⟩, rfl, rfl, rfl, fun hr => by rw [hry] at hr; cases hr⟩⟩
  · obtain ⟨q1, ty', kn', cs', q2, q3, q4, q5⟩ := h.win.2 _ _ _ he' hw'
    exact ⟨q1, ty', kn', cs', hb he' q2, q3, q4, fun o v hv => by obtain ⟨a, a1, a2, a3⟩ := q5 o v hv; exact ⟨a, a1, a2, hm _ _ a3⟩⟩
  · have hn' : (σ.η.av ++ [y])[n]? = some a := hn
    by_cases hlt : n < σ.η.av.length
    · rw [List.getElem?_append_left hlt] at hn'; exact h.one n a hn'
    · have := (List.getElem?_eq_some_iff.1 hn').1
      simp at this
      obtain rfl : n = σ.η.av.length := by omega
      simp at hn'; subst hn'; exact ho
  · have ha' : (σ.η.av ++ [y])[s.base + i]? = some a := ha
    have he2 : (s.evs ++ [e])[i]? = some e' := he'
    by_cases hlt : i < s.evs.length
    · rw [List.getElem?_append_left (by rw [h.avl]; omega)] at ha'
      rw [List.getElem?_append_left hlt] at he2
      exact h.wid i e' a he2 ha'
    · have := (List.getElem?_eq_some_iff.1 he2).1
      simp at this
      obtain rfl : i = s.evs.length := by omega
      rw [← h.avl] at ha'
      simp at ha' he2
      subst ha'; subst he2; exact hw
  · obtain ⟨z1, ty', bl', n', q2, q3, q4, q5⟩ := h.zer _ _ _ _ he' hw' hz
    exact ⟨z1, ty', bl', n', hb he' q2, q3, q4, fun q hq hqn o v hv => by obtain ⟨a, a1, a2, a3⟩ := q5 q hq hqn o v hv; exact ⟨a, a1, a2, hm _ _ a3⟩⟩
  · have hrun := h.run
    cases hst : σ.st with
    | none =>
      rw [hst] at hrun hres
      simp only [Option.bind_none] at hres
      subst hres
      show st0.bind (runE C.flex (s.evs ++ [e])) = none
      cases st0 with
      | none => rfl
      | some bs =>
        simp only [Option.bind_some] at hrun ⊢
        rw [runE_snoc, hrun]; rfl
    | some r =>
      rw [hst] at hrun hres
      obtain ⟨bs0, rfl, hr⟩ := hrun
      simp only [Option.bind_some] at hres
      cases hd : e.dec C.flex r with
      | none =>
        rw [hd] at hres
        subst hres
        show (some bs0).bind (runE C.flex (s.evs ++ [e])) = none
        simp only [Option.bind_some]
        rw [runE_snoc, hr]; simp [hd]
      | some x =>
        obtain ⟨v, r1⟩ := x
        rw [hd] at hres
        obtain ⟨rfl, rfl, _⟩ := hres
        refine ⟨bs0, rfl, ?_⟩
        rw [runE_snoc, hr]; simp [hd]
  · have ha' : (σ.η.av ++ [y])[s.base + i]? = some a := ha
    have he2 : (s.evs ++ [e])[i]? = some e' := he'
    cases hx : σ.st.bind (e.dec C.flex) with
    | none => rw [hx] at hres; subst hres; cases hst
    | some x =>
      obtain ⟨v1, r1⟩ := x
      rw [hx] at hres
      obtain ⟨rfl, rfl, hrep⟩ := hres
      have hvl : σ.vs.length = s.evs.length ∧ σ.st.isSome = true := by
        have hrun := h.run
        cases hs2 : σ.st with
        | none => rw [hs2] at hx; cases hx
        | some r =>
          rw [hs2] at hrun
          obtain ⟨bs0, _, hr⟩ := hrun
          exact ⟨runE_length hr, rfl⟩
      have hv2 : (σ.vs ++ [v1])[i]? = some v := hv
      by_cases hlt : i < s.evs.length
      · rw [List.getElem?_append_left (by rw [h.avl]; omega)] at ha'
        rw [List.getElem?_append_left hlt] at he2
        rw [List.getElem?_append_left (by omega)] at hv2
        exact RepE.kt hkt (h.rep hvl.2 i e' v a he2 hv2 ha')
      · have := (List.getElem?_eq_some_iff.1 he2).1
        simp at this
        obtain rfl : i = s.evs.length := by omega
        rw [← h.avl] at ha'
        rw [← hvl.1] at hv2
        simp at ha' he2 hv2
        subst ha'; subst he2; subst hv2; exact hrep
def PrimOK (C : Cfg) (f : FuncId) : Prim → Prop
  | .leaf k n fx => fxOk C.flex fx = true → RdV f C.flex k n
  | .len fx => fx = C.flex → RdL f (rdL C.flex)
  | .ok => RdOk f
  | .done => RdDone f
  | .tags => RdT f
  | .inl => True
def Prims (C : Cfg) : Prop := ∀ f p, C.prim.lookup f = some p → PrimOK C f p
def InlOK (C : Cfg) (inl : Inl) : Prop := ∀ f l o s s1, inl f [.ptr l o] s = some s1 → ∀ st0 σ x, OK C st0 s σ → den σ.η (.ptr l o) x →
  ∃ σ1, CA P NS f [x] σ.H (.t [], σ1.H) ∧ σ1.fr = σ.fr ∧ OK C st0 s1 σ1 ∧ Step s s1 σ σ1 ∧ s1.evs = s.evs ∧ σ1.st = σ.st
theorem room_rb {A : Nat → Prop} {H : Heap} {rb : Nat} (h : Room A H rb) (hl : rb < H.length) : Room (fun i => i ≠ rb) H rb where
  no := by simp
  new := fun i hi => by omega
  be := ⟨fun e => h.no (e ▸ h.be.1), h.be.2⟩
  err := ⟨fun e => h.no (e ▸ h.err.1), h.err.2⟩
theorem rdAt_rb {A : Nat → Prop} {H : Heap} {rb : Nat} {nn : Bool} {st : Option B} (no : ¬ A rb) (h : RdAt A tR H rb nn st) : RdAt (fun i => i ≠ rb) tR H rb nn st :=
  rdAt_kt h ⟨Nat.le_refl _, fun i b a x => ⟨fun e => no (e ▸ a), x⟩⟩ rfl
theorem leaf_both {f : FuncId} {flex : Bool} {k : K} {null : Bool} (hf : RdV f flex k null) {A : Nat → Prop} {H : Heap} {rb : Nat} {nn : Bool} {st : Option B} (R : Room A H rb) (h : RdAt A tR H rb nn st) :
    ∃ av H1 st1, CA P NS f [.p rb 0] H (av, H1) ∧ av.cells.length = k.wide ∧ av.cells.all AV.one = true ∧ RdAt A tR H1 rb true st1 ∧ H.length ≤ H1.length ∧ (∀ i b, i ≠ rb → H[i]? = some b → H1[i]? = some b) ∧
      (match st.bind (decK flex k null) with | none => st1 = none | some (v, r) => st1 = some r ∧ RepK A H1 k null av v) := by
  cases hd : st.bind (decK flex k null) with
  | none =>
    obtain ⟨av, H1, c, w, o, r, kp⟩ := hf.bad A H rb nn st R h hd
    obtain ⟨av', H1', c', _, _, _, kp'⟩ := hf.bad _ H rb nn st (room_rb R (rdAt_lt h)) (rdAt_rb R.no h) hd
    cases CA.det c c'
    exact ⟨av, H1, none, c, w, o, r, kp.1, kp'.2, rfl⟩
  | some x =>
    obtain ⟨v, r1⟩ := x
    cases st with
    | none => cases hd
    | some bs =>
      simp only [Option.bind_some] at hd
      obtain ⟨av, H1, c, q, w, o, r, kp⟩ := hf.good A H rb nn bs v r1 R h hd
      obtain ⟨av', H1', c', _, _, _, _, kp'⟩ := hf.good _ H rb nn bs v r1 (room_rb R (rdAt_lt h)) (rdAt_rb R.no h) hd
      cases CA.det c c'
      exact ⟨av, H1, some r1, c, w, o, r, kp.1, kp'.2, rfl, q⟩
theorem tags_both {f : FuncId} (hf : RdT f) {A : Nat → Prop} {H : Heap} {rb : Nat} {nn : Bool} {st : Option B} (R : Room A H rb) (h : RdAt A tR H rb nn st) :
    ∃ av H1 st1, CA P NS f [.p rb 0] H (av, H1) ∧ av.cells.length = 1 ∧ av.cells.all AV.one = true ∧ RdAt A tR H1 rb true st1 ∧ H.length ≤ H1.length ∧ (∀ i b, i ≠ rb → H[i]? = some b → H1[i]? = some b) ∧
      (match st.bind (Ev.tags.dec true) with | none => st1 = none | some (v, r) => st1 = some r ∧ TagRep A H1 v av) := by
  cases hd : st.bind (Ev.tags.dec true) with
  | none =>
    obtain ⟨av, H1, c, w, o, r, kp⟩ := hf.bad A H rb nn st R h hd
    obtain ⟨av', H1', c', _, _, _, kp'⟩ := hf.bad _ H rb nn st (room_rb R (rdAt_lt h)) (rdAt_rb R.no h) hd
    cases CA.det c c'
    exact ⟨av, H1, none, c, w, o, r, kp.1, kp'.2, rfl⟩
  | some x =>
    obtain ⟨v, r1⟩ := x
    cases st with
    | none => cases hd
    | some bs =>
      simp only [Option.bind_some] at hd
      obtain ⟨av, H1, c, q, w, o, r, kp⟩ := hf.good A H rb nn bs v r1 R h hd
      obtain ⟨av', H1', c', _, _, _, _, kp'⟩ := hf.good _ H rb nn bs v r1 (room_rb R (rdAt_lt h)) (rdAt_rb R.no h) hd
      cases CA.det c c'
      exact ⟨av, H1, some r1, c, w, o, r, kp.1, kp'.2, rfl, q⟩
theorem num_both {f : FuncId} {kd : IntKind} {d : B → Option (Int × B)} (hf : RdN f kd d) {A : Nat → Prop} {H : Heap} {rb : Nat} {nn : Bool} {st : Option B} (R : Room A H rb) (h : RdAt A tR H rb nn st) :
    ∃ n H1 st1, CA P NS f [.p rb 0] H (.i kd n, H1) ∧ RdAt A tR H1 rb true st1 ∧ H.length ≤ H1.length ∧ (∀ i b, i ≠ rb → H[i]? = some b → H1[i]? = some b) ∧
      (match st.bind d with | none => st1 = none ∧ n = 0 | some (v, r) => st1 = some r ∧ n = v) := by
  cases hd : st.bind d with
  | none =>
    obtain ⟨H1, c, r, kp⟩ := hf.bad A H rb nn st R h hd
    obtain ⟨H1', c', _, kp'⟩ := hf.bad _ H rb nn st (room_rb R (rdAt_lt h)) (rdAt_rb R.no h) hd
    cases CA.det c c'
    exact ⟨0, H1, none, c, r, kp.1, kp'.2, rfl, rfl⟩
  | some x =>
    obtain ⟨v, r1⟩ := x
    cases st with
    | none => cases hd
    | some bs =>
      simp only [Option.bind_some] at hd
      obtain ⟨H1, c, r, kp⟩ := hf.good A H rb nn bs v r1 R h hd
      obtain ⟨H1', c', _, kp'⟩ := hf.good _ H rb nn bs v r1 (room_rb R (rdAt_lt h)) (rdAt_rb R.no h) hd
      cases CA.det c c'
      exact ⟨v, H1, some r1, c, r, kp.1, kp'.2, rfl, rfl⟩
theorem len_both {f : FuncId} {d : B → Option (Int × B)} (hf : RdL f d) {A : Nat → Prop} {H : Heap} {rb : Nat} {nn : Bool} {st : Option B} (R : Room A H rb) (h : RdAt A tR H rb nn st) :
    ∃ n H1 st1, CA P NS f [.p rb 0] H (.i .i32 n, H1) ∧ RdAt A tR H1 rb true st1 ∧ H.length ≤ H1.length ∧ (∀ i b, i ≠ rb → H[i]? = some b → H1[i]? = some b) ∧
      (match st.bind d with | none => st1 = none ∧ (n = 0 ∨ n < 0) | some (v, r) => st1 = some r ∧ n = v) := by
  cases hd : st.bind d with
  | none =>
    obtain ⟨n, H1, c, hn, r, kp⟩ := hf.bad A H rb nn st R h hd
    obtain ⟨n', H1', c', _, _, kp'⟩ := hf.bad _ H rb nn st (room_rb R (rdAt_lt h)) (rdAt_rb R.no h) hd
    cases CA.det c c'
    exact ⟨n, H1, none, c, r, kp.1, kp'.2, rfl, hn⟩
  | some x =>
    obtain ⟨v, r1⟩ := x
    cases st with
    | none => cases hd
    | some bs =>
      simp only [Option.bind_some] at hd
      obtain ⟨H1, c, r, kp⟩ := hf.good A H rb nn bs v r1 R h hd
      obtain ⟨H1', c', _, kp'⟩ := hf.good _ H rb nn bs v r1 (room_rb R (rdAt_lt h)) (rdAt_rb R.no h) hd
      cases CA.det c c'
      exact ⟨v, H1, some r1, c, r, kp.1, kp'.2, rfl, rfl⟩
end Go.Proofs.YtiifcfngbbhgoagDoor.Rd

