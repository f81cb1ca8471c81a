/-
  BrokerHeartbeatRequest: WHERE THE READING OF TAGS HAS COME TO.
-/
import Derived.Test.YtiifcfngbbhgoagDoorQHbKit
set_option linter.constructorNameAsVariable false
set_option linter.unusedVariables false
set_option linter.unusedSimpArgs false
namespace Go.Proofs.YtiifcfngbbhgoagDoor.Rd
open Go Go.Proofs.YtiifcfngbbhgoagDoor.Ax Go.Proofs.YtiifcfngbbhgoagDoor.Wire
set_option maxRecDepth 100000
set_option maxHeartbeats 1000000
def LU (n0 rb sb : Nat) (X : List Nat) (H : Heap) (av : AV) (us : List B) : Prop := ∃ i, av = .sl i 0 us.length ∧ i ∈ X ∧ n0 ≤ i ∧ i ≠ rb ∧ i ≠ sb ∧ RowU H i us
def OU (n0 rb sb : Nat) (X : List Nat) (H : Heap) (av : AV) (us : List B) : Prop := (av = .s0 ∧ us = []) ∨ LU n0 rb sb X H av us
def KU (n0 rb sb : Nat) (X : List Nat) (H : Heap) (av : AV) : Option (List B) → Prop
  | none => av = .s0
  | some us => (av = .sn ∧ us = []) ∨ LU n0 rb sb X H av us
def MU (n0 rb sb : Nat) (X : List Nat) (H : Heap) (av : AV) (ts : List (Nat × B)) : Prop :=
  okT 0 ts ∧ ∃ es, TagsIn (NX X) H es ts ∧ ((es = [] ∧ av = .m0) ∨ ∃ i, av = .mp i ∧ i ∈ X ∧ n0 ≤ i ∧ i ≠ rb ∧ i ≠ sb ∧ H[i]? = some (.map .u32 es))
def Apart (o k : AV) : Prop := ∀ i l i' l', o = .sl i 0 l → k = .sl i' 0 l' → i ≠ i'
def KD (D : List Nat) (H H' : Heap) : Prop := H.length ≤ H'.length ∧ ∀ (i : Nat) (b : Blk), i ∉ D → H[i]? = some b → H'[i]? = some b
structure HbSt (H0 : Heap) (rb sb : Nat) (hd : List AV) (X : List Nat) (H : Heap) (st : Option B) (s : Hs) (o k m : AV) : Prop where
  room : Room (NX X) H rb
  rd : RdAt (NX X) tR H rb true st
  rx : rb ∈ X
  sx : sb ∈ X
  ne : rb ≠ sb
  xn : ∀ x ∈ X, x = rb ∨ x = sb ∨ H0.length ≤ x
  blk : H[sb]? = some (.cells 43 .vr (hd ++ [o, k, m]))
  ou : OU H0.length rb sb X H o s.o
  ku : KU H0.length rb sb X H k s.k
  mu : MU H0.length rb sb X H m s.ts
  ap : Apart o k
  len : H0.length ≤ H.length
  keep : ∀ i, i < H0.length → i ≠ rb → i ≠ sb → H[i]? = H0[i]?
section
variable {H0 : Heap} {rb sb n0 : Nat} {hd : List AV} {X X' : List Nat} {H H1 : Heap} {st st1 : Option B} {s : Hs} {o k m av : AV} {us : List B} {ts : List (Nat × B)}
theorem RowU.mono {i : Nat} (h : RowU H i us) (e : ∀ b, H[i]? = some b → H1[i]? = some b) : RowU H1 i us := by
  obtain ⟨cs, h1, h2⟩ := h
  exact ⟨cs, e _ h1, h2⟩
theorem LU.mono (h : LU n0 rb sb X H av us) (hX : ∀ x ∈ X, x ∈ X') (e : ∀ i l b, av = .sl i 0 l → H[i]? = some b → H1[i]? = some b) : LU n0 rb sb X' H1 av us := by
  obtain ⟨i, h1, h2, h3, h4, h5, h6⟩ := h
  exact ⟨i, h1, hX i h2, h3, h4, h5, h6.mono fun b x => e i _ b h1 x⟩
theorem OU.mono (h : OU n0 rb sb X H av us) (hX : ∀ x ∈ X, x ∈ X') (e : ∀ i l b, av = .sl i 0 l → H[i]? = some b → H1[i]? = some b) : OU n0 rb sb X' H1 av us := h.imp id fun h => h.mono hX e
theorem KU.mono {kk : Option (List B)} (h : KU n0 rb sb X H av kk) (hX : ∀ x ∈ X, x ∈ X') (e : ∀ i l b, av = .sl i 0 l → H[i]? = some b → H1[i]? = some b) : KU n0 rb sb X' H1 av kk := by
  cases kk with
  | none => exact h
  | some us => exact Or.imp id (fun h => LU.mono h hX e) h
theorem TagsIn.kt' {A A' : Nat → Prop} {es : List (Int × AV)} (h : TagsIn A H es ts) (k : KT A H A' H1) : TagsIn A' H1 es ts := by
  obtain ⟨es', a, b, c⟩ := h
  exact ⟨es', a, b, fun j q v kk bs h1 h2 => BytesAt.kt (c j q v kk bs h1 h2) k⟩
theorem MU.mono (h : MU n0 rb sb X H av ts) (hX : ∀ x ∈ X, x ∈ X') (kt : KT (NX X) H (NX X') H1) (e : ∀ i b, av = .mp i → H[i]? = some b → H1[i]? = some b) : MU n0 rb sb X' H1 av ts := by
  obtain ⟨h1, es, h2, h3⟩ := h
  refine ⟨h1, es, h2.kt' kt, h3.imp id ?_⟩
  rintro ⟨i, rfl, q1, q2, q3, q4, q5⟩
  exact ⟨i, rfl, hX i q1, q2, q3, q4, e i _ rfl q5⟩
theorem HbSt.read (h : HbSt H0 rb sb hd X H st s o k m) (q : KB rb H H1) (r : RdAt (NX X) tR H1 rb true st1) : HbSt H0 rb sb hd X H1 st1 s o k m := by
  have kt : KT (NX X) H (NX X) H1 := ⟨q.1, fun i b a x => ⟨a, q.2 i b (fun e => a (e ▸ h.rx)) x⟩⟩
  refine ⟨h.room.keep kt.keep, r, h.rx, h.sx, h.ne, h.xn, q.2 _ _ (Ne.symm h.ne) h.blk, h.ou.mono (fun _ x => x) ?_, h.ku.mono (fun _ x => x) ?_, h.mu.mono (fun _ x => x) kt ?_, h.ap, Nat.le_trans h.len q.1, fun i hi h1 h2 => ?_⟩
  · intro i l b e x
    rcases h.ou with ⟨rfl, _⟩ | ⟨i', rfl, _, _, hr, _⟩
    · cases e
    · cases e; exact q.2 i b hr x
  · intro i l b e x
    have hk := h.ku
    cases hs : s.k with
    | none => rw [hs] at hk; have : k = .s0 := hk; subst this; cases e
    | some us =>
      rw [hs] at hk
      rcases hk with ⟨rfl, _⟩ | ⟨i', rfl, _, _, hr, _⟩
      · cases e
      · cases e; exact q.2 i b hr x
  · intro i b e x
    obtain ⟨_, es, _, ⟨_, rfl⟩ | ⟨i', rfl, _, _, hr, _⟩⟩ := h.mu
    · cases e
    · cases e; exact q.2 i b hr x
  · have hx : H[i]? = H0[i]? := h.keep i hi h1 h2
    have hil : i < H.length := by have := h.len; omega
    have hy : H[i]? = some H[i] := by simp [hil]
    rw [q.2 i _ h1 hy, ← hx, hy]
theorem HbSt.new (h : HbSt H0 rb sb hd X H st s o k m) (q : Kp H H1) {x : Nat} (hx : H.length ≤ x) (hx1 : x < H1.length) : HbSt H0 rb sb hd (x :: X) H1 st s o k m := by
  have kt : KT (NX X) H (NX (x :: X)) H1 := ⟨q.1, fun i b a y => ⟨fun e => by
    rcases List.mem_cons.1 e with rfl | e
    · have := (List.getElem?_eq_some_iff.1 y).1; omega
    · exact a e, q.at_ y⟩⟩
  have hlt := rdAt_lt h.rd
  refine ⟨h.room.kt kt (fun e => e (List.mem_cons_of_mem _ h.rx)) (fun i hi e => ?_), rdAt_kt h.rd kt (q.2 _ hlt), List.mem_cons_of_mem _ h.rx, List.mem_cons_of_mem _ h.sx, h.ne, fun y hy => ?_, q.at_ h.blk, h.ou.mono (fun _ z => List.mem_cons_of_mem _ z) (fun _ _ _ _ z => q.at_ z), h.ku.mono (fun _ z => List.mem_cons_of_mem _ z) (fun _ _ _ _ z => q.at_ z), h.mu.mono (fun _ z => List.mem_cons_of_mem _ z) kt (fun _ _ _ z => q.at_ z), h.ap, Nat.le_trans h.len q.1, fun i hi h1 h2 => ?_⟩
  · rcases List.mem_cons.1 e with rfl | e
    · omega
    · have := q.1
      exact h.room.new i (by omega) e
  · rcases List.mem_cons.1 hy with rfl | hy
    · have := h.len; exact .inr (.inr (by omega))
    · exact h.xn y hy
  · have := h.len
    rw [q.2 i (by omega), h.keep i hi h1 h2]
theorem HbSt.inner (h : HbSt H0 rb sb hd X H st s o k m) {b2 : Nat} {cs : List AV} (hb2 : b2 ∈ X) (hrb : rb ≠ b2) (hsb : sb ≠ b2) (hn0 : H0.length ≤ b2) (hv : H[b2]? = some (.cells tR .vr cs)) (q : KB b2 H H1) : HbSt H0 rb sb hd X H1 st s o k m := by
  have kt : KT (NX X) H (NX X) H1 := ⟨q.1, fun i b a x => ⟨a, q.2 i b (fun e => a (e ▸ hb2)) x⟩⟩
  have hlt := rdAt_lt h.rd
  have row : ∀ {i : Nat} {us : List B}, RowU H i us → i ≠ b2 := fun ⟨cs, hr, _⟩ e => by subst e; rw [hv] at hr; cases hr
  refine ⟨h.room.keep kt.keep, rdAt_kt h.rd kt ?_, h.rx, h.sx, h.ne, h.xn, q.2 _ _ hsb h.blk, h.ou.mono (fun _ x => x) ?_, h.ku.mono (fun _ x => x) ?_, h.mu.mono (fun _ x => x) kt ?_, h.ap, Nat.le_trans h.len q.1, fun i hi h1 h2 => ?_⟩
  · have hy : H[rb]? = some H[rb] := by simp [hlt]
    rw [q.2 rb _ hrb hy, hy]
  · intro i l b e x
    rcases h.ou with ⟨rfl, _⟩ | ⟨i', rfl, _, _, _, _, hr⟩
    · cases e
    · cases e; exact q.2 i b (row hr) x
  · intro i l b e x
    have hk := h.ku
    cases hs : s.k with
    | none => rw [hs] at hk; have : k = .s0 := hk; subst this; cases e
    | some us =>
      rw [hs] at hk
      rcases hk with ⟨rfl, _⟩ | ⟨i', rfl, _, _, _, _, hr⟩
      · cases e
      · cases e; exact q.2 i b (row hr) x
  · intro i b e x
    obtain ⟨_, es, _, ⟨_, rfl⟩ | ⟨i', rfl, _, _, _, _, hm⟩⟩ := h.mu
    · cases e
    · cases e
      exact q.2 i b (fun e => by subst e; rw [hv] at hm; cases hm) x
  · have hx : H[i]? = H0[i]? := h.keep i hi h1 h2
    have hil : i < H.length := by have := h.len; omega
    have hy : H[i]? = some H[i] := by simp [hil]
    rw [q.2 i _ (by omega) hy, ← hx, hy]
theorem HbSt.setO (h : HbSt H0 rb sb hd X H st s o k m) {H2 : Heap} {o' : AV} {us : List B} (hX : ∀ x ∈ X, x ∈ X') (hX' : ∀ x ∈ X', x ∈ X ∨ H.length ≤ x ∧ x < H2.length) (hl : H.length ≤ H2.length)
    (kd : ∀ (i : Nat) (b : Blk), (∀ l, o ≠ .sl i 0 l) → i ≠ sb → H[i]? = some b → H2[i]? = some b ∨ (i ∈ X ∧ i ≠ rb ∧ ∃ cs, b = .cells tR .vr cs)) (hb : H2[sb]? = some (.cells 43 .vr (hd ++ [o', k, m])))
    (ho : OU H0.length rb sb X' H2 o' us) (ha : Apart o' k) (hold : ∀ i l, o = .sl i 0 l → i ∈ X ∧ H0.length ≤ i ∧ i ≠ rb ∧ ∃ cs, H[i]? = some (.cells 52 .row cs)) (hxb : ∀ (i : Nat) (cs : List AV), i ∈ X → i ≠ rb → H[i]? = some (.cells tR .vr cs) → H0.length ≤ i) : HbSt H0 rb sb hd X' H2 st { s with o := us } o' k m := by
  have kp : ∀ (i : Nat) (b : Blk), (∀ l, o ≠ .sl i 0 l) → i ≠ sb → (∀ cs, b ≠ .cells tR .vr cs) ∨ i ∉ X ∨ i = rb → H[i]? = some b → H2[i]? = some b := fun i b h1 h2 h3 x => by
    rcases kd i b h1 h2 x with e | ⟨e1, e2, cs, rfl⟩
    · exact e
    · rcases h3 with h3 | h3 | h3
      · exact absurd rfl (h3 cs)
      · exact absurd e1 h3
      · exact absurd h3 e2
  have no : ∀ {i : Nat}, i ∉ X → ∀ l, o ≠ .sl i 0 l := fun hi l e => hi (hold _ l e).1
  have kt : KT (NX X) H (NX X') H2 := ⟨hl, fun i b a x => by
    have hil := (List.getElem?_eq_some_iff.1 x).1
    refine ⟨fun e => ?_, kp i b (no a) (fun e => a (e ▸ h.sx)) (.inr (.inl a)) x⟩
    rcases hX' i e with e | ⟨e, _⟩
    · exact a e
    · omega⟩
  have hlt := rdAt_lt h.rd
  have hrb : ∀ l, o ≠ .sl rb 0 l := fun l e => (hold _ l e).2.2.1 rfl
  refine ⟨h.room.kt kt (fun e => e (hX _ h.rx)) (fun i hi e => ?_), rdAt_kt h.rd kt ?_, hX _ h.rx, hX _ h.sx, h.ne, fun y hy => ?_, hb, ho, h.ku.mono hX ?_, h.mu.mono hX kt ?_, ha, Nat.le_trans h.len hl, fun i hi h1 h2 => ?_⟩
  · rcases hX' i e with e | ⟨_, e⟩
    · exact h.room.new i (by omega) e
    · omega
  · have hy : H[rb]? = some H[rb] := by simp [hlt]
    rw [kp rb _ hrb h.ne (.inr (.inr rfl)) hy, hy]
  · rcases hX' y hy with e | ⟨e, _⟩
    · exact h.xn y e
    · have := h.len; exact .inr (.inr (by omega))
  · intro i l b e x
    have hk := h.ku
    cases hs : s.k with
    | none => rw [hs] at hk; have : k = .s0 := hk; subst this; cases e
    | some us =>
      rw [hs] at hk
      rcases hk with ⟨rfl, _⟩ | ⟨i', rfl, _, _, _, q4, cs, hr, _⟩
      · cases e
      · cases e
        rw [hr] at x; cases x
        exact kp i _ (fun l e => h.ap _ _ _ _ e rfl rfl) q4 (.inl (fun cs e => by cases e)) hr
  · intro i b e x
    obtain ⟨_, es, _, ⟨_, rfl⟩ | ⟨i', rfl, _, _, _, q4, hm⟩⟩ := h.mu
    · cases e
    · cases e
      rw [hm] at x; cases x
      exact kp i _ (fun l e => by obtain ⟨_, _, _, cs, hc⟩ := hold _ l e; rw [hm] at hc; cases hc) q4 (.inl (fun cs e => by cases e)) hm
  · have hx : H[i]? = H0[i]? := h.keep i hi h1 h2
    have hil : i < H.length := by have := h.len; omega
    have hy : H[i]? = some H[i] := by simp [hil]
    have hno : i ∉ X := fun e => by rcases h.xn i e with e | e | e <;> omega
    rw [kp i _ (no hno) h2 (.inr (.inl hno)) hy, ← hx, hy]
theorem HbSt.setK (h : HbSt H0 rb sb hd X H st s o k m) {H2 : Heap} {k' : AV} {kk : Option (List B)} (hX : ∀ x ∈ X, x ∈ X') (hX' : ∀ x ∈ X', x ∈ X ∨ H.length ≤ x ∧ x < H2.length) (hl : H.length ≤ H2.length)
    (kd : ∀ (i : Nat) (b : Blk), (∀ l, k ≠ .sl i 0 l) → i ≠ sb → H[i]? = some b → H2[i]? = some b ∨ (i ∈ X ∧ i ≠ rb ∧ ∃ cs, b = .cells tR .vr cs)) (hb : H2[sb]? = some (.cells 43 .vr (hd ++ [o, k', m])))
    (hk : KU H0.length rb sb X' H2 k' kk) (ha : Apart o k') (hold : ∀ i l, k = .sl i 0 l → i ∈ X ∧ H0.length ≤ i ∧ i ≠ rb ∧ ∃ cs, H[i]? = some (.cells 52 .row cs)) (hxb : ∀ (i : Nat) (cs : List AV), i ∈ X → i ≠ rb → H[i]? = some (.cells tR .vr cs) → H0.length ≤ i) : HbSt H0 rb sb hd X' H2 st { s with k := kk } o k' m := by
  have kp : ∀ (i : Nat) (b : Blk), (∀ l, k ≠ .sl i 0 l) → i ≠ sb → (∀ cs, b ≠ .cells tR .vr cs) ∨ i ∉ X ∨ i = rb → H[i]? = some b → H2[i]? = some b := fun i b h1 h2 h3 x => by
    rcases kd i b h1 h2 x with e | ⟨e1, e2, cs, rfl⟩
    · exact e
    · rcases h3 with h3 | h3 | h3
      · exact absurd rfl (h3 cs)
      · exact absurd e1 h3
      · exact absurd h3 e2
  have no : ∀ {i : Nat}, i ∉ X → ∀ l, k ≠ .sl i 0 l := fun hi l e => hi (hold _ l e).1
  have kt : KT (NX X) H (NX X') H2 := ⟨hl, fun i b a x => by
    have hil := (List.getElem?_eq_some_iff.1 x).1
    refine ⟨fun e => ?_, kp i b (no a) (fun e => a (e ▸ h.sx)) (.inr (.inl a)) x⟩
    rcases hX' i e with e | ⟨e, _⟩
    · exact a e
    · omega⟩
  have hlt := rdAt_lt h.rd
  have hrb : ∀ l, k ≠ .sl rb 0 l := fun l e => (hold _ l e).2.2.1 rfl
  refine ⟨h.room.kt kt (fun e => e (hX _ h.rx)) (fun i hi e => ?_), rdAt_kt h.rd kt ?_, hX _ h.rx, hX _ h.sx, h.ne, fun y hy => ?_, hb, h.ou.mono hX ?_, hk, h.mu.mono hX kt ?_, ha, Nat.le_trans h.len hl, fun i hi h1 h2 => ?_⟩
  · rcases hX' i e with e | ⟨_, e⟩
    · exact h.room.new i (by omega) e
    · omega
  · have hy : H[rb]? = some H[rb] := by simp [hlt]
    rw [kp rb _ hrb h.ne (.inr (.inr rfl)) hy, hy]
  · rcases hX' y hy with e | ⟨e, _⟩
    · exact h.xn y e
    · have := h.len; exact .inr (.inr (by omega))
  · intro i l b e x
    rcases h.ou with ⟨rfl, _⟩ | ⟨i', rfl, _, _, _, q4, cs, hr, _⟩
    · cases e
    · cases e
      rw [hr] at x; cases x
      exact kp i _ (fun l e => h.ap _ _ _ _ rfl e rfl) q4 (.inl (fun cs e => by cases e)) hr
  · intro i b e x
    obtain ⟨_, es, _, ⟨_, rfl⟩ | ⟨i', rfl, _, _, _, q4, hm⟩⟩ := h.mu
    · cases e
    · cases e
      rw [hm] at x; cases x
      exact kp i _ (fun l e => by obtain ⟨_, _, _, cs, hc⟩ := hold _ l e; rw [hm] at hc; cases hc) q4 (.inl (fun cs e => by cases e)) hm
  · have hx : H[i]? = H0[i]? := h.keep i hi h1 h2
    have hil : i < H.length := by have := h.len; omega
    have hy : H[i]? = some H[i] := by simp [hil]
    have hno : i ∉ X := fun e => by rcases h.xn i e with e | e | e <;> omega
    rw [kp i _ (no hno) h2 (.inr (.inl hno)) hy, ← hx, hy]
theorem fT8 (sb : Nat) : fieldAddrA P 41 (.p sb 8) 0 = some (.p sb 8) := by kernel_rfl
theorem HbSt.setM (h : HbSt H0 rb sb hd X H st s o k m) (h6 : hd.length = 6) {q : Nat} {v : AV} {bs : B} (hq : q < 4294967296) (hv : BytesAt (NX X) H v bs) (hbl : bs.length < 4294967296) :
    ∃ H2 m' X2, CA P NS 30 [.p sb 8, .i .u32 (q : Nat), v] H (.t [], H2) ∧ HbSt H0 rb sb hd X2 H2 st { s with ts := put q bs s.ts } o k m' := by
  have h1 := (BytesAt.one' hv).2
  have hbk := h.blk
  have hsl := (List.getElem?_eq_some_iff.1 hbk).1
  obtain ⟨hok, es, htg, hm⟩ := h.mu
  have hok2 := okT_put s.ts 0 q bs hok (Nat.zero_le _) (by omega) (by omega)
  have hlt := rdAt_lt h.rd
  rcases hm with ⟨rfl, rfl⟩ | ⟨i, rfl, q1, q2, q3, q4, q5⟩
  · have hc8 : (hd ++ [o, k, AV.m0])[8]? = some .m0 := by rw [List.getElem?_append_right (by omega), h6]; rfl
    have hov : over (hd ++ [o, k, AV.m0]) [.mp H.length] 8 = hd ++ [o, k, .mp H.length] := by
      simp only [over, List.length_singleton, Nat.reduceAdd]
      rw [List.take_append, List.drop_append, h6, List.take_of_length_le (by omega), List.drop_eq_nil_of_le (by omega)]
      simp
    have c := setC_new (k := (q : Nat)) hbk hc8 (fT8 sb) h1
    rw [hov] at c
    have kp : ∀ (i : Nat) (b : Blk), i ≠ sb → H[i]? = some b → (((H ++ [Blk.map .u32 []]).set sb (.cells 43 .vr (hd ++ [o, k, .mp H.length]))).set H.length (.map .u32 (putM (q : Nat) v [])))[i]? = some b := fun i b hi x => by
      have hil := (List.getElem?_eq_some_iff.1 x).1
      rw [List.getElem?_set_ne (by omega), List.getElem?_set_ne (Ne.symm hi), List.getElem?_append_left hil]; exact x
    have hmp : (((H ++ [Blk.map .u32 []]).set sb (.cells 43 .vr (hd ++ [o, k, .mp H.length]))).set H.length (.map .u32 (putM (q : Nat) v [])))[H.length]? = some (.map .u32 (putM (q : Nat) v [])) := by
      rw [List.getElem?_set_self (by simp)]
    have hsp : (((H ++ [Blk.map .u32 []]).set sb (.cells 43 .vr (hd ++ [o, k, .mp H.length]))).set H.length (.map .u32 (putM (q : Nat) v [])))[sb]? = some (.cells 43 .vr (hd ++ [o, k, .mp H.length])) := by
      rw [List.getElem?_set_ne (by omega), List.getElem?_set_self (by simp; omega)]
    have hl2 : (((H ++ [Blk.map .u32 []]).set sb (.cells 43 .vr (hd ++ [o, k, .mp H.length]))).set H.length (.map .u32 (putM (q : Nat) v []))).length = H.length + 1 := by simp
    generalize (((H ++ [Blk.map .u32 []]).set sb (.cells 43 .vr (hd ++ [o, k, .mp H.length]))).set H.length (.map .u32 (putM (q : Nat) v []))) = H2 at *
    have kt : KT (NX X) H (NX (H.length :: X)) H2 := ⟨by omega, fun i b a x => ⟨fun e => by
      rcases List.mem_cons.1 e with rfl | e
      · have := (List.getElem?_eq_some_iff.1 x).1; omega
      · exact a e, kp i b (fun e => a (e ▸ h.sx)) x⟩⟩
    have sub : ∀ x ∈ X, x ∈ H.length :: X := fun x hx => List.mem_cons_of_mem _ hx
    refine ⟨H2, _, H.length :: X, c, ⟨h.room.kt kt (fun e => e (sub _ h.rx)) (fun i hi e => ?_), rdAt_kt h.rd kt ?_, sub _ h.rx, sub _ h.sx, h.ne, fun y hy => ?_, hsp, h.ou.mono sub ?_, h.ku.mono sub ?_, ⟨hok2, _, (tagsIn_put htg hok hv).kt' kt, .inr ⟨H.length, rfl, List.mem_cons_self, h.len, by omega, by omega, hmp⟩⟩, h.ap, by have := h.len; omega, fun i hi a1 a2 => ?_⟩⟩
    · rcases List.mem_cons.1 e with rfl | e
      · omega
      · exact h.room.new i (by omega) e
    · have hy : H[rb]? = some H[rb] := by simp [hlt]
      rw [kp rb _ h.ne hy, hy]
    · rcases List.mem_cons.1 hy with rfl | e
      · exact .inr (.inr h.len)
      · exact h.xn y e
    · intro i l b e x
      rcases h.ou with ⟨rfl, _⟩ | ⟨i', rfl, _, _, _, q4, _⟩
      · cases e
      · cases e; exact kp i b q4 x
    · intro i l b e x
      have hk := h.ku
      cases hs : s.k with
      | none => rw [hs] at hk; have : k = .s0 := hk; subst this; cases e
      | some us =>
        rw [hs] at hk
        rcases hk with ⟨rfl, _⟩ | ⟨i', rfl, _, _, _, q4, _⟩
        · cases e
        · cases e; exact kp i b q4 x
    · have hx : H[i]? = H0[i]? := h.keep i hi a1 a2
      have hil : i < H.length := by have := h.len; omega
      have hy : H[i]? = some H[i] := by simp [hil]
      rw [kp i _ a2 hy, ← hx, hy]
  · have hc8 : (hd ++ [o, k, AV.mp i])[8]? = some (.mp i) := by rw [List.getElem?_append_right (by omega), h6]; rfl
    have c := setC_old (k := (q : Nat)) hbk hc8 (fT8 sb) q5 h1
    have hil := (List.getElem?_eq_some_iff.1 q5).1
    have kp : ∀ (j : Nat) (b : Blk), (∀ kd es, b ≠ .map kd es) → H[j]? = some b → (H.set i (.map .u32 (putM (q : Nat) v es)))[j]? = some b := fun j b hj x => by
      have : i ≠ j := fun e => by subst e; rw [q5] at x; cases x; exact hj _ _ rfl
      rw [List.getElem?_set_ne this]; exact x
    have kt : KT (NX X) H (NX X) (H.set i (.map .u32 (putM (q : Nat) v es))) := ⟨by simp, fun j b a x => ⟨a, by
      rw [List.getElem?_set_ne (fun e : i = j => a (e ▸ q1))]; exact x⟩⟩
    refine ⟨_, _, X, c, ⟨h.room.keep kt.keep, rdAt_kt h.rd kt (by rw [List.getElem?_set_ne q3]), h.rx, h.sx, h.ne, h.xn, by rw [List.getElem?_set_ne q4]; exact hbk, h.ou.mono (fun _ x => x) ?_, h.ku.mono (fun _ x => x) ?_, ⟨hok2, _, (tagsIn_put htg hok hv).kt' kt, .inr ⟨i, rfl, q1, q2, q3, q4, by rw [List.getElem?_set_self hil]⟩⟩, h.ap, by have := h.len; simpa using this, fun j hj a1 a2 => ?_⟩⟩
    · intro j l b e x
      rcases h.ou with ⟨rfl, _⟩ | ⟨i', rfl, _, _, _, _, cs, hr, _⟩
      · cases e
      · cases e
        rw [hr] at x; cases x
        exact kp j _ (fun kd es e => by cases e) hr
    · intro j l b e x
      have hk := h.ku
      cases hs : s.k with
      | none => rw [hs] at hk; have : k = .s0 := hk; subst this; cases e
      | some us =>
        rw [hs] at hk
        rcases hk with ⟨rfl, _⟩ | ⟨i', rfl, _, _, _, _, cs, hr, _⟩
        · cases e
        · cases e
          rw [hr] at x; cases x
          exact kp j _ (fun kd es e => by cases e) hr
    · rw [List.getElem?_set_ne (by omega)]; exact h.keep j hj a1 a2
end
end Go.Proofs.YtiifcfngbbhgoagDoor.Rd

namespace Go.Proofs.YtiifcfngbbhgoagDoor.Rd
open Go Go.Proofs.YtiifcfngbbhgoagDoor.Ax Go.Proofs.YtiifcfngbbhgoagDoor.Wire
set_option maxRecDepth 100000
set_option maxHeartbeats 1000000
theorem eqU32 (t : TypeId) (c : Bool) (a b : Int) : binA P .eql t c (.i .u32 a) (.i .u32 b) = some (.b (decide (a = b))) := by
  have e : binA P .eql t c (.i .u32 a) (.i .u32 b) = some (.b (a == b)) := by
    simp [binA, binOp, Op.intCmp, ofSem, ofV1]
    rfl
  rw [e]; congr 2
theorem natQ {q : Int} {s s' : Option B} (m : match s.bind rdVi with | none => s' = none ∧ q = 0 | some (v, r) => s' = some r ∧ q = v) : ∃ qn : Nat, q = (qn : Int) ∧ qn < 4294967296 := by
  cases hx : s.bind rdVi with
  | none => rw [hx] at m; exact ⟨0, m.2, by omega⟩
  | some x =>
    rw [hx] at m
    obtain ⟨v, r⟩ := x
    cases s with
    | none => cases hx
    | some b1 =>
      simp only [Option.bind_some, rdVi, Option.map_eq_some_iff] at hx
      obtain ⟨⟨q', r'⟩, hq, he⟩ := hx
      simp at he
      exact ⟨q', by rw [m.2, ← he.1], rdV_lt hq⟩
theorem rdVi_some {s s' : Option B} {q : Nat} (m : match s.bind rdVi with | none => s' = none ∧ ((q : Nat) : Int) = 0 | some (v, r) => s' = some r ∧ ((q : Nat) : Int) = v) :
    (s' = none ∧ s.bind rdV = none) ∨ ∃ bs r, s = some bs ∧ s' = some r ∧ rdV bs = some (q, r) := by
  cases s with
  | none => exact .inl ⟨m.1, rfl⟩
  | some bs =>
    simp only [Option.bind_some] at m ⊢
    cases e1 : rdV bs with
    | none =>
      have x : rdVi bs = none := by simp [rdVi, e1]
      rw [x] at m
      exact .inl ⟨m.1, rfl⟩
    | some x1 =>
      obtain ⟨q', r⟩ := x1
      have x : rdVi bs = some ((q' : Int), r) := by simp [rdVi, e1]
      rw [x] at m
      obtain ⟨rfl, e⟩ := m
      obtain rfl : q = q' := by omega
      exact .inr ⟨bs, r, rfl, rfl, e1⟩
theorem tag3 {H0 : Heap} {rb sb : Nat} {hd : List AV} {X : List Nat} {H1 : Heap} {st st1 : Option B} {s : Hs} {o k m : AV} {kn mm : Nat} (h1s : HbSt H0 rb sb hd X H1 st1 s o k m)
    (m1 : match st.bind rdVi with | none => st1 = none ∧ ((kn : Nat) : Int) = 0 | some (v, r) => st1 = some r ∧ ((kn : Nat) : Int) = v) (hbd : ∀ r, st = some r → r.length ≤ 100000) :
    ∃ (ln : Nat) (H2 : Heap) (hdB : B) (av : AV) (H3 : Heap) (st3 : Option B), CA P NS 29 [.p rb 0] H1 (.i .u32 (ln : Nat), H2) ∧ ln < 4294967296 ∧ CA P NS 31 [.p rb 0, .i .i64 (ln : Nat)] H2 (av, H3) ∧ HbSt H0 rb sb hd X H3 st3 s o k m ∧
      BytesAt (NX X) H3 av hdB ∧ (st3 = none → hdB = []) ∧ hdB.length ≤ 100000 ∧ (∀ r, st3 = some r → r.length ≤ 100000) ∧ (st3 = none → (st.bind fun r => decG (mm + 1) s r) = none) ∧
      ∀ r3, st3 = some r3 → (st.bind fun r => decG (mm + 1) s r) = (stepU kn hdB s).bind fun s' => decG mm s' r3 := by
  obtain ⟨l, H2, st2, c2, h2, le2, k2, m2⟩ := num_both rd_uvarint h1s.room h1s.rd
  obtain ⟨ln, rfl, hln⟩ := natQ m2
  have h2s := h1s.read ⟨le2, k2⟩ h2
  obtain ⟨av, H3, st3, c3, av1, h3, le3, k3, m3⟩ := span_both (l := (ln : Int)) h2s.room h2s.rd
  have h3s := h2s.read ⟨le3, k3⟩ h3
  have hx : ∃ hdB : B, BytesAt (NX X) H3 av hdB ∧ ((st3 = none ∧ hdB = [] ∧ st2.bind (cut ln) = none) ∨ ∃ b2 r3, st2 = some b2 ∧ st3 = some r3 ∧ cut ln b2 = some (hdB, r3)) := by
    cases hq : st2.bind (rdS (ln : Int)) with
    | none =>
      rw [hq] at m3
      obtain ⟨H3', c3', _, _⟩ := rd_span_bad h2s.room h2s.rd hq
      have := CA.det c3 c3'
      simp only [Prod.mk.injEq] at this
      rw [this.1]
      refine ⟨[], .z, .inl ⟨m3, rfl, ?_⟩⟩
      cases st2 with
      | none => rfl
      | some b2 => simpa only [Option.bind_some, rdS_nat] using hq
    | some x =>
      obtain ⟨v, r⟩ := x
      rw [hq] at m3
      refine ⟨v, m3.2, .inr ?_⟩
      cases st2 with
      | none => cases hq
      | some b2 =>
        simp only [Option.bind_some, rdS_nat] at hq
        exact ⟨b2, r, rfl, m3.1, hq⟩
  obtain ⟨hdB, hb, hx⟩ := hx
  have e1 := rdVi_some m1
  have e2 := rdVi_some m2
  have all : (st3 = none ∧ hdB = [] ∧ (st.bind fun r => decG (mm + 1) s r) = none) ∨ ∃ bs r1 r2 r3, st = some bs ∧ rdV bs = some (kn, r1) ∧ rdV r1 = some (ln, r2) ∧ cut ln r2 = some (hdB, r3) ∧ st3 = some r3 := by
    rcases e1 with ⟨rfl, e1⟩ | ⟨bs, r1, rfl, rfl, e1⟩
    · have hst2 : st2 = none := by
        rcases e2 with ⟨h, _⟩ | ⟨_, _, h, _⟩
        · exact h
        · cases h
      subst hst2
      rcases hx with ⟨h, h', _⟩ | ⟨_, _, h, _⟩
      · refine .inl ⟨h, h', ?_⟩
        cases st with
        | none => rfl
        | some bs => simp only [Option.bind_some] at e1 ⊢; simp only [decG, e1, Option.bind_none]
      · cases h
    · rcases e2 with ⟨rfl, e2⟩ | ⟨bs2, r2, e, rfl, e2⟩
      · rcases hx with ⟨h, h', _⟩ | ⟨_, _, h, _⟩
        · simp only [Option.bind_some] at e2
          exact .inl ⟨h, h', by simp only [Option.bind_some, decG, e1, e2, Option.bind_none]⟩
        · cases h
      · cases e
        rcases hx with ⟨h, h', h''⟩ | ⟨b2, r3, e, h, h'⟩
        · simp only [Option.bind_some] at h''
          exact .inl ⟨h, h', by simp only [Option.bind_some, decG, e1, e2, h'', Option.bind_none]⟩
        · cases e
          exact .inr ⟨bs, r1, r2, r3, rfl, e1, e2, h', h⟩
  refine ⟨ln, H2, hdB, av, H3, st3, c2, hln, c3, h3s, hb, ?_, ?_, ?_, ?_, ?_⟩
  · intro h
    rcases all with ⟨_, h', _⟩ | ⟨_, _, _, _, _, _, _, _, h'⟩
    · exact h'
    · rw [h] at h'; cases h'
  · rcases all with ⟨_, rfl, _⟩ | ⟨bs, r1, r2, r3, rfl, a1, a2, a3, _⟩
    · simp
    · have b0 := hbd bs rfl
      have b1 := hb_rdV a1
      have b2 := hb_rdV a2
      have b3 := congrArg List.length (cut_len a3).2
      rw [List.length_append] at b3
      omega
  · intro r h
    rcases all with ⟨h', _⟩ | ⟨bs, r1, r2, r3, rfl, a1, a2, a3, h'⟩
    · rw [h] at h'; cases h'
    · rw [h] at h'; cases h'
      have b0 := hbd bs rfl
      have b1 := hb_rdV a1
      have b2 := hb_rdV a2
      have b3 := congrArg List.length (cut_len a3).2
      rw [List.length_append] at b3
      omega
  · intro h
    rcases all with ⟨_, _, h'⟩ | ⟨_, _, _, _, _, _, _, _, h'⟩
    · exact h'
    · rw [h] at h'; cases h'
  · intro r3 h
    rcases all with ⟨h', _⟩ | ⟨bs, r1, r2, r3', rfl, a1, a2, a3, h'⟩
    · rw [h] at h'; cases h'
    · rw [h] at h'; cases h'
      simp only [Option.bind_some, decG, a1, a2, a3]
theorem cutU {n0 rb sb : Nat} {X : List Nat} {H : Heap} {av : AV} {us : List B} (h : ((av = .s0 ∨ av = .sn) ∧ us = []) ∨ LU n0 rb sb X H av us) :
    ∃ a0, sliceA P 38 av none (some (.i .i64 0)) = some a0 ∧ (((av = .s0 ∨ av = .sn) ∧ a0 = av) ∨ ∃ i, av = .sl i 0 us.length ∧ a0 = .sl i 0 0 ∧ i ∈ X ∧ n0 ≤ i ∧ i ≠ rb ∧ i ≠ sb ∧ RowU H i us) := by
  unfold sliceA
  simp only [elU, zU16]
  rcases h with ⟨rfl | rfl, rfl⟩ | ⟨i, rfl, h1, h2, h3, h4, h5⟩
  · exact ⟨.s0, by simp, .inl ⟨.inl rfl, rfl⟩⟩
  · exact ⟨.sn, by simp, .inl ⟨.inr rfl, rfl⟩⟩
  · exact ⟨.sl i 0 0, by simp, .inr ⟨i, rfl, rfl, h1, h2, h3, h4, h5⟩⟩
theorem RowU.nil {H : Heap} {i : Nat} {us : List B} (h : RowU H i us) : RowU H i [] := by
  obtain ⟨cs, h1, _, _⟩ := h
  exact ⟨cs, h1, by simp, by simp [u8s]⟩
end Go.Proofs.YtiifcfngbbhgoagDoor.Rd

