/-
  THE ABSTRACT MACHINE: a region that draws its order comes, in every order that the edges allow, to what the run in the text's order comes to.
-/
import Derived.Test.YthioggjaccpfgaaAxCall
namespace Go.Proofs.Ythioggjaccpfgaa.Ax
open Go Go.RowKit

mutual
theorem sameV_eq : ∀ {x y : AV}, sameV x y = true → x = y
  | .u, y, h => by cases y <;> simp [sameV] at h; rfl
  | .k a, y, h => by cases y <;> simp [sameV] at h; subst h; rfl
  | .b a, y, h => by cases y <;> simp [sameV] at h; subst h; rfl
  | .i k a, y, h => by cases y <;> simp [sameV] at h; obtain ⟨rfl, rfl⟩ := h; rfl
  | .f k a, y, h => by cases y <;> simp [sameV] at h; obtain ⟨rfl, rfl⟩ := h; rfl
  | .s a, y, h => by
    cases y <;> simp [sameV] at h
    rename_i b
    rw [ByteArray.toList_eq, ByteArray.toList_eq] at h
    congr 1
    cases a; cases b
    congr 1
    exact Array.toList_inj.1 h
  | .p0, y, h => by cases y <;> simp [sameV] at h; rfl
  | .p a b, y, h => by cases y <;> simp [sameV] at h; obtain ⟨rfl, rfl⟩ := h; rfl
  | .s0, y, h => by cases y <;> simp [sameV] at h; rfl
  | .se, y, h => by cases y <;> simp [sameV] at h; rfl
  | .sl a b n, y, h => by cases y <;> simp [sameV] at h; obtain ⟨⟨rfl, rfl⟩, rfl⟩ := h; rfl
  | .m0, y, h => by cases y <;> simp [sameV] at h; rfl
  | .n, y, h => by cases y <;> simp [sameV] at h; rfl
  | .e, y, h => by cases y <;> simp [sameV] at h; rfl
  | .mp a, y, h => by cases y <;> simp [sameV] at h; subst h; rfl
  | .gp a, y, h => by cases y <;> simp [sameV] at h; subst h; rfl
  | .fn f a, y, h => by
    cases y <;> simp [sameV] at h
    obtain ⟨rfl, h⟩ := h
    rw [sameVs_eq h]
  | .g a, y, h => by
    cases y <;> simp [sameV] at h
    rw [sameVs_eq h]
  | .t a, y, h => by
    cases y <;> simp [sameV] at h
    rw [sameVs_eq h]
theorem sameVs_eq : ∀ {x y : List AV}, sameVs x y = true → x = y
  | [], y, h => by cases y <;> simp [sameVs] at h; rfl
  | a :: r, y, h => by
    cases y <;> simp [sameVs] at h
    rw [sameV_eq h.1, sameVs_eq h.2]
end

/-- An operation that is no effect leaves the heap. -/
theorem float_heap {P : Program} {op : Op} {fr : List AV} {H H' : Heap} {v : AV} (hn : isEff op = false) (h : opA P op fr H = some (v, H')) : H' = H := by
  have pu : ∀ {r : Option AV}, (r.map fun v => (v, H)) = some (v, H') → H' = H := by
    intro r h
    obtain ⟨_, _, hh⟩ := Option.map_eq_some_iff.1 h
    simp at hh
    exact hh.2.symm
  unfold opA at h
  cases op with
  | move x => exact pu h
  | assign x => exact pu h
  | pick c x y => simp only at h; split at h <;> first | exact pu h | cases h
  | build t ps => obtain ⟨_, _, h⟩ := Option.bind_eq_some_iff.1 h; exact pu h
  | load t x => obtain ⟨_, _, h⟩ := Option.bind_eq_some_iff.1 h; exact pu h
  | nilCheck x => obtain ⟨_, _, h⟩ := Option.bind_eq_some_iff.1 h; exact pu h
  | binOp op t x y yt => obtain ⟨_, _, h⟩ := Option.bind_eq_some_iff.1 h; obtain ⟨_, _, h⟩ := Option.bind_eq_some_iff.1 h; exact pu h
  | unOp op t x => obtain ⟨_, _, h⟩ := Option.bind_eq_some_iff.1 h; exact pu h
  | convert s t x => obtain ⟨_, _, h⟩ := Option.bind_eq_some_iff.1 h; exact pu h
  | slice t x lo hi mx =>
    cases mx with
    | some m =>
      cases lo <;> cases hi <;> simp only at h
      · cases h
      · obtain ⟨_, _, h⟩ := Option.bind_eq_some_iff.1 h; obtain ⟨_, _, h⟩ := Option.bind_eq_some_iff.1 h; obtain ⟨_, _, h⟩ := Option.bind_eq_some_iff.1 h; exact pu h
      · cases h
      · cases h
    | none =>
      obtain ⟨_, _, h⟩ := Option.bind_eq_some_iff.1 h
      cases lo <;> cases hi <;> simp only at h
      · exact pu h
      · obtain ⟨_, _, h⟩ := Option.bind_eq_some_iff.1 h; exact pu h
      · obtain ⟨_, _, h⟩ := Option.bind_eq_some_iff.1 h; exact pu h
      · cases h
  | fieldAddr t x k => obtain ⟨_, _, h⟩ := Option.bind_eq_some_iff.1 h; exact pu h
  | field t x k => obtain ⟨_, _, h⟩ := Option.bind_eq_some_iff.1 h; exact pu h
  | indexAddr t x k => obtain ⟨_, _, h⟩ := Option.bind_eq_some_iff.1 h; obtain ⟨_, _, h⟩ := Option.bind_eq_some_iff.1 h; exact pu h
  | index t x k => obtain ⟨_, _, h⟩ := Option.bind_eq_some_iff.1 h; obtain ⟨_, _, h⟩ := Option.bind_eq_some_iff.1 h; exact pu h
  | extract x k => simp only at h; split at h <;> first | exact pu h | cases h
  | makeFunc fn first caps =>
    cases fn <;> simp only at h <;> first | (split at h; · obtain ⟨_, _, h⟩ := Option.bind_eq_some_iff.1 h; exact pu h
                                             · cases h) | cases h
  | call c =>
    obtain ⟨callee, args, argTypes⟩ := c
    cases callee with
    | builtin b =>
      simp only at h
      split at h
      · obtain ⟨_, _, h⟩ := Option.bind_eq_some_iff.1 h; exact pu h
      · obtain ⟨_, _, h⟩ := Option.bind_eq_some_iff.1 h; obtain ⟨_, _, h⟩ := Option.bind_eq_some_iff.1 h; exact pu h
      · obtain ⟨_, _, h⟩ := Option.bind_eq_some_iff.1 h; obtain ⟨_, _, h⟩ := Option.bind_eq_some_iff.1 h; exact pu h
      · simp [isEff] at hn
      · simp [isEff] at hn
      · cases h
    | _ => simp at h
  | alloc _ => simp [isEff] at hn
  | box _ _ => simp [isEff] at hn
  | buildSlice _ _ _ => simp [isEff] at hn
  | store _ _ _ => simp [isEff] at hn
  | makeSlice _ _ _ => simp [isEff] at hn
  | _ => simp at h

/-- The frame behind these entries. -/
def frs (fr0 : List AV) (es : List Ent) : List AV := es.foldl (fun f e => putA f e.o.dst e.val) fr0

theorem frs_snoc (fr0 : List AV) (es : List Ent) (e : Ent) : frs fr0 (es ++ [e]) = putA (frs fr0 es) e.o.dst e.val := by simp [frs]
theorem frs_length (fr0 : List AV) (es : List Ent) : (frs fr0 es).length = fr0.length := by
  induction es generalizing fr0 with
  | nil => rfl
  | cons e r ih =>
    show (frs (putA fr0 e.o.dst e.val) r).length = _
    rw [ih]
    cases e.o.dst <;> simp [putA]
theorem countEff_snoc (es : List Ent) (e : Ent) : countEff (es ++ [e]) = countEff es + (if e.eff then 1 else 0) := by
  unfold countEff
  rw [List.filter_append, List.length_append]
  cases h : e.eff <;> simp [h]

/-- What is known of an entry. -/
structure EntOk (P : Program) (call : CallA) (ops : Array Oper) (fr0 : List AV) (Hs : List Heap) (before : List Ent) (e : Ent) : Prop where
  fr : e.fr = restr (e.o.looksAt ops) (frs fr0 before)
  want : wantA ops e.fr e.o.guard = some e.wanted
  no : e.no = countEff before
  lo : e.lo = loOf before e.o.after.toList
  eff : e.eff = true → e.wanted = true ∧ ∃ H H', Hs[e.no]? = some H ∧ Hs[e.no + 1]? = some H' ∧ oneOp P call e.o.op e.fr H = some (e.val, H')
  flt : e.eff = false → e.wanted = true → isEff e.o.op = false
  skip : e.wanted = false → e.eff = false ∧ e.val = .t []

theorem lexA_spec {P : Program} {call : CallA} {ops : Array Oper} {fr0 : List AV} : ∀ (l : List Oper) (es : List Ent) (Hs : List Heap) (H : Heap) (es' : List Ent) (Hs' : List Heap) (fr' : List AV) (H' : Heap),
    lexA P call ops l es Hs (frs fr0 es) H = some (es', Hs', fr', H') → Hs.length = countEff es + 1 → Hs[countEff es]? = some H →
    ∃ et, es' = es ++ et ∧ et.map (·.o) = l ∧ fr' = frs fr0 es' ∧ Hs'.length = countEff es' + 1 ∧ Hs'[countEff es']? = some H' ∧ (∀ j, j < Hs.length → Hs'[j]? = Hs[j]?) ∧
      ∀ j e, et[j]? = some e → EntOk P call ops fr0 Hs' (es ++ et.take j) e
  | [], es, Hs, H, es', Hs', fr', H', h, hl, hH => by
    simp [lexA] at h
    obtain ⟨rfl, rfl, rfl, rfl⟩ := h
    exact ⟨[], by simp, rfl, rfl, hl, hH, fun _ _ => rfl, fun j e h => by simp at h⟩
  | o :: rest, es, Hs, H, es', Hs', fr', H', h, hl, hH => by
    unfold lexA at h
    have go : ∀ (e : Ent) (Hs1 : List Heap) (H1 : Heap), e.o = o → lexA P call ops rest (es ++ [e]) Hs1 (putA (frs fr0 es) o.dst e.val) H1 = some (es', Hs', fr', H') → Hs1.length = countEff (es ++ [e]) + 1 → Hs1[countEff (es ++ [e])]? = some H1 → (∀ j, j < Hs.length → Hs1[j]? = Hs[j]?) → Hs.length ≤ Hs1.length →
        (∀ Hs2 : List Heap, (∀ j, j < Hs1.length → Hs2[j]? = Hs1[j]?) → EntOk P call ops fr0 Hs2 es e) →
        ∃ et, es' = es ++ et ∧ et.map (·.o) = o :: rest ∧ fr' = frs fr0 es' ∧ Hs'.length = countEff es' + 1 ∧ Hs'[countEff es']? = some H' ∧ (∀ j, j < Hs.length → Hs'[j]? = Hs[j]?) ∧
          ∀ j e, et[j]? = some e → EntOk P call ops fr0 Hs' (es ++ et.take j) e := by
      intro e Hs1 H1 he hx h1 h2 h3 h3' h4
      rw [← he, ← frs_snoc] at hx
      obtain ⟨et, rfl, e2, e3, e4, e5, e6, e7⟩ := lexA_spec rest _ _ _ _ _ _ _ hx h1 h2
      refine ⟨e :: et, by simp, by simp [e2, he], e3, e4, e5, fun j hj => (e6 j (by omega)).trans (h3 j hj), fun j x hx => ?_⟩
      cases j with
      | zero => simp at hx; subst hx; simpa using h4 Hs' e6
      | succ j =>
        simp at hx
        have := e7 j x hx
        simpa [List.append_assoc] using this
    split at h
    · rename_i hw
      split at h
      · rename_i hi
        split at h
        · rename_i v H1 hv
          refine go ⟨o, true, true, countEff es, loOf es o.after.toList, v, restr (o.looksAt ops) (frs fr0 es)⟩ _ _ rfl h (by simp [countEff_snoc, hl]) (by simp [countEff_snoc, ← hl]) (fun j hj => List.getElem?_append_left hj) (by simp) fun Hs2 h2 => ?_
          refine ⟨rfl, hw, rfl, rfl, fun _ => ⟨rfl, H, H1, ?_, ?_, hv⟩, fun h => by (cases h), fun h => by (cases h)⟩
          · show Hs2[countEff es]? = some H
            rw [h2 _ (by simp; omega), List.getElem?_append_left (by omega)]; exact hH
          · show Hs2[countEff es + 1]? = some H1
            rw [h2 _ (by simp; omega)]; simp [← hl]
        · cases h
      · rename_i hi
        split at h
        · rename_i v H1 hv
          refine go ⟨o, true, false, countEff es, loOf es o.after.toList, v, restr (o.looksAt ops) (frs fr0 es)⟩ _ _ rfl h (by simp [countEff_snoc, hl]) (by simpa [countEff_snoc] using hH) (fun j hj => rfl) (Nat.le_refl _) fun Hs2 h2 => ?_
          exact ⟨rfl, hw, rfl, rfl, fun h => by (cases h), fun _ _ => by simpa using hi, fun h => by (cases h)⟩
        · cases h
    · rename_i hw
      refine go ⟨o, false, false, countEff es, loOf es o.after.toList, .t [], restr (o.looksAt ops) (frs fr0 es)⟩ _ _ rfl h (by simp [countEff_snoc, hl]) (by simpa [countEff_snoc] using hH) (fun j hj => rfl) (Nat.le_refl _) fun Hs2 h2 => ?_
      exact ⟨rfl, hw, rfl, rfl, fun h => by (cases h), fun _ h => by (cases h), fun _ => ⟨rfl, rfl⟩⟩
    · cases h

theorem restr_at (ts : List Tmp) (fr : List AV) (t : Nat) : (restr ts fr)[t]? = (fr[t]?).map fun x => if ts.contains t then x else .u := by
  unfold restr
  simp only [List.getElem?_map, List.getElem?_zipIdx, Nat.zero_add]
  cases fr[t]? <;> rfl

theorem putA_at (fr : List AV) (d : Option Tmp) (v : AV) (t : Nat) : (putA fr d v)[t]? = if d = some t ∧ t < fr.length then some v else fr[t]? := by
  cases d with
  | none => simp [putA]
  | some d =>
    simp only [putA, List.getElem?_set, Option.some.injEq]
    by_cases e : d = t
    · subst e
      by_cases hlt : d < fr.length
      · simp [hlt]
      · simp [hlt]
    · simp [e]

/-- A slot behind these entries: what its one writer wrote, or what it held. -/
theorem frs_none (fr0 : List AV) (t : Nat) : ∀ (es : List Ent), (∀ e ∈ es, e.o.dst ≠ some t) → (frs fr0 es)[t]? = fr0[t]? := by
  intro es
  induction es generalizing fr0 with
  | nil => intro _; rfl
  | cons e r ih =>
    intro h
    show (frs (putA fr0 e.o.dst e.val) r)[t]? = _
    rw [ih _ (fun x hx => h x (List.mem_cons_of_mem _ hx)), putA_at, if_neg (fun k => h e List.mem_cons_self k.1)]
theorem frs_some (fr0 : List AV) (t : Nat) (ht : t < fr0.length) : ∀ (es : List Ent) (k : Nat) (e : Ent), es[k]? = some e → e.o.dst = some t → (∀ j x, es[j]? = some x → j ≠ k → x.o.dst ≠ some t) → (frs fr0 es)[t]? = some e.val := by
  intro es
  induction es generalizing fr0 with
  | nil => intro k e h; simp at h
  | cons a r ih =>
    intro k e h hd hu
    show (frs (putA fr0 a.o.dst a.val) r)[t]? = _
    cases k with
    | zero =>
      simp at h; subst h
      rw [frs_none _ _ _ (fun x hx => by
        obtain ⟨j, hj, rfl⟩ := List.mem_iff_getElem.1 hx
        exact hu (j + 1) _ (by simp [hj]) (by omega)), putA_at, if_pos ⟨hd, ht⟩]
    | succ k =>
      simp at h
      exact ih (putA fr0 a.o.dst a.val) (by cases a.o.dst <;> simpa [putA] using ht) k e h hd (fun j x hx hne => hu (j + 1) x (by simpa using hx) (by omega))

theorem loOf_le (es : List Ent) (c : Nat) : ∀ (l : List Edge), (∀ d ∈ l, Region.binds .any d = true → depOf es d.on ≤ c) → loOf es l ≤ c
  | [], _ => Nat.zero_le _
  | d :: r, h => by
    unfold loOf
    have ih := loOf_le es c r (fun x hx => h x (List.mem_cons_of_mem _ hx))
    split
    · rename_i hb
      have := h d List.mem_cons_self hb
      omega
    · exact ih
theorem dep_le_lo (es : List Ent) : ∀ (l : List Edge) (d : Edge), d ∈ l → Region.binds .any d = true → depOf es d.on ≤ loOf es l
  | x :: r, d, h, hb => by
    unfold loOf
    rcases List.mem_cons.1 h with rfl | h
    · rw [if_pos hb]; omega
    · have := dep_le_lo es r d h hb
      split <;> omega

theorem countP_lt {p q : Nat → Bool} : ∀ (l : List Nat) (i : Nat), i ∈ l → p i = true → q i = false → (∀ j, q j = true → p j = true) → l.countP q < l.countP p
  | x :: r, i, hi, hp, hq, hle => by
    have hr : r.countP q ≤ r.countP p := List.countP_mono_left fun j _ h => hle j h
    rw [List.countP_cons, List.countP_cons]
    by_cases e : x = i
    · subst e; simp [hp, hq]; omega
    · have hi' : i ∈ r := by rcases List.mem_cons.1 hi with h | h; exact absurd h.symm e; exact h
      have := countP_lt r i hi' hp hq hle
      have h1 : (if q x then 1 else 0) ≤ (if p x then 1 else 0) := by
        by_cases hqx : q x = true
        · simp [hqx, hle x hqx]
        · simp [hqx]
      omega

/-- What holds while the region runs, in whatever order: which ops are done; how many effects. -/
structure Going (P : Program) (ρ : Nat → Value) (base : Nat) (w0 : World) (fr0 : List AV) (es : List Ent) (Hs : List Heap) (μ0 : List Loc) (L : Array Bool) (c : Nat) (μ : List Loc) (a : Act) (w : World) : Prop where
  size : L.size = es.length
  ext : Ext μ0 μ
  hr : ∃ H, Hs[c]? = some H ∧ HR P ρ base μ H w
  below : Below base w0 w
  tsize : a.tmps.size = fr0.length
  done : ∀ k e, es[k]? = some e → L.getD k true = true → ∀ t, e.o.dst = some t → t < fr0.length → ∃ v, a.tmps[t]? = some v ∧ VR ρ μ e.val v
  left : ∀ t x, fr0[t]? = some x → (∀ k e, es[k]? = some e → L.getD k true = true → e.o.dst ≠ some t) → ∃ v, a.tmps[t]? = some v ∧ VR ρ μ x v
  effs : ∀ k e, es[k]? = some e → e.eff = true → (L.getD k true = true ↔ e.no < c)
  los : ∀ k e, es[k]? = some e → L.getD k true = true → e.lo ≤ c
  closed : ∀ k e, es[k]? = some e → L.getD k true = true → ∀ d ∈ e.o.after, Region.binds .any d = true → L.getD d.on true = true

end Go.Proofs.Ythioggjaccpfgaa.Ax
