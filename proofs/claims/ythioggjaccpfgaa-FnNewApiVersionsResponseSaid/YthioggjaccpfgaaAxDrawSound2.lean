/-
  THE ABSTRACT MACHINE: a region that draws its order: the step, and the whole.
-/
import Derived.Test.YthioggjaccpfgaaAxDrawSound
namespace Go.Proofs.Ythioggjaccpfgaa.Ax
open Go Go.RowKit

theorem countEff_take_le (es : List Ent) {i k : Nat} (h : i ≤ k) : countEff (es.take i) ≤ countEff (es.take k) := by
  have : (es.take k) = es.take i ++ (es.take k).drop i := by
    have e1 := List.take_append_drop i (es.take k)
    rw [List.take_take, Nat.min_eq_left h] at e1
    exact e1.symm
  unfold countEff
  rw [this, List.filter_append, List.length_append]
  omega
theorem countEff_take_lt (es : List Ent) {i k : Nat} {e : Ent} (he : es[i]? = some e) (heff : e.eff = true) (h : i < k) : countEff (es.take i) < countEff (es.take k) := by
  have h1 : es.take (i + 1) = es.take i ++ [e] := by
    have hlt := (List.getElem?_eq_some_iff.1 he).1
    rw [List.take_succ_eq_append_getElem hlt, (List.getElem?_eq_some_iff.1 he).2]
  have h2 := countEff_take_le es (show i + 1 ≤ k from h)
  rw [h1, countEff_snoc, heff] at h2
  simp at h2
  omega
theorem eff_at (es : List Ent) : ∀ (n c : Nat), c < countEff (es.take n) → ∃ k e, es[k]? = some e ∧ e.eff = true ∧ countEff (es.take k) = c
  | 0, c, h => by simp [countEff] at h
  | n + 1, c, h => by
    by_cases hn : n < es.length
    · have h1 : es.take (n + 1) = es.take n ++ [es[n]] := List.take_succ_eq_append_getElem hn
      by_cases hc : c < countEff (es.take n)
      · exact eff_at es n c hc
      · rw [h1, countEff_snoc] at h
        cases he : es[n].eff with
        | false => rw [he] at h; simp at h; omega
        | true =>
          rw [he] at h
          simp at h
          exact ⟨n, es[n], by simp [hn], he, by omega⟩
    · have : es.take (n + 1) = es.take n := by rw [List.take_of_length_le (by omega), List.take_of_length_le (by omega)]
      rw [this] at h
      exact eff_at es n c h

theorem behind_iff {o : Oper} {i : Nat} (h : behind o i = true) : ∃ d ∈ o.after, Region.binds .any d = true ∧ d.on = i := by
  unfold behind at h
  rw [List.any_eq_true] at h
  obtain ⟨d, hd, hb⟩ := h
  simp only [Bool.and_eq_true, beq_iff_eq] at hb
  exact ⟨d, by simpa using hd, hb.1, hb.2⟩

theorem getD_true_lt {L : Array Bool} {k : Nat} (h : L.getD k false = true) : L.getD k true = true := by
  simp only [Array.getD_eq_getD_getElem?] at h ⊢
  cases hk : L[k]? with
  | none => rfl
  | some b => rw [hk] at h; exact h
theorem getD_in {L : Array Bool} {k : Nat} (hk : k < L.size) (b b' : Bool) : L.getD k b = L.getD k b' := by
  simp only [Array.getD_eq_getD_getElem?, Array.getElem?_eq_getElem hk, Option.getD_some]
theorem getD_set {L : Array Bool} {i k : Nat} (hk : k < L.size) : (L.setIfInBounds i true).getD k true = (if k = i then true else L.getD k true) := by
  by_cases e : k = i
  · subst e
    simp [hk]
  · rw [if_neg e, getD_set_ne true (fun h => e h.symm)]

section
variable {P : Program} {ρ : Nat → Value} {base : Nat} {w0 : World} {fr0 : List AV} {es : List Ent} {Hs : List Heap} {μ0 : List Loc} {call : CallA} {ops : Array Oper}

/-- What the looks of 'drawA' give. -/
structure Looks (P : Program) (call : CallA) (ops : Array Oper) (fr0 : List AV) (es : List Ent) (Hs : List Heap) : Prop where
  opl : ops.toList = es.map (·.o)
  ent : ∀ (k : Nat) (e : Ent), es[k]? = some e → EntOk P call ops fr0 Hs (es.take k) e
  dst : ∀ (k j : Nat) (e x : Ent) (t : Tmp), es[k]? = some e → es[j]? = some x → e.o.dst = some t → x.o.dst = some t → k = j
  edge : ∀ (k : Nat) (e : Ent), es[k]? = some e → ∀ d ∈ e.o.after, Region.binds .any d = true → d.on < k
  slot : ∀ (k : Nat) (e : Ent), es[k]? = some e → ∀ t ∈ e.o.looksAt ops, ∀ (i : Nat) (x : Ent), es[i]? = some x → x.o.dst = some t → i = k ∨ behind e.o i = true ∨ behind x.o k = true
  chk : ∀ (k : Nat) (e : Ent), es[k]? = some e → (e.eff = true → e.no ≤ e.lo) ∧ (e.eff = false → e.wanted = true → floatOk P e Hs = true)
  hs : Hs.length = countEff es + 1

theorem at_op (hl : Looks P call ops fr0 es Hs) {i : Nat} {o : Oper} (h : ops[i]? = some o) : ∃ e, es[i]? = some e ∧ e.o = o := by
  have : ops.toList[i]? = some o := by simpa using h
  rw [hl.opl, List.getElem?_map] at this
  obtain ⟨e, he, rfl⟩ := Option.map_eq_some_iff.1 this
  exact ⟨e, he, rfl⟩

theorem take_at {i k : Nat} {e : Ent} (h : es[k]? = some e) (hk : k < i) : (es.take i)[k]? = some e := by rw [List.getElem?_take, if_pos hk]; exact h
theorem take_of {i k : Nat} {e : Ent} (h : (es.take i)[k]? = some e) : k < i ∧ es[k]? = some e := by
  rw [List.getElem?_take] at h
  split at h
  · exact ⟨by assumption, h⟩
  · cases h

theorem fr_ready (hl : Looks P call ops fr0 es Hs) {L : Array Bool} {c : Nat} {μ : List Loc} {a : Act} {w : World} (g : Going P ρ base w0 fr0 es Hs μ0 L c μ a w) {i : Nat} {e : Ent} (he : es[i]? = some e) (hi : L.getD i true = false)
    (hd : ∀ d ∈ e.o.after, Region.binds .any d = true → L.getD d.on false = true) : FR ρ μ e.fr a.tmps := by
  have hE := hl.ent i e he
  rw [hE.fr]
  refine ⟨by rw [restr, List.length_map, List.length_zipIdx, frs_length]; simp [g.tsize], fun t x u hx hu => ?_⟩
  rw [restr_at] at hx
  obtain ⟨y, hy, rfl⟩ := Option.map_eq_some_iff.1 hx
  split
  · rename_i hc
    have ht : t ∈ e.o.looksAt ops := by simpa using hc
    have hlt : t < fr0.length := by have := (List.getElem?_eq_some_iff.1 hy).1; rwa [frs_length] at this
    have fin : (∃ v, a.tmps[t]? = some v ∧ VR ρ μ y v) → VR ρ μ y u := by
      rintro ⟨v, hv, hvr⟩
      rw [Array.getElem?_toList, hv] at hu
      simp at hu; subst hu
      exact hvr
    apply fin
    by_cases hw : ∃ (k : Nat) (z : Ent), es[k]? = some z ∧ z.o.dst = some t
    · obtain ⟨k, z, hz, hzd⟩ := hw
      rcases hl.slot i e he t ht k z hz hzd with rfl | hb | hb
      · have h0 : (frs fr0 (es.take k))[t]? = fr0[t]? := frs_none _ _ _ fun q hq hqd => by
          obtain ⟨j, hj, rfl⟩ := List.mem_iff_getElem.1 hq
          have hj2 := take_of (List.getElem?_eq_getElem hj)
          have := hl.dst j k _ z t hj2.2 hz hqd hzd
          omega
        rw [h0] at hy
        exact g.left t y hy fun k' e' hk' hL hd' => by
          have := hl.dst k' k e' z t hk' hz hd' hzd
          subst this
          rw [hi] at hL; cases hL
      · obtain ⟨d, hdm, hdb, rfl⟩ := behind_iff hb
        have hlt2 := hl.edge i e he d hdm hdb
        have hval := frs_some fr0 t hlt (es.take i) d.on z (take_at hz hlt2) hzd fun j q hq hne hqd => hne (hl.dst j d.on q z t (take_of hq).2 hz hqd hzd)
        rw [hval] at hy
        simp at hy; subst hy
        exact g.done d.on z hz (getD_true_lt (hd d hdm hdb)) t hzd hlt
      · obtain ⟨d, hdm, hdb, hon⟩ := behind_iff hb
        have hlt2 := hl.edge k z hz d hdm hdb
        have h0 : (frs fr0 (es.take i))[t]? = fr0[t]? := frs_none _ _ _ fun q hq hqd => by
          obtain ⟨j, hj, rfl⟩ := List.mem_iff_getElem.1 hq
          have hj2 := take_of (List.getElem?_eq_getElem hj)
          have := hl.dst j k _ z t hj2.2 hz hqd hzd
          omega
        rw [h0] at hy
        exact g.left t y hy fun k' e' hk' hL hd' => by
          have := hl.dst k' k e' z t hk' hz hd' hzd
          subst this
          have := g.closed k' z hz hL d hdm hdb
          rw [hon, hi] at this; cases this
    · have hw' : ∀ (k : Nat) (z : Ent), es[k]? = some z → z.o.dst ≠ some t := fun k z hz hd => hw ⟨k, z, hz, hd⟩
      have h0 : (frs fr0 (es.take i))[t]? = fr0[t]? := frs_none _ _ _ fun q hq hqd => by
        obtain ⟨j, hj, rfl⟩ := List.mem_iff_getElem.1 hq
        exact hw' j _ (take_of (List.getElem?_eq_getElem hj)).2 hqd
      rw [h0] at hy
      exact g.left t y hy fun k' e' hk' _ hd' => hw' k' e' hk' hd'
  · exact .u _

/-- The op i is done: what holds then. -/
theorem Going.step (hl : Looks P call ops fr0 es Hs) {L : Array Bool} {c c' : Nat} {μ μ' : List Loc} {a : Act} {w w' : World} (g : Going P ρ base w0 fr0 es Hs μ0 L c μ a w) {i : Nat} {e : Ent} (he : es[i]? = some e) (hi : L.getD i true = false)
    (hd : ∀ d ∈ e.o.after, Region.binds .any d = true → L.getD d.on false = true) (hlo : e.lo ≤ c) (hc : (e.eff = true ∧ e.no = c ∧ c' = c + 1) ∨ (e.eff = false ∧ c' = c))
    (hext : Ext μ μ') {v' : Value} (hv : VR ρ μ' e.val v') (hr : ∃ H, Hs[c']? = some H ∧ HR P ρ base μ' H w') (hb : Below base w w') :
    Going P ρ base w0 fr0 es Hs μ0 (L.setIfInBounds i true) c' μ' (a.put e.o.dst v') w' := by
  have hil : i < es.length := (List.getElem?_eq_some_iff.1 he).1
  have hLs : ∀ {k : Nat} {x : Ent}, es[k]? = some x → (L.setIfInBounds i true).getD k true = (if k = i then true else L.getD k true) := fun hk => getD_set (by rw [g.size]; exact (List.getElem?_eq_some_iff.1 hk).1)
  have hLt : ∀ {k : Nat} {x : Ent}, es[k]? = some x → (L.setIfInBounds i true).getD k true = true → k = i ∨ L.getD k true = true := by
    intro k x hk h
    rw [hLs hk] at h
    split at h
    · exact .inl (by assumption)
    · exact .inr h
  have hput : ∀ t, e.o.dst ≠ some t → (a.put e.o.dst v').tmps[t]? = a.tmps[t]? := by
    intro t ht
    cases hdd : e.o.dst with
    | none => rfl
    | some d =>
      rw [hdd] at ht
      simp only [Act.put]
      rw [Array.getElem?_setIfInBounds_ne (fun h => ht (by rw [h]))]
  have hts : (a.put e.o.dst v').tmps.size = fr0.length := by cases e.o.dst <;> simp [Act.put, g.tsize]
  refine ⟨by simp [g.size], g.ext.trans hext, hr, g.below.trans hb, hts, ?_, ?_, ?_, ?_, ?_⟩
  · intro k x hk hL t ht hlt
    by_cases hki : k = i
    · subst hki
      obtain rfl : e = x := Option.some.inj (he.symm.trans hk)
      refine ⟨v', ?_, hv⟩
      rw [ht]
      simp only [Act.put]
      rw [Array.getElem?_setIfInBounds_self_of_lt (by rw [g.tsize]; exact hlt)]
    · obtain ⟨v, h1, h2⟩ := g.done k x hk ((hLt hk hL).resolve_left hki) t ht hlt
      exact ⟨v, by rw [hput t (fun h => hki (hl.dst k i x e t hk he ht h))]; exact h1, h2.mono hext⟩
  · intro t x hx hn
    have hne : e.o.dst ≠ some t := hn i e he (by rw [hLs he, if_pos rfl])
    obtain ⟨v, h1, h2⟩ := g.left t x hx fun k y hk hL => hn k y hk (by rw [hLs hk]; split <;> first | rfl | exact hL)
    exact ⟨v, by rw [hput t hne]; exact h1, h2.mono hext⟩
  · intro k x hk hxe
    rw [hLs hk]
    have h0 := g.effs k x hk hxe
    have hno : x.no = countEff (es.take k) := (hl.ent k x hk).no
    rcases hc with ⟨c1, c2, rfl⟩ | ⟨c1, rfl⟩
    · have hno2 : e.no = countEff (es.take i) := (hl.ent i e he).no
      by_cases hki : k = i
      · subst hki
        obtain rfl : e = x := Option.some.inj (he.symm.trans hk)
        simp; omega
      · rw [if_neg hki, h0]
        constructor
        · intro h; omega
        · intro h
          rcases Nat.lt_or_gt_of_ne hki with hlt | hgt
          · have := countEff_take_lt es hk hxe hlt; omega
          · have := countEff_take_lt es he c1 hgt; omega
    · have hki : k ≠ i := fun h => by
        subst h
        obtain rfl : e = x := Option.some.inj (he.symm.trans hk)
        rw [c1] at hxe; cases hxe
      rw [if_neg hki, h0]
  · intro k x hk hL
    have hcc : c ≤ c' := by rcases hc with ⟨_, _, rfl⟩ | ⟨_, rfl⟩ <;> omega
    rcases hLt hk hL with rfl | hL'
    · obtain rfl : e = x := Option.some.inj (he.symm.trans hk)
      omega
    · have := g.los k x hk hL'; omega
  · intro k x hk hL d hdm hdb
    have hon : d.on < k := hl.edge k x hk d hdm hdb
    have hkl : k < es.length := (List.getElem?_eq_some_iff.1 hk).1
    have hon' : es[d.on]? = some es[d.on] := by simp
    rw [hLs hon']
    split
    · rfl
    · rcases hLt hk hL with rfl | hL'
      · obtain rfl : e = x := Option.some.inj (he.symm.trans hk)
        exact getD_true_lt (hd d hdm hdb)
      · exact g.closed k x hk hL' d hdm hdb

theorem unlisted_step {L : Array Bool} {n i : Nat} (hs : L.size = n) (hi : i < n) (h : L.getD i true = false) :
    ((List.range n).countP fun j => !(L.setIfInBounds i true).getD j true) < (List.range n).countP fun j => !L.getD j true := by
  refine countP_lt _ i (List.mem_range.2 hi) (by simp only [h]; rfl) ?_ fun j hj => ?_
  · rw [getD_set (by omega), if_pos rfl]; rfl
  · by_cases e : j = i
    · subst e; rw [h]; rfl
    · rw [getD_set_ne true (fun k => e k.symm)] at hj; exact hj

theorem any_done (hρ : ∀ j, (ρ j).oneCell' = true) (hN : NoCount P) (hcall : CallSound P ρ base call) (hl : Looks P call ops fr0 es Hs) {fr' : List AV} {H' : Heap} (hfr : fr' = frs fr0 es) (hH' : Hs[countEff es]? = some H') {a0 : Act} {Q : Exit → Act → World → Prop}
    (hQ : ∀ a' w' μ', Ext μ0 μ' → FR ρ μ' fr' a'.tmps → a'.defers = a0.defers → HR P ρ base μ' H' w' → Below base w0 w' → Q .normal a' w') :
    ∀ (n : Nat) (L : Array Bool) (c : Nat) (μ : List Loc) (a : Act) (w : World), Going P ρ base w0 fr0 es Hs μ0 L c μ a w → a.defers = a0.defers → ((List.range es.length).countP fun j => !L.getD j true) ≤ n → wpAny P .any ops Q n L a w := by
  have hol : ops.size = es.length := by rw [← Array.length_toList, hl.opl, List.length_map]
  have fin : ∀ (L : Array Bool) (c : Nat) (μ : List Loc) (a : Act) (w : World), Going P ρ base w0 fr0 es Hs μ0 L c μ a w → a.defers = a0.defers → (∀ k, k < es.length → L.getD k true = true) → Q .normal a w := by
    intro L c μ a w g hd hall
    obtain ⟨H, hH, hr⟩ := g.hr
    have hc : c = countEff es := by
      have h1 : c < Hs.length := (List.getElem?_eq_some_iff.1 hH).1
      rw [hl.hs] at h1
      rcases Nat.lt_or_ge c (countEff es) with h2 | h2
      · obtain ⟨k, e, hk, he, hkc⟩ := eff_at es es.length c (by rwa [List.take_length])
        have h3 := (g.effs k e hk he).1 (hall k (List.getElem?_eq_some_iff.1 hk).1)
        rw [(hl.ent k e hk).no] at h3
        omega
      · omega
    subst hc
    obtain rfl : H = H' := Option.some.inj (hH.symm.trans hH')
    refine hQ a w μ g.ext ?_ hd hr g.below
    subst hfr
    refine ⟨by rw [frs_length]; simp [g.tsize], fun t x u hx hu => ?_⟩
    have hlt : t < fr0.length := by have := (List.getElem?_eq_some_iff.1 hx).1; rwa [frs_length] at this
    have fin : (∃ v, a.tmps[t]? = some v ∧ VR ρ μ x v) → VR ρ μ x u := by
      rintro ⟨v, hv, hvr⟩
      rw [Array.getElem?_toList, hv] at hu
      simp at hu; subst hu
      exact hvr
    apply fin
    by_cases hw : ∃ (k : Nat) (z : Ent), es[k]? = some z ∧ z.o.dst = some t
    · obtain ⟨k, z, hz, hzd⟩ := hw
      rw [frs_some fr0 t hlt es k z hz hzd fun j q hq hne hqd => hne (hl.dst j k q z t hq hz hqd hzd)] at hx
      simp at hx; subst hx
      exact g.done k z hz (hall k (List.getElem?_eq_some_iff.1 hz).1) t hzd hlt
    · rw [frs_none fr0 t es fun q hq hqd => by
        obtain ⟨j, hj, rfl⟩ := List.mem_iff_getElem.1 hq
        exact hw ⟨j, _, List.getElem?_eq_getElem hj, hqd⟩] at hx
      exact g.left t x hx fun k e hk _ hd' => hw ⟨k, e, hk, hd'⟩
  have none_ready : ∀ (L : Array Bool), L.size = es.length → Region.ready .any ops L = [] → ∀ k, k < es.length → L.getD k true = true := by
    intro L hs hr k
    induction k using Nat.strongRecOn with
    | _ k ih =>
      intro hk
      cases hL : L.getD k true with
      | true => rfl
      | false =>
        exfalso
        have hmem : k ∈ Region.ready .any ops L := by
          rw [mem_ready]
          have hke : es[k]? = some es[k] := by simp [hk]
          have ho : ops[k]? = some es[k].o := by
            have : ops.toList[k]? = some es[k].o := by rw [hl.opl, List.getElem?_map, hke]; rfl
            simpa using this
          refine ⟨hL, _, ho, fun d hdm hdb => ?_⟩
          have hlt := hl.edge k _ hke d hdm hdb
          have := ih d.on hlt (by omega)
          rwa [getD_in (by omega) true false] at this
        rw [hr] at hmem
        cases hmem
  intro n
  induction n with
  | zero =>
    intro L c μ a w g hd hn
    have hall : ∀ k, k < es.length → L.getD k true = true := by
      intro k hk
      have h0 : ((List.range es.length).countP fun j => !L.getD j true) = 0 := by omega
      rw [List.countP_eq_zero] at h0
      have := h0 k (List.mem_range.2 hk)
      simpa using this
    refine ⟨?_, fin L c μ a w g hd hall⟩
    apply List.eq_nil_iff_forall_not_mem.2
    intro k hk
    obtain ⟨h1, o, ho, _⟩ := mem_ready.1 hk
    have hlt : k < es.length := by rw [← hol]; exact (Array.getElem?_eq_some_iff.1 ho).1
    rw [hall k hlt] at h1; cases h1
  | succ n ih =>
    intro L c μ a w g hd hn
    refine ⟨fun hr => fin L c μ a w g hd (none_ready L g.size hr), fun i hi => ?_⟩
    obtain ⟨hLi, o, ho, hdeps⟩ := mem_ready.1 hi
    obtain ⟨e, he, rfl⟩ := at_op hl ho
    have hil : i < es.length := (List.getElem?_eq_some_iff.1 he).1
    have hE := hl.ent i e he
    have hF := fr_ready hl g he hLi hdeps
    have hcnt := unlisted_step g.size hil hLi
    have hlo : e.lo ≤ c := by
      rw [hE.lo]
      refine loOf_le _ c _ fun d hdm hdb => ?_
      have hdm' : d ∈ e.o.after := by simpa using hdm
      have hlt := hl.edge i e he d hdm' hdb
      have hon : es[d.on]? = some es[d.on] := by simp
      unfold depOf
      rw [take_at hon hlt]
      have hLd := getD_true_lt (hdeps d hdm' hdb)
      simp only
      split
      · rename_i hef
        have := (g.effs _ _ hon hef).1 hLd
        omega
      · exact g.los _ _ hon hLd
    have next : ∀ (c' : Nat) (v' : Value) (w' : World) (μ' : List Loc), ((e.eff = true ∧ e.no = c ∧ c' = c + 1) ∨ (e.eff = false ∧ c' = c)) → Ext μ μ' → VR ρ μ' e.val v' → (∃ H, Hs[c']? = some H ∧ HR P ρ base μ' H w') → Below base w w' →
        wpAny P .any ops Q n (L.setIfInBounds i true) (a.put e.o.dst v') w' := by
      intro c' v' w' μ' hc hext hv hr hb
      exact ih _ c' μ' _ w' (g.step hl he hLi hdeps hlo hc hext hv hr hb) ((put_defers ..).trans hd) (by omega)
    obtain ⟨Hc, hHc, hrc⟩ := g.hr
    unfold wpOp
    rw [ho]
    simp only
    have hwant := want_eq hF hE.want
    cases hw : e.wanted with
    | false =>
      rw [hw] at hwant
      rw [if_neg (by rw [hwant]; simp)]
      obtain ⟨h1, h2⟩ := hE.skip hw
      exact next c undef w μ (.inr ⟨h1, rfl⟩) (Ext.refl _) (by rw [h2]; exact VR.undef) ⟨Hc, hHc, hrc⟩ (Below.refl _ _)
    | true =>
      rw [hw] at hwant
      rw [if_pos hwant]
      left
      cases hef : e.eff with
      | true =>
        obtain ⟨_, H1, H2, k1, k2, k3⟩ := hE.eff hef
        have hno : e.no = c := by
          have h1 := (hl.chk i e he).1 hef
          have h2 : ¬ e.no < c := fun h => by
            have := (g.effs i e he hef).2 h
            rw [hLi] at this; cases this
          omega
        rw [hno] at k1 k2
        obtain rfl : Hc = H1 := Option.some.inj (hHc.symm.trans k1)
        refine oneOp_wp hρ hN hcall hrc hF k3 fun v' w' μ' e1 e2 e3 e4 => ?_
        exact next (c + 1) v' w' μ' (.inl ⟨hef, hno, rfl⟩) e1 e2 ⟨H2, k2, e3⟩ e4
      | false =>
        have hflt := (hl.chk i e he).2 hef hw
        unfold floatOk at hflt
        rw [List.all_eq_true] at hflt
        have hmem : Hc ∈ Hs.drop e.lo := by
          have hc1 : c < Hs.length := (List.getElem?_eq_some_iff.1 hHc).1
          have hc2 : Hs[c] = Hc := (List.getElem?_eq_some_iff.1 hHc).2
          rw [← hc2]
          refine List.mem_iff_getElem.2 ⟨c - e.lo, by simp; omega, ?_⟩
          rw [List.getElem_drop]
          congr 1
          omega
        have hv := hflt Hc hmem
        split at hv
        · rename_i v Hx hop
          have hvv := sameV_eq hv
          obtain rfl := float_heap (hE.flt hef hw) hop
          refine opA_wp hρ hrc hF hop fun v' w' μ' e1 e2 e3 e4 => ?_
          exact next c v' w' μ' (.inr ⟨hef, rfl⟩) e1 (by rw [← hvv]; exact e2) ⟨_, hHc, e3⟩ e4
        · cases hv
end

theorem drawA_sound {P : Program} {ρ : Nat → Value} {base : Nat} (hρ : ∀ j, (ρ j).oneCell' = true) (hN : NoCount P) : DrawSound P ρ base (drawA P) := by
  intro call hcall id ops fr H fr' H' h μ a w Q hr hf hQ
  unfold drawA at h
  split at h
  · rename_i hck
    simp only [Bool.and_eq_true] at hck
    obtain ⟨⟨⟨hm, hedge⟩, hslot⟩, hdst⟩ := hck
    split at h
    · rename_i es Hs fr1 H1 hlex
      split at h
      · rename_i hall
        simp at h
        obtain ⟨rfl, rfl⟩ := h
        obtain ⟨et, he1, he2, he3, he4, he5, he6, he7⟩ := lexA_spec (fr0 := fr) ops.toList [] [H] H es Hs fr1 H1 hlex rfl rfl
        simp only [List.nil_append] at he1
        subst he1
        have hops : ∀ (k : Nat) (e : Ent), es[k]? = some e → (e.o, k) ∈ ops.toList.zipIdx := by
          intro k e hk
          rw [List.mem_zipIdx_iff_getElem?]
          rw [← he2, List.getElem?_map, hk]; rfl
        have hl : Looks P call ops fr es Hs := by
          refine ⟨he2.symm, fun k e hk => by simpa using he7 k e hk, ?_, ?_, ?_, ?_, he4⟩
          · intro k j e x t hk hj h1 h2
            unfold dstsOk at hdst
            rw [List.all_eq_true] at hdst
            have := hdst _ (hops k e hk)
            simp only [List.all_eq_true] at this
            have := this _ (hops j x hj)
            simp only [Bool.or_eq_true, beq_iff_eq, bne_iff_ne] at this
            rcases this with (h3 | h3) | h3
            · exact h3.symm
            · rw [h1] at h3; cases h3
            · exact absurd (h2.trans h1.symm) h3
          · intro k e hk d hdm hdb
            unfold edgesOk at hedge
            rw [List.all_eq_true] at hedge
            have := hedge _ (hops k e hk)
            simp only [List.all_eq_true] at this
            have := this d (by simpa using hdm)
            simpa [hdb] using this
          · intro k e hk t ht i x hi hx
            unfold slotsOk at hslot
            rw [List.all_eq_true] at hslot
            have := hslot _ (hops k e hk)
            simp only [List.all_eq_true] at this
            have := this t ht _ (hops i x hi)
            simp only [Bool.or_eq_true, beq_iff_eq, bne_iff_ne] at this
            rcases this with ((h3 | h3) | h3) | h3
            · exact absurd hx h3
            · exact .inl h3
            · exact .inr (.inl h3)
            · exact .inr (.inr h3)
          · intro k e hk
            rw [List.all_eq_true] at hall
            have := hall e (List.mem_of_getElem? hk)
            refine ⟨fun h1 => ?_, fun h1 h2 => ?_⟩
            · rw [if_pos h1] at this; simpa using this
            · rw [if_neg (by rw [h1]; simp), h2] at this; simpa using this
        have hol : ops.size = es.length := by rw [← Array.length_toList, ← he2, List.length_map]
        refine wp_region_any hm ?_
        have hrep : ∀ k, (Array.replicate ops.size false).getD k true = true → ¬ k < ops.size := by
          intro k h1 h2
          rw [getD_in (by simpa using h2) true false] at h1
          simp [h2] at h1
        have hg : Going P ρ base { w with drawn := w.drawn + 1 } fr es Hs μ (Array.replicate ops.size false) 0 μ a { w with drawn := w.drawn + 1 } := by
          have hsz := hf.1
          refine ⟨by simp [hol], Ext.refl _, ⟨H, ?_, hr.drew⟩, Below.refl _ _, by simpa using hsz.symm, ?_, ?_, ?_, ?_, ?_⟩
          · rw [he6 0 (by simp)]; rfl
          · intro k e hk hL; exact absurd (by rw [hol]; exact (List.getElem?_eq_some_iff.1 hk).1) (hrep k hL)
          · intro t x hx _
            obtain ⟨v, h1, h2⟩ := VRs.at hf hx
            exact ⟨v, by simpa using h1, h2⟩
          · intro k e hk he
            constructor
            · intro hL; exact absurd (by rw [hol]; exact (List.getElem?_eq_some_iff.1 hk).1) (hrep k hL)
            · intro h; omega
          · intro k e hk hL; exact absurd (by rw [hol]; exact (List.getElem?_eq_some_iff.1 hk).1) (hrep k hL)
          · intro k e hk hL; exact absurd (by rw [hol]; exact (List.getElem?_eq_some_iff.1 hk).1) (hrep k hL)
        refine any_done hρ hN hcall hl he3 he5 (a0 := a) (fun a' w' μ' e1 e2 e3 e4 e5 => hQ a' w' μ' e1 e2 e3 e4 ?_) ops.size _ 0 μ a _ hg rfl ?_
        · exact ((Below.refl base w).drew).trans e5
        · have := List.countP_le_length (p := fun j => !(Array.replicate ops.size false).getD j true) (l := List.range es.length)
          simp at this ⊢
          omega
      · cases h
    · cases h
  · cases h
end Go.Proofs.Ythioggjaccpfgaa.Ax
