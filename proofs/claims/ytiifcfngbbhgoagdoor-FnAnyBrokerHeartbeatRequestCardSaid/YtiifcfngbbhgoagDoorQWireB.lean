/-
  WHAT IS WRITTEN IS READ AS THE SAME: tags, lists, messages; what is cut is not read.
-/
import Derived.Test.YtiifcfngbbhgoagDoorQWire
set_option linter.constructorNameAsVariable false
set_option linter.unusedVariables false
set_option linter.unusedSimpArgs false
namespace Go.Proofs.YtiifcfngbbhgoagDoor.Wire
theorem rdL_cnt {flex : Bool} {n : Nat} {r : B} (hn : n < 2 ^ 31) (hr : n ≤ r.length) : rdL flex (cnt flex 4 n ++ r) = some ((n : Int), r) := by
  have hne : ¬ ((r.length : Int) < (n : Int)) := by omega
  cases flex with
  | true =>
    simp only [rdL, cnt, if_true]
    rw [rdV_uv (by omega)]
    have : sgn 4 (((sgn 4 (n + 1)) - 1) % 4294967296).toNat = n := by
      unfold sgn
      simp
      by_cases h : n + 1 < 2147483648
      · rw [if_pos h]; split <;> omega
      · rw [if_neg h]
        split <;> omega
    simp [this, hr]
  | false =>
    have h := rdI_be (r := r) (sgn_be4 (inI4 hn))
    simp [rdL, cnt, h, hr]
theorem rdL_null {flex : Bool} {r : B} : rdL flex (cnt0 flex 4 ++ r) = some (-1, r) := by
  cases flex with
  | true =>
    simp only [rdL, cnt0, if_true]
    have : rdV ([0] ++ r) = some (0, r) := by simp [rdV, uvd]
    rw [this]
    have e : sgn 4 (((sgn 4 0) - 1) % 4294967296).toNat = -1 := by decide
    simp only [Option.map_some, Option.bind_some, e]
    rw [if_neg (by omega)]
  | false =>
    have h := rdI_be (s := 4) (n := -1) (r := r) (by decide)
    simp only [rdL, cnt0, Bool.false_eq_true, if_false, h, Option.bind_some]
    rw [if_neg (by omega)]
theorem rdL_ext {flex : Bool} {p r : B} {l : Int} (h : rdL flex p = some (l, r)) (q : B) : rdL flex (p ++ q) = some (l, r ++ q) := by
  unfold rdL at *
  obtain ⟨⟨m, r'⟩, hc, h⟩ := Option.bind_eq_some_iff.1 h
  simp only at h
  split at h
  · cases h
  · rename_i h1
    simp at h
    obtain ⟨rfl, rfl⟩ := h
    have h2 : ¬ (((r' ++ q).length : Int) < m) := by simp; omega
    cases flex with
    | true =>
      simp only [if_true] at *
      obtain ⟨⟨n, r0⟩, hv, hh⟩ := Option.map_eq_some_iff.1 hc
      simp at hh
      obtain ⟨rfl, rfl⟩ := hh
      rw [rdV_ext hv q]
      simp only [Option.map_some, Option.bind_some]
      rw [if_neg h2]
    | false =>
      simp only [Bool.false_eq_true, if_false] at *
      rw [rdI_ext hc q]
      simp only [Option.bind_some]
      rw [if_neg h2]
theorem rdL_ok {flex : Bool} {p r : B} {l : Int} (h : rdL flex p = some (l, r)) : inI 4 l ∧ l ≤ r.length := by
  unfold rdL at h
  obtain ⟨⟨m, r'⟩, hc, h⟩ := Option.bind_eq_some_iff.1 h
  simp only at h
  split at h
  · cases h
  · rename_i h1
    simp at h
    obtain ⟨rfl, rfl⟩ := h
    refine ⟨?_, by omega⟩
    cases flex with
    | true =>
      simp only [if_true] at hc
      obtain ⟨⟨n, r0⟩, hv, hh⟩ := Option.map_eq_some_iff.1 hc
      simp at hh
      obtain ⟨rfl, rfl⟩ := hh
      generalize hx : (sgn 4 n - 1) % 4294967296 = x
      have : 0 ≤ x ∧ x < 4294967296 := by omega
      unfold inI sgn
      simp
      split <;> omega
    | false =>
      simp only [Bool.false_eq_true, if_false] at hc
      exact rdI_in (.inr (.inr (.inl rfl))) hc
theorem put_last : ∀ (ts : List (Nat × B)) (m k : Nat) (v : B), okT m ts → (∀ x ∈ ts, x.1 < k) → put k v ts = ts ++ [(k, v)]
  | [], _, _, _, _, _ => rfl
  | (k', v') :: r, m, k, v, h, hk => by
    have h1 : k' < k := hk (k', v') (by simp)
    have h2 : okT (k' + 1) r := h.2.2.2
    rw [put, if_neg (by omega), if_neg (by omega), put_last r (k' + 1) k v h2 (fun x hx => hk x (by simp [hx]))]
    rfl
theorem okT_app : ∀ (ts : List (Nat × B)) (m k : Nat) (v : B) (r : List (Nat × B)), okT m (ts ++ (k, v) :: r) → okT m (ts ++ [(k, v)]) ∧ (∀ x ∈ ts, x.1 < k) ∧ k < 2 ^ 32 ∧ v.length < 2 ^ 32 ∧ m ≤ k
  | [], m, k, v, r, h => by
    simp only [List.nil_append, okT] at *
    exact ⟨⟨h.1, h.2.1, h.2.2.1, trivial⟩, fun x hx => by simp at hx, h.2.1, h.2.2.1, h.1⟩
  | (k', v') :: ts, m, k, v, r, h => by
    simp only [List.cons_append, okT] at *
    obtain ⟨a, b, c, d, e⟩ := okT_app ts (k' + 1) k v r h.2.2.2
    refine ⟨⟨h.1, h.2.1, h.2.2.1, a⟩, fun x hx => ?_, c, d, by omega⟩
    rcases List.mem_cons.1 hx with rfl | hx
    · simp; omega
    · exact b x hx
theorem okT_left : ∀ (ts us : List (Nat × B)) (m : Nat), okT m (ts ++ us) → okT m ts
  | [], _, _, _ => trivial
  | (k', v') :: ts, us, m, h => by
    simp only [List.cons_append, okT] at *
    exact ⟨h.1, h.2.1, h.2.2.1, okT_left ts us _ h.2.2.2⟩
theorem decT_encT : ∀ (us ts : List (Nat × B)) (r : B), okT 0 (ts ++ us) → decT us.length ts (encT us ++ r) = some (ts ++ us, r)
  | [], ts, r, _ => by simp [decT, encT]
  | (k, v) :: us, ts, r, h => by
    obtain ⟨h1, h2, h3, h4, _⟩ := okT_app ts 0 k v us h
    have e : encT ((k, v) :: us) ++ r = uv k ++ (uv v.length ++ (v ++ (encT us ++ r))) := by simp [encT]
    simp only [List.length_cons, decT]
    rw [e, rdV_uv h3]
    simp only [Option.bind_some]
    rw [rdV_uv h4]
    simp only [Option.bind_some]
    rw [cut_app rfl]
    simp only [Option.bind_some]
    rw [put_last ts 0 k v (okT_left ts _ 0 h) h2]
    have := decT_encT us (ts ++ [(k, v)]) r (by simpa using h)
    simpa using this
theorem okT_put : ∀ (ts : List (Nat × B)) (m k : Nat) (v : B), okT m ts → m ≤ k → k < 2 ^ 32 → v.length < 2 ^ 32 → okT m (put k v ts)
  | [], m, k, v, _, h1, h2, h3 => ⟨h1, h2, h3, trivial⟩
  | (k', v') :: r, m, k, v, h, h1, h2, h3 => by
    obtain ⟨a, b, c, d⟩ := h
    unfold put
    split
    · exact ⟨h1, h2, h3, by omega, b, c, d⟩
    · split
      · rename_i e
        subst e
        exact ⟨h1, h2, h3, d⟩
      · exact ⟨a, b, c, okT_put r _ k v d (by omega) h2 h3⟩
theorem put_len : ∀ (ts : List (Nat × B)) (k : Nat) (v : B), (put k v ts).length ≤ ts.length + 1
  | [], _, _ => by simp [put]
  | (k', v') :: r, k, v => by
    unfold put
    split
    · simp
    · split
      · simp
      · have := put_len r k v
        simp; omega
theorem decT_ok : ∀ (n : Nat) {ts us : List (Nat × B)} {p r : B}, decT n ts p = some (us, r) → okT 0 ts → okT 0 us ∧ us.length ≤ ts.length + n
  | 0, ts, us, p, r, h, ho => by
    simp [decT] at h
    obtain ⟨rfl, rfl⟩ := h
    exact ⟨ho, by omega⟩
  | n + 1, ts, us, p, r, h, ho => by
    simp only [decT] at h
    obtain ⟨⟨k, r1⟩, h1, h⟩ := Option.bind_eq_some_iff.1 h
    obtain ⟨⟨l, r2⟩, h2, h⟩ := Option.bind_eq_some_iff.1 h
    obtain ⟨⟨x, r3⟩, h3, h⟩ := Option.bind_eq_some_iff.1 h
    have hx := (cut_len h3).1
    have hl := rdV_lt h2
    have := decT_ok n h (okT_put ts 0 k x ho (Nat.zero_le _) (rdV_lt h1) (by omega))
    have h5 := put_len ts k x
    exact ⟨this.1, by have := this.2; simp only at this h5; omega⟩
theorem many_enc {d : B → Option (V × B)} {e : V → B} : ∀ (vs : List V) (r : B), (∀ v ∈ vs, ∀ r, d (e v ++ r) = some (v, r)) → many d vs.length (vs.flatMap e ++ r) = some (vs, r)
  | [], r, _ => by simp [many]
  | v :: vs, r, h => by
    simp only [List.length_cons, many, List.flatMap_cons, List.append_assoc]
    rw [h v (by simp)]
    simp only [Option.bind_some]
    rw [many_enc vs r (fun x hx => h x (by simp [hx]))]
    rfl
theorem many_ok {d : B → Option (V × B)} : ∀ (n : Nat) {vs : List V} {p r : B}, many d n p = some (vs, r) → vs.length = n ∧ ∀ v ∈ vs, ∃ p r, d p = some (v, r)
  | 0, vs, p, r, h => by
    simp [many] at h
    obtain ⟨rfl, rfl⟩ := h
    exact ⟨rfl, fun v hv => by simp at hv⟩
  | n + 1, vs, p, r, h => by
    simp only [many] at h
    obtain ⟨⟨v, r1⟩, h1, h⟩ := Option.bind_eq_some_iff.1 h
    obtain ⟨⟨ws, r2⟩, h2, hh⟩ := Option.map_eq_some_iff.1 h
    simp at hh
    obtain ⟨rfl, rfl⟩ := hh
    have := many_ok n h2
    refine ⟨by simp [this.1], fun x hx => ?_⟩
    rcases List.mem_cons.1 hx with rfl | hx
    · exact ⟨_, _, h1⟩
    · exact this.2 x hx
theorem encK_pos {flex : Bool} {k : K} {null : Bool} {v : V} (h : okK flex k null v) : 1 ≤ (encK flex k v).length := by
  have h1 : ∀ {s n : Nat}, 0 < s → 1 ≤ (cnt flex s n).length := by
    intro s n hs
    unfold cnt
    split
    · exact uv_pos _
    · rw [be_length]; exact hs
  have h2 : ∀ {s : Nat}, 0 < s → 1 ≤ (cnt0 flex s).length := by
    intro s hs
    unfold cnt0
    split
    · simp
    · rw [be_length]; exact hs
  cases k <;> cases v <;> simp only [okK] at h <;> try (exact absurd h id)
  all_goals simp only [encK, List.length_append, be_length, K.size]
  all_goals first
    | exact Nat.le_trans (h1 (by omega)) (Nat.le_add_right _ _)
    | (exact h2 (by omega))
    | omega
    | simp
theorem ok_tags {flex : Bool} {o : Nat} {f : F} {v : V} (h : ok flex (.tags o f) v) : ∃ ts w, v = .c (.t ts) w ∧ okT 0 ts ∧ ts.length < 2 ^ 32 ∧ ok flex f w := by
  cases v with
  | c x w =>
    cases x with
    | t ts => exact ⟨ts, w, rfl, h⟩
    | _ => exact absurd h id
  | _ => exact absurd h id
theorem enc_pos {flex : Bool} : ∀ {f : F} {v : V}, ok flex f v → f ≠ .nil → 1 ≤ (enc flex f v).length
  | .nil, _, _, h => absurd rfl h
  | .leaf o k n r, v, h, _ => by
    cases v <;> simp only [ok] at h <;> try (exact absurd h id)
    have := encK_pos h.1
    simp only [enc, List.length_append]; omega
  | .list o sz n e r, v, h, _ => by
    cases v <;> simp only [ok] at h <;> try (exact absurd h id)
    rename_i v w
    have h1 : ∀ m, 1 ≤ (cnt flex 4 m).length := by
      intro m; unfold cnt; split
      · exact uv_pos _
      · rw [be_length]; omega
    have h2 : 1 ≤ (cnt0 flex 4).length := by
      unfold cnt0; split
      · simp
      · rw [be_length]; omega
    simp only [enc, List.length_append]
    cases v with
    | l vs =>
      have := h1 vs.length
      simp only [List.length_append]; omega
    | _ => simp only; omega
  | .tags o r, v, h, _ => by
    obtain ⟨ts, w, rfl, _⟩ := ok_tags h
    have := uv_pos ts.length
    simp only [enc, List.length_append]; omega
theorem dec_enc {flex : Bool} : ∀ {f : F} {v : V}, f.good = true → ok flex f v → ∀ r, dec flex f (enc flex f v ++ r) = some (v, r)
  | .nil, v, _, h, r => by
    cases v <;> simp only [ok] at h <;> try (exact absurd h id)
    rfl
  | .leaf o k n f, v, hg, h, r => by
    cases v <;> simp only [ok] at h <;> try (exact absurd h id)
    rename_i v w
    simp only [F.good] at hg
    simp only [dec, enc, List.append_assoc]
    rw [decK_encK h.1]
    simp only [Option.bind_some]
    rw [dec_enc hg h.2]
    rfl
  | .list o sz n e f, v, hg, h, r => by
    cases v <;> simp only [ok] at h <;> try (exact absurd h id)
    rename_i v w
    simp only [F.good, Bool.and_eq_true, bne_iff_ne, ne_eq] at hg
    simp only [dec, enc, List.append_assoc]
    cases v <;> simp only at h <;> try (exact absurd h.1 id)
    · simp only
      rw [rdL_null]
      simp only [Option.bind_some]
      rw [if_pos (by simp [h.1])]
      simp only [Option.bind_some]
      rw [dec_enc hg.2 h.2]
      rfl
    · rename_i vs
      obtain ⟨⟨h1, h2⟩, h3⟩ := h
      have hlen : vs.length ≤ (vs.flatMap (enc flex e)).length := by
        clear h1 h3
        induction vs with
        | nil => simp
        | cons x vs ih =>
          have a := enc_pos (h2 x (by simp)) hg.1.1
          have b := ih (fun y hy => h2 y (by simp [hy]))
          simp only [List.flatMap_cons, List.length_append, List.length_cons]
          omega
      simp only [List.append_assoc]
      rw [rdL_cnt h1 (by simp only [List.length_append]; omega)]
      simp only [Option.bind_some]
      rw [if_neg (by simp)]
      rw [Int.toNat_natCast, many_enc vs _ (fun x hx r => dec_enc hg.1.2 (h2 x hx) r)]
      simp only [Option.map_some, Option.bind_some]
      rw [dec_enc hg.2 h3]
      rfl
  | .tags o f, v, hg, h, r => by
    obtain ⟨ts, w, rfl, h⟩ := ok_tags h
    simp only [F.good] at hg
    simp only [dec, enc, List.append_assoc]
    rw [rdV_uv h.2.1]
    simp only [Option.bind_some]
    have := decT_encT ts [] (enc flex f w ++ r) (by simpa using h.1)
    rw [this]
    simp only [Option.bind_some, List.nil_append]
    rw [dec_enc hg h.2.2]
    rfl
theorem dec_ok {flex : Bool} : ∀ {f : F} {v : V} {p r : B}, dec flex f p = some (v, r) → ok flex f v
  | .nil, v, p, r, h => by
    simp [dec] at h
    obtain ⟨rfl, rfl⟩ := h
    trivial
  | .leaf o k n f, v, p, r, h => by
    simp only [dec] at h
    obtain ⟨⟨x, r1⟩, h1, h⟩ := Option.bind_eq_some_iff.1 h
    obtain ⟨⟨y, r2⟩, h2, hh⟩ := Option.map_eq_some_iff.1 h
    simp at hh
    obtain ⟨rfl, rfl⟩ := hh
    exact ⟨decK_ok h1, dec_ok h2⟩
  | .list o sz n e f, v, p, r, h => by
    simp only [dec] at h
    obtain ⟨⟨l, r1⟩, h1, h⟩ := Option.bind_eq_some_iff.1 h
    obtain ⟨⟨x, r2⟩, h2, h⟩ := Option.bind_eq_some_iff.1 h
    obtain ⟨⟨y, r3⟩, h3, hh⟩ := Option.map_eq_some_iff.1 h
    simp at hh
    obtain ⟨rfl, rfl⟩ := hh
    have hl := (rdL_ok h1).1
    simp only at h2
    split at h2
    · rename_i hc
      simp at h2
      obtain ⟨rfl, rfl⟩ := h2
      simp at hc
      exact ⟨hc.1, dec_ok h3⟩
    · obtain ⟨⟨vs, r4⟩, h4, hh⟩ := Option.map_eq_some_iff.1 h2
      simp at hh
      obtain ⟨rfl, rfl⟩ := hh
      obtain ⟨m1, m2⟩ := many_ok _ h4
      refine ⟨⟨?_, fun v hv => ?_⟩, dec_ok h3⟩
      · rw [m1]; simp [inI] at hl; omega
      · obtain ⟨p', r', h5⟩ := m2 v hv
        exact dec_ok h5
  | .tags o f, v, p, r, h => by
    simp only [dec] at h
    obtain ⟨⟨n, r1⟩, h1, h⟩ := Option.bind_eq_some_iff.1 h
    obtain ⟨⟨ts, r2⟩, h2, h⟩ := Option.bind_eq_some_iff.1 h
    obtain ⟨⟨y, r3⟩, h3, hh⟩ := Option.map_eq_some_iff.1 h
    simp at hh
    obtain ⟨rfl, rfl⟩ := hh
    have a := decT_ok n h2 trivial
    have b := rdV_lt h1
    exact ⟨a.1, by have := a.2; simp at this; omega, dec_ok h3⟩
end Go.Proofs.YtiifcfngbbhgoagDoor.Wire

