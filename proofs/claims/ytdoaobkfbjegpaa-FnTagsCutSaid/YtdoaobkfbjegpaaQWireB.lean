/-
  WHAT IS WRITTEN IS READ AS THE SAME: tags, lists, messages; what is cut is not read.
-/
import Derived.Test.YtdoaobkfbjegpaaQAxLog
set_option linter.constructorNameAsVariable false
set_option linter.unusedVariables false
set_option linter.unusedSimpArgs false
namespace Go.Proofs.Ytdoaobkfbjegpaa.Wire
theorem rdL_cnt {flex : Bool} {n : Nat} {r : B} (hn : n < 2 ^ 31) (hr : n ≤ r.length) : rdL flex (cnt flex 4 n ++ r) = some ((n : Int), r) := by
  have hne : ¬ ((r.length : Int) < (n : Int)) := by omega
  cases flex with
  | true =>
    simp only [rdL, cnt, if_true]
    rw [rdV_uv (by omega)]
    have : sgn 4 (((sgn 4 (n + 1)) - 1) % 4294967296).toNat = n := by
      unfold sgn
      simp
      by_cases h : n + 1 < 2147483648
      · rw [if_pos h]; split <;> omega
      · rw [if_neg h]
        split <;> omega
    simp [this, hr]
  | false =>
    have h := rdI_be (r := r) (sgn_be4 (inI4 hn))
    simp [rdL, cnt, h, hr]
theorem rdL_null {flex : Bool} {r : B} : rdL flex (cnt0 flex 4 ++ r) = some (-1, r) := by
  cases flex with
  | true =>
    simp only [rdL, cnt0, if_true]
    have : rdV ([0] ++ r) = some (0, r) := by simp [rdV, uvd]
    rw [this]
    have e : sgn 4 (((sgn 4 0) - 1) % 4294967296).toNat = -1 := by decide
    simp only [Option.map_some, Option.bind_some, e]
    rw [if_neg (by omega)]
  | false =>
    have h := rdI_be (s := 4) (n := -1) (r := r) (by decide)
    simp only [rdL, cnt0, Bool.false_eq_true, if_false, h, Option.bind_some]
    rw [if_neg (by omega)]
theorem rdL_ext {flex : Bool} {p r : B} {l : Int} (h : rdL flex p = some (l, r)) (q : B) : rdL flex (p ++ q) = some (l, r ++ q) := by
  unfold rdL at *
  obtain ⟨⟨m, r'⟩, hc, h⟩ := Option.bind_eq_some_iff.1 h
  simp only at h
  split at h
  · cases h
  · rename_i h1
    simp at h
    obtain ⟨rfl, rfl⟩ := h
    have h2 : ¬ (((r' ++ q).length : Int) < m) := by simp; omega
    cases flex with
    | true =>
      simp only [if_true] at *
      obtain ⟨⟨n, r0⟩, hv, hh⟩ := Option.map_eq_some_iff.1 hc
      simp at hh
      obtain ⟨rfl, rfl⟩ := hh
      rw [rdV_ext hv q]
      simp only [Option.map_some, Option.bind_some]
      rw [if_neg h2]
    | false =>
      simp only [Bool.false_eq_true, if_false] at *
      rw [rdI_ext hc q]
      simp only [Option.bind_some]
      rw [if_neg h2]
theorem rdL_ok {flex : Bool} {p r : B} {l : Int} (h : rdL flex p = some (l, r)) : inI 4 l ∧ l ≤ r.length := by
  unfold rdL at h
  obtain ⟨⟨m, r'⟩, hc, h⟩ := Option.bind_eq_some_iff.1 h
  simp only at h
  split at h
  · cases h
  · rename_i h1
    simp at h
    obtain ⟨rfl, rfl⟩ := h
    refine ⟨?_, by omega⟩
    cases flex with
    | true =>
      simp only [if_true] at hc
      obtain ⟨⟨n, r0⟩, hv, hh⟩ := Option.map_eq_some_iff.1 hc
      simp at hh
      obtain ⟨rfl, rfl⟩ := hh
      generalize hx : (sgn 4 n - 1) % 4294967296 = x
      have : 0 ≤ x ∧ x < 4294967296 := by omega
      unfold inI sgn
      simp
      split <;> omega
    | false =>
      simp only [Bool.false_eq_true, if_false] at hc
      exact rdI_in (.inr (.inr (.inl rfl))) hc
theorem put_last : ∀ (ts : List (Nat × B)) (m k : Nat) (v : B), okT m ts → (∀ x ∈ ts, x.1 < k) → put k v ts = ts ++ [(k, v)]
  | [], _, _, _, _, _ => rfl
  | (k', v') :: r, m, k, v, h, hk => by
    have h1 : k' < k := hk (k', v') (by simp)
    have h2 : okT (k' + 1) r := h.2.2.2
    rw [put, if_neg (by omega), if_neg (by omega), put_last r (k' + 1) k v h2 (fun x hx => hk x (by simp [hx]))]
    rfl
theorem okT_app : ∀ (ts : List (Nat × B)) (m k : Nat) (v : B) (r : List (Nat × B)), okT m (ts ++ (k, v) :: r) → okT m (ts ++ [(k, v)]) ∧ (∀ x ∈ ts, x.1 < k) ∧ k < 2 ^ 32 ∧ v.length < 2 ^ 32 ∧ m ≤ k
  | [], m, k, v, r, h => by
    simp only [List.nil_append, okT] at *
    exact ⟨⟨h.1, h.2.1, h.2.2.1, trivial⟩, fun x hx => by simp at hx, h.2.1, h.2.2.1, h.1⟩
  | (k', v') :: ts, m, k, v, r, h => by
    simp only [List.cons_append, okT] at *
    obtain ⟨a, b, c, d, e⟩ := okT_app ts (k' + 1) k v r h.2.2.2
    refine ⟨⟨h.1, h.2.1, h.2.2.1, a⟩, fun x hx => ?_, c, d, by omega⟩
    rcases List.mem_cons.1 hx with rfl | hx
    · simp; omega
    · exact b x hx
theorem okT_left : ∀ (ts us : List (Nat × B)) (m : Nat), okT m (ts ++ us) → okT m ts
  | [], _, _, _ => trivial
  | (k', v') :: ts, us, m, h => by
    simp only [List.cons_append, okT] at *
    exact ⟨h.1, h.2.1, h.2.2.1, okT_left ts us _ h.2.2.2⟩
theorem decT_encT : ∀ (us ts : List (Nat × B)) (r : B), okT 0 (ts ++ us) → decT us.length ts (encT us ++ r) = some (ts ++ us, r)
  | [], ts, r, _ => by simp [decT, encT]
  | (k, v) :: us, ts, r, h => by
    obtain ⟨h1, h2, h3, h4, _⟩ := okT_app ts 0 k v us h
    have e : encT ((k, v) :: us) ++ r = uv k ++ (uv v.length ++ (v ++ (encT us ++ r))) := by simp [encT]
    simp only [List.length_cons, decT]
    rw [e, rdV_uv h3]
    simp only [Option.bind_some]
    rw [rdV_uv h4]
    simp only [Option.bind_some]
    rw [cut_app rfl]
    simp only [Option.bind_some]
    rw [put_last ts 0 k v (okT_left ts _ 0 h) h2]
    have := decT_encT us (ts ++ [(k, v)]) r (by simpa using h)
    simpa using this
theorem decT_ext : ∀ (n : Nat) {ts us : List (Nat × B)} {p r : B}, decT n ts p = some (us, r) → ∀ q, decT n ts (p ++ q) = some (us, r ++ q)
  | 0, ts, us, p, r, h, q => by
    simp [decT] at *
    obtain ⟨rfl, rfl⟩ := h
    exact ⟨rfl, rfl⟩
  | n + 1, ts, us, p, r, h, q => by
    simp only [decT] at *
    obtain ⟨⟨k, r1⟩, h1, h⟩ := Option.bind_eq_some_iff.1 h
    obtain ⟨⟨l, r2⟩, h2, h⟩ := Option.bind_eq_some_iff.1 h
    obtain ⟨⟨x, r3⟩, h3, h⟩ := Option.bind_eq_some_iff.1 h
    rw [rdV_ext h1 q]
    simp only [Option.bind_some]
    rw [rdV_ext h2 q]
    simp only [Option.bind_some]
    rw [cut_ext h3 q]
    exact decT_ext n h q
theorem okT_put : ∀ (ts : List (Nat × B)) (m k : Nat) (v : B), okT m ts → m ≤ k → k < 2 ^ 32 → v.length < 2 ^ 32 → okT m (put k v ts)
  | [], m, k, v, _, h1, h2, h3 => ⟨h1, h2, h3, trivial⟩
  | (k', v') :: r, m, k, v, h, h1, h2, h3 => by
    obtain ⟨a, b, c, d⟩ := h
    unfold put
    split
    · exact ⟨h1, h2, h3, by omega, b, c, d⟩
    · split
      · rename_i e
        subst e
        exact ⟨h1, h2, h3, d⟩
      · exact ⟨a, b, c, okT_put r _ k v d (by omega) h2 h3⟩
theorem put_len : ∀ (ts : List (Nat × B)) (k : Nat) (v : B), (put k v ts).length ≤ ts.length + 1
  | [], _, _ => by simp [put]
  | (k', v') :: r, k, v => by
    unfold put
    split
    · simp
    · split
      · simp
      · have := put_len r k v
        simp; omega
theorem many_enc {d : B → Option (V × B)} {e : V → B} : ∀ (vs : List V) (r : B), (∀ v ∈ vs, ∀ r, d (e v ++ r) = some (v, r)) → many d vs.length (vs.flatMap e ++ r) = some (vs, r)
  | [], r, _ => by simp [many]
  | v :: vs, r, h => by
    simp only [List.length_cons, many, List.flatMap_cons, List.append_assoc]
    rw [h v (by simp)]
    simp only [Option.bind_some]
    rw [many_enc vs r (fun x hx => h x (by simp [hx]))]
    rfl
theorem many_ext {d : B → Option (V × B)} (hd : ∀ {p r : B} {v : V}, d p = some (v, r) → ∀ q, d (p ++ q) = some (v, r ++ q)) : ∀ (n : Nat) {vs : List V} {p r : B}, many d n p = some (vs, r) → ∀ q, many d n (p ++ q) = some (vs, r ++ q)
  | 0, vs, p, r, h, q => by
    simp [many] at *
    obtain ⟨rfl, rfl⟩ := h
    exact ⟨rfl, rfl⟩
  | n + 1, vs, p, r, h, q => by
    simp only [many] at *
    obtain ⟨⟨v, r1⟩, h1, h⟩ := Option.bind_eq_some_iff.1 h
    obtain ⟨⟨ws, r2⟩, h2, hh⟩ := Option.map_eq_some_iff.1 h
    simp at hh
    obtain ⟨rfl, rfl⟩ := hh
    rw [hd h1 q]
    simp only [Option.bind_some]
    rw [many_ext hd n h2 q]
    rfl
theorem many_ok {d : B → Option (V × B)} : ∀ (n : Nat) {vs : List V} {p r : B}, many d n p = some (vs, r) → vs.length = n ∧ ∀ v ∈ vs, ∃ p r, d p = some (v, r)
  | 0, vs, p, r, h => by
    simp [many] at h
    obtain ⟨rfl, rfl⟩ := h
    exact ⟨rfl, fun v hv => by simp at hv⟩
  | n + 1, vs, p, r, h => by
    simp only [many] at h
    obtain ⟨⟨v, r1⟩, h1, h⟩ := Option.bind_eq_some_iff.1 h
    obtain ⟨⟨ws, r2⟩, h2, hh⟩ := Option.map_eq_some_iff.1 h
    simp at hh
    obtain ⟨rfl, rfl⟩ := hh
    have := many_ok n h2
    refine ⟨by simp [this.1], fun x hx => ?_⟩
    rcases List.mem_cons.1 hx with rfl | hx
    · exact ⟨_, _, h1⟩
    · exact this.2 x hx
theorem encK_pos {flex : Bool} {k : K} {null : Bool} {v : V} (h : okK flex k null v) : 1 ≤ (encK flex k v).length := by
  have h1 : ∀ {s n : Nat}, 0 < s → 1 ≤ (cnt flex s n).length := by
    intro s n hs
    unfold cnt
    split
    · exact uv_pos _
    · rw [be_length]; exact hs
  have h2 : ∀ {s : Nat}, 0 < s → 1 ≤ (cnt0 flex s).length := by
    intro s hs
    unfold cnt0
    split
    · simp
    · rw [be_length]; exact hs
  cases k <;> cases v <;> simp only [okK] at h <;> try (exact absurd h id)
  all_goals simp only [encK, List.length_append, be_length, K.size]
  all_goals first
    | exact Nat.le_trans (h1 (by omega)) (Nat.le_add_right _ _)
    | (exact h2 (by omega))
    | omega
    | simp
theorem ok_tags {flex : Bool} {o : Nat} {f : F} {v : V} (h : ok flex (.tags o f) v) : ∃ ts w, v = .c (.t ts) w ∧ okT 0 ts ∧ ts.length < 2 ^ 32 ∧ ok flex f w := by
  cases v with
  | c x w =>
    cases x with
    | t ts => exact ⟨ts, w, rfl, h⟩
    | _ => exact absurd h id
  | _ => exact absurd h id
theorem enc_pos {flex : Bool} : ∀ {f : F} {v : V}, ok flex f v → f ≠ .nil → 1 ≤ (enc flex f v).length
  | .nil, _, _, h => absurd rfl h
  | .leaf o k n r, v, h, _ => by
    cases v <;> simp only [ok] at h <;> try (exact absurd h id)
    have := encK_pos h.1
    simp only [enc, List.length_append]; omega
  | .list o sz n e r, v, h, _ => by
    cases v <;> simp only [ok] at h <;> try (exact absurd h id)
    rename_i v w
    have h1 : ∀ m, 1 ≤ (cnt flex 4 m).length := by
      intro m; unfold cnt; split
      · exact uv_pos _
      · rw [be_length]; omega
    have h2 : 1 ≤ (cnt0 flex 4).length := by
      unfold cnt0; split
      · simp
      · rw [be_length]; omega
    simp only [enc, List.length_append]
    cases v with
    | l vs =>
      have := h1 vs.length
      simp only [List.length_append]; omega
    | _ => simp only; omega
  | .tags o r, v, h, _ => by
    obtain ⟨ts, w, rfl, _⟩ := ok_tags h
    have := uv_pos ts.length
    simp only [enc, List.length_append]; omega
theorem dec_enc {flex : Bool} : ∀ {f : F} {v : V}, f.good = true → ok flex f v → ∀ r, dec flex f (enc flex f v ++ r) = some (v, r)
  | .nil, v, _, h, r => by
    cases v <;> simp only [ok] at h <;> try (exact absurd h id)
    rfl
  | .leaf o k n f, v, hg, h, r => by
    cases v <;> simp only [ok] at h <;> try (exact absurd h id)
    rename_i v w
    simp only [F.good] at hg
    simp only [dec, enc, List.append_assoc]
    rw [decK_encK h.1]
    simp only [Option.bind_some]
    rw [dec_enc hg h.2]
    rfl
  | .list o sz n e f, v, hg, h, r => by
    cases v <;> simp only [ok] at h <;> try (exact absurd h id)
    rename_i v w
    simp only [F.good, Bool.and_eq_true, bne_iff_ne, ne_eq] at hg
    simp only [dec, enc, List.append_assoc]
    cases v <;> simp only at h <;> try (exact absurd h.1 id)
    · simp only
      rw [rdL_null]
      simp only [Option.bind_some]
      rw [if_pos (by simp [h.1])]
      simp only [Option.bind_some]
      rw [dec_enc hg.2 h.2]
      rfl
    · rename_i vs
      obtain ⟨⟨h1, h2⟩, h3⟩ := h
      have hlen : vs.length ≤ (vs.flatMap (enc flex e)).length := by
        clear h1 h3
        induction vs with
        | nil => simp
        | cons x vs ih =>
          have a := enc_pos (h2 x (by simp)) hg.1.1
          have b := ih (fun y hy => h2 y (by simp [hy]))
          simp only [List.flatMap_cons, List.length_append, List.length_cons]
          omega
      simp only [List.append_assoc]
      rw [rdL_cnt h1 (by simp only [List.length_append]; omega)]
      simp only [Option.bind_some]
      rw [if_neg (by simp)]
      rw [Int.toNat_natCast, many_enc vs _ (fun x hx r => dec_enc hg.1.2 (h2 x hx) r)]
      simp only [Option.map_some, Option.bind_some]
      rw [dec_enc hg.2 h3]
      rfl
  | .tags o f, v, hg, h, r => by
    obtain ⟨ts, w, rfl, h⟩ := ok_tags h
    simp only [F.good] at hg
    simp only [dec, enc, List.append_assoc]
    rw [rdV_uv h.2.1]
    simp only [Option.bind_some]
    have := decT_encT ts [] (enc flex f w ++ r) (by simpa using h.1)
    rw [this]
    simp only [Option.bind_some, List.nil_append]
    rw [dec_enc hg h.2.2]
    rfl
theorem dec_ext {flex : Bool} : ∀ {f : F} {v : V} {p r : B}, dec flex f p = some (v, r) → ∀ q, dec flex f (p ++ q) = some (v, r ++ q)
  | .nil, v, p, r, h, q => by
    simp [dec] at *
    obtain ⟨rfl, rfl⟩ := h
    exact ⟨rfl, rfl⟩
  | .leaf o k n f, v, p, r, h, q => by
    simp only [dec] at *
    obtain ⟨⟨x, r1⟩, h1, h⟩ := Option.bind_eq_some_iff.1 h
    obtain ⟨⟨y, r2⟩, h2, hh⟩ := Option.map_eq_some_iff.1 h
    simp at hh
    obtain ⟨rfl, rfl⟩ := hh
    rw [decK_ext h1 q]
    simp only [Option.bind_some]
    rw [dec_ext h2 q]
    rfl
  | .list o sz n e f, v, p, r, h, q => by
    simp only [dec] at *
    obtain ⟨⟨l, r1⟩, h1, h⟩ := Option.bind_eq_some_iff.1 h
    obtain ⟨⟨x, r2⟩, h2, h⟩ := Option.bind_eq_some_iff.1 h
    obtain ⟨⟨y, r3⟩, h3, hh⟩ := Option.map_eq_some_iff.1 h
    simp at hh
    obtain ⟨rfl, rfl⟩ := hh
    rw [rdL_ext h1 q]
    simp only [Option.bind_some]
    simp only at h2
    split at h2
    · rename_i hc
      simp at h2
      obtain ⟨rfl, rfl⟩ := h2
      rw [if_pos hc]
      simp only [Option.bind_some]
      rw [dec_ext h3 q]
      rfl
    · rename_i hc
      obtain ⟨⟨vs, r4⟩, h4, hh⟩ := Option.map_eq_some_iff.1 h2
      simp at hh
      obtain ⟨rfl, rfl⟩ := hh
      rw [if_neg hc, many_ext (by intro p r v h q; exact dec_ext h q) _ h4 q]
      simp only [Option.map_some, Option.bind_some]
      rw [dec_ext h3 q]
      rfl
  | .tags o f, v, p, r, h, q => by
    simp only [dec] at *
    obtain ⟨⟨n, r1⟩, h1, h⟩ := Option.bind_eq_some_iff.1 h
    obtain ⟨⟨ts, r2⟩, h2, h⟩ := Option.bind_eq_some_iff.1 h
    obtain ⟨⟨y, r3⟩, h3, hh⟩ := Option.map_eq_some_iff.1 h
    simp at hh
    obtain ⟨rfl, rfl⟩ := hh
    rw [rdV_ext h1 q]
    simp only [Option.bind_some]
    rw [decT_ext n h2 q]
    simp only [Option.bind_some]
    rw [dec_ext h3 q]
    rfl
theorem dec_cut {flex : Bool} {f : F} {v : V} (hg : f.good = true) (h : ok flex f v) {p q : B} (hpq : enc flex f v = p ++ q) (hq : q ≠ []) : dec flex f p = none := by
  cases hd : dec flex f p with
  | none => rfl
  | some x =>
    obtain ⟨v', r⟩ := x
    have h1 := dec_ext hd q
    have h2 := dec_enc hg h []
    rw [List.append_nil, hpq, h1] at h2
    simp at h2
    exact absurd h2.2.2 hq
end Go.Proofs.Ytdoaobkfbjegpaa.Wire

namespace Go.Proofs.Ytdoaobkfbjegpaa.Ax
open Go Go.Proofs.Ytdoaobkfbjegpaa.Wire
def U8 (b : UInt8) : AV := .i .u8 (b.toNat : Int)
def u8s (bs : B) : List AV := bs.map U8
def bst (bs : B) : ByteArray := ⟨bs.toArray⟩
structure Bty (P : Program) (tB tU : TypeId) : Prop where
  elem : elemA P tB = some tU
  size : sizeA P tU = some 1
  bytes : bytesA P tU = some 1
  zero : zeroA P tU = some (.i .u8 0)
  agg : aggA P tU = some false
  u8 : P.underlying tU = some (.int .u8)
inductive BytesAt (A : Nat → Prop) (H : Heap) : AV → B → Prop
  | z : BytesAt A H .s0 []
  | e : BytesAt A H .se []
  | s {i o : Nat} {ty : TypeId} {kn : Kn} {cs : List AV} {bs : B} (hA : A i) (h : H[i]? = some (.cells ty kn cs)) (h0 : 0 < bs.length) (h1 : (cs.drop o).take bs.length = u8s bs) : BytesAt A H (.sl i o bs.length) bs
def Keep (A : Nat → Prop) (H H' : Heap) : Prop := H.length ≤ H'.length ∧ ∀ i b, A i → H[i]? = some b → H'[i]? = some b
theorem Keep.refl (A : Nat → Prop) (H : Heap) : Keep A H H := ⟨Nat.le_refl _, fun _ _ _ h => h⟩
theorem Keep.trans {A : Nat → Prop} {H H' H'' : Heap} (h : Keep A H H') (k : Keep A H' H'') : Keep A H H'' := ⟨Nat.le_trans h.1 k.1, fun i b a x => k.2 i b a (h.2 i b a x)⟩
theorem Keep.sub {A A' : Nat → Prop} (s : ∀ i, A' i → A i) {H H' : Heap} (h : Keep A H H') : Keep A' H H' := ⟨h.1, fun i b a x => h.2 i b (s i a) x⟩
theorem Keep.set {A : Nat → Prop} {H : Heap} {i : Nat} (hi : ¬ A i) (b : Blk) : Keep A H (H.set i b) := ⟨by simp, fun j c a x => by
  rw [List.getElem?_set]
  by_cases e : i = j
  · subst e; exact absurd a hi
  · rw [if_neg e]; exact x⟩
theorem Keep.app (A : Nat → Prop) (H K : Heap) : Keep A H (H ++ K) := ⟨by simp, fun i b _ x => by rw [List.getElem?_append_left (List.getElem?_eq_some_iff.1 x).1]; exact x⟩
section
variable {P : Program} {tB tU : TypeId} {A : Nat → Prop} {H H' : Heap} {av : AV} {bs : B}
theorem u8s_length (bs : B) : (u8s bs).length = bs.length := by simp [u8s]
theorem u8s_one (bs : B) : (u8s bs).all AV.one = true := by
  rw [List.all_eq_true]
  intro x hx
  obtain ⟨b, _, rfl⟩ := List.mem_map.1 hx
  rfl
theorem BytesAt.keep (h : BytesAt A H av bs) (k : Keep A H H') : BytesAt A H' av bs := by
  cases h with
  | z => exact .z
  | e => exact .e
  | s hA h h0 h1 => exact .s hA (k.2 _ _ hA h) h0 h1
theorem BytesAt.sub {A' : Nat → Prop} (s : ∀ i, A i → A' i) (h : BytesAt A H av bs) : BytesAt A' H av bs := by
  cases h with
  | z => exact .z
  | e => exact .e
  | s hA h h0 h1 => exact .s (s _ hA) h h0 h1
theorem cells_fit {cs : List AV} {o n : Nat} {bs : B} (h : (cs.drop o).take n = u8s bs) (hn : n = bs.length) (h0 : 0 < bs.length) : o + n ≤ cs.length := by
  have := congrArg List.length h
  rw [u8s_length, List.length_take, List.length_drop] at this
  omega
theorem elem_slice {t e : TypeId} (h : elemA P t = some e) : P.underlying t = some (.slice e) := run_elemA h
theorem BytesAt.len (T : Bty P tB tU) (h : BytesAt A H av bs) : lenA P tB av = some (.i .i64 bs.length) := by
  have hu := elem_slice T.elem
  unfold lenA
  cases h <;> simp [hu]
theorem BytesAt.lo (T : Bty P tB tU) (h : BytesAt A H av bs) (kd : IntKind) {n : Nat} (hn : n ≤ bs.length) :
    ∃ av', sliceA P tB av (some (.i kd n)) none = some av' ∧ BytesAt A H av' (bs.drop n) ∧ ((0 < n ∨ av ≠ .s0) → av' ≠ .s0) := by
  unfold sliceA
  simp only [T.elem, T.size]
  cases h with
  | z =>
    obtain rfl : n = 0 := by simpa using hn
    exact ⟨.s0, by simp, by simpa using BytesAt.z, fun h => by rcases h with h | h <;> simp at h⟩
  | e =>
    obtain rfl : n = 0 := by simpa using hn
    exact ⟨.se, by simp, by simpa using BytesAt.e, fun _ => by simp⟩
  | @s i o ty kn cs bs hA h h0 h1 =>
    simp only
    rw [if_pos ⟨by omega, by omega, by omega⟩]
    by_cases e0 : n = 0
    · subst e0
      refine ⟨.sl i o bs.length, by simp, ?_, fun _ => by simp⟩
      simpa using BytesAt.s hA h h0 h1
    · rw [if_neg (by omega)]
      by_cases e1 : n = bs.length
      · rw [if_pos (by omega)]
        refine ⟨.se, rfl, ?_, fun _ => by simp⟩
        rw [e1, List.drop_length]; exact .e
      · rw [if_neg (by omega)]
        have hl : (bs.drop n).length = bs.length - n := by simp
        refine ⟨.sl i (o + n) (bs.drop n).length, by simp, .s hA h (by rw [hl]; omega) ?_, fun _ => by simp⟩
        rw [hl, ← List.drop_drop, ← List.drop_take, h1]
        simp [u8s]
theorem BytesAt.max (T : Bty P tB tU) (h : BytesAt A H av bs) (kd kd2 : IntKind) {n : Nat} (hn : n ≤ bs.length) :
    ∃ av', sliceMaxA P tB av (.i kd n) (.i kd2 n) = some av' ∧ BytesAt A H av' (bs.take n) ∧ (av ≠ .s0 → av' ≠ .s0) := by
  unfold sliceMaxA
  simp only [T.elem, T.size, if_true]
  cases h with
  | z =>
    obtain rfl : n = 0 := by simpa using hn
    exact ⟨.s0, by simp, by simpa using BytesAt.z, fun h => h⟩
  | e =>
    obtain rfl : n = 0 := by simpa using hn
    exact ⟨.se, by simp, by simpa using BytesAt.e, fun h => h⟩
  | @s i o ty kn cs bs hA h h0 h1 =>
    simp only
    rw [if_pos ⟨by omega, by omega⟩]
    by_cases e0 : n = 0
    · subst e0
      exact ⟨.se, by simp, by simpa using BytesAt.e, fun _ => by simp⟩
    · rw [if_neg (by omega)]
      have hl : (bs.take n).length = n := by simp; omega
      refine ⟨.sl i o (bs.take n).length, by rw [hl]; simp, .s hA h (by omega) ?_, fun _ => by simp⟩
      rw [hl]
      have : (cs.drop o).take n = ((cs.drop o).take bs.length).take n := by rw [List.take_take]; congr 1; omega
      rw [this, h1]
      simp [u8s, List.map_take]
theorem BytesAt.idx (T : Bty P tB tU) (h : BytesAt A H av bs) (kd : IntKind) {n : Nat} {b : UInt8} (hn : bs[n]? = some b) :
    ∃ p, indexAddrA P tB av (.i kd n) = some p ∧ loadA P H tU p = some (U8 b) := by
  have hlt := (List.getElem?_eq_some_iff.1 hn).1
  cases h with
  | z => simp at hn
  | e => simp at hn
  | @s i o ty kn cs bs hA h h0 h1 =>
    refine ⟨.p i (o + n), ?_, ?_⟩
    · simp only [indexAddrA, T.elem, T.size]
      rw [if_pos ⟨by omega, by omega⟩]
      simp
    · simp only [loadA, loadAt, h, T.agg]
      have : ((cs.drop o).take bs.length)[n]? = (u8s bs)[n]? := by rw [h1]
      rw [List.getElem?_take, if_pos hlt, List.getElem?_drop] at this
      rw [this]
      simp [u8s, hn]
theorem bytesOf_u8s : ∀ (bs : B), bytesOf (u8s bs) = some bs
  | [] => rfl
  | b :: r => by
    have := bytesOf_u8s r
    simp only [u8s, List.map_cons, U8, bytesOf] at *
    rw [this]
    simp
theorem BytesAt.str (h : BytesAt A H av bs) : strOf H av = some (bst bs) := by
  cases h with
  | z => rfl
  | e => rfl
  | @s i o ty kn cs bs hA h h0 h1 =>
    simp only [strOf, h]
    rw [if_pos (cells_fit h1 rfl h0), h1, bytesOf_u8s]
    rfl
theorem BytesAt.first (h : BytesAt A H av bs) : firstA H 1 av = some (bs.length, u8s bs) := by
  cases h with
  | z => rfl
  | e => rfl
  | @s i o ty kn cs bs hA h h0 h1 =>
    simp only [firstA, h, Nat.mul_one]
    rw [if_pos ⟨cells_fit h1 rfl h0, by rw [h1]; exact u8s_one _⟩, h1]
end
def RdAt (A : Nat → Prop) (tR : TypeId) (H : Heap) (rb : Nat) (nn : Bool) : Option B → Prop
  | some bs => ∃ src, H[rb]? = some (.cells tR .vr [src, .b false]) ∧ BytesAt A H src bs ∧ (nn = true → src ≠ .s0)
  | none => H[rb]? = some (.cells tR .vr [.s0, .b true])
def Got {α : Type} (st : Option B) (d : B → Option (α × B)) (st' : Option B) (R : α → Prop) : Prop :=
  match st with
  | none => st' = none
  | some bs => match d bs with
    | none => st' = none
    | some (v, r) => st' = some r ∧ R v
def K.ik : K → IntKind
  | .i8 => .i8
  | .i16 => .i16
  | .i32 => .i32
  | .i64 => .i64
  | .u16 => .u16
  | _ => .u8
def RepK (A : Nat → Prop) (H : Heap) (k : K) (null : Bool) (av : AV) (v : V) : Prop :=
  match k, v with
  | .bool, .b x => av = .b x
  | .f64, .i n => av = .f .f64 n.toNat
  | .uuid, .s bs => av = .g (u8s bs)
  | .str, .s bs => if null then ∃ i ty, A i ∧ av = .p i 0 ∧ H[i]? = some (.cells ty .vr [.s (bst bs)]) else av = .s (bst bs)
  | .str, .nul => av = .p0
  | .pstr, .s bs => ∃ i ty, A i ∧ av = .p i 0 ∧ H[i]? = some (.cells ty .vr [.s (bst bs)])
  | .bytes, .s bs => BytesAt A H av bs ∧ (null = true → av ≠ .s0)
  | .bytes, .nul => av = .s0
  | .i8, .i n | .i16, .i n | .i32, .i n | .i64, .i n | .u16, .i n => av = .i (K.ik k) n
  | _, _ => False
def RepF (A : Nat → Prop) (H : Heap) : F → V → List AV → Prop
  | .nil, _, _ => True
  | .leaf o k n r, .c v w, cs => (∃ av, RepK A H k n av v ∧ o + k.wide ≤ cs.length ∧ (cs.drop o).take k.wide = av.cells) ∧ RepF A H r w cs
  | .list o sz n e r, .c v w, cs => (match v with
    | .l vs => (vs = [] ∧ (n = false ∧ cs[o]? = some .s0 ∨ cs[o]? = some .se)) ∨
      ∃ i ty bl, 0 < vs.length ∧ A i ∧ cs[o]? = some (.sl i 0 vs.length) ∧ H[i]? = some (.cells ty .row bl) ∧ bl.length = vs.length * sz ∧ ∀ j x, vs[j]? = some x → RepF A H e x ((bl.drop (j * sz)).take sz)
    | .nul => cs[o]? = some .s0
    | _ => False) ∧ RepF A H r w cs
  | .tags _ _, _, _ => False
  | _, _, _ => False
end Go.Proofs.Ytdoaobkfbjegpaa.Ax

