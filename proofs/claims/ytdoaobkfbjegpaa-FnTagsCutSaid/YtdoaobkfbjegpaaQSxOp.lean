/-
  THE CHECKER: its operations are sound.
-/
import Derived.Test.YtdoaobkfbjegpaaQSxDef
set_option linter.constructorNameAsVariable false
set_option linter.unusedVariables false
set_option linter.unusedSimpArgs false
namespace Go.Proofs.Ytdoaobkfbjegpaa.Rd
open Go Go.Proofs.Ytdoaobkfbjegpaa.Ax Go.Proofs.Ytdoaobkfbjegpaa.Wire
set_option maxRecDepth 100000
theorem gtr (t : TypeId) (k : IntKind) (c : Bool) (a b : Int) : binA P .gtr t c (.i k a) (.i k b) = some (.b (decide (b < a))) := by
  simp [binA, binOp, Op.intCmp, ofSem, ofV1]
  rfl
theorem geqA (t : TypeId) (k : IntKind) (c : Bool) (a b : Int) : binA P .geq t c (.i k a) (.i k b) = some (.b (decide (b ≤ a))) := by
  simp [binA, binOp, Op.intCmp, ofSem, ofV1]
  rfl
theorem neqA (t : TypeId) (k : IntKind) (c : Bool) (a b : Int) : binA P .neq t c (.i k a) (.i k b) = some (.b (a != b)) := by
  simp [binA, binOp, Op.intCmp, ofSem, ofV1]
  rfl
theorem add (t : TypeId) (k : IntKind) (c : Bool) (a b : Int) : binA P .add t c (.i k a) (.i k b) = some (.i k (k.wrap (a + b))) := by
  simp [binA, binOp, Op.intArith, ofSem, ofV1]
  rfl
variable {η : Env}
theorem den_ofA (a : AV) : den η (ofA a) a := by
  cases a <;> simp only [ofA] <;> try (simp [den]; done)
  all_goals first | rfl | skip
  · split <;> first | trivial | (rename_i h; cases h; done) | (rename_i h; cases h; rfl) | skip
  rename_i x
  split
  · rename_i h
    show AV.s x = AV.s ⟨#[]⟩
    have : x = ⟨#[]⟩ := by
      cases x with
      | mk d =>
        have : d.size = 0 := h
        rw [Array.size_eq_zero_iff] at this
        rw [this]
    rw [this]
  · trivial
theorem con_den {v : SV} {a b : AV} (h : v.con = some a) (d : den η v b) : b = a := by
  cases v <;> simp [SV.con] at h <;> subst h <;> exact d
theorem con_one {v : SV} {a : AV} (h : v.con = some a) : a.one = true ∧ a.cells = [a] := by
  cases v <;> simp [SV.con] at h <;> subst h
  · exact ⟨rfl, rfl⟩
  · exact ⟨rfl, rfl⟩
  · rename_i c; cases c <;> exact ⟨rfl, rfl⟩
theorem FR.at_ {sf : SF} {fr : List AV} (h : FR η sf fr) {t : Nat} {v : SV} (hv : sf[t]? = some v) : ∃ a, fr[t]? = some a ∧ den η v a := by
  have ht : t < fr.length := by have := (List.getElem?_eq_some_iff.1 hv).1; have := h.1; omega
  exact ⟨fr[t], by simp [ht], h.2 t v _ hv (by simp [ht])⟩
theorem evS_sound {sf : SF} {fr : List AV} (h : FR η sf fr) {x : Operand} {v : SV} (hv : evS sf x = some v) : ∃ a, ev fr x = some a ∧ den η v a := by
  cases x with
  | tmp t =>
    obtain ⟨a, h1, h2⟩ := FR.at_ h (t := t) hv
    exact ⟨a, h1, h2⟩
  | const y =>
    simp only [evS, Option.map_eq_some_iff] at hv
    obtain ⟨a, ha, rfl⟩ := hv
    exact ⟨a, ha, den_ofA a⟩
  | _ => simp [evS] at hv
theorem binS_sound {op : BinOp} {t : TypeId} {c : Bool} {x y v : SV} {a b : AV} (h : binS op t c x y = some v) (dx : den η x a) (dy : den η y b) : ∃ r, binA P op t c a b = some r ∧ den η v r := by
  unfold binS at h
  split at h
  · rename_i a' b' ha hb
    rw [con_den ha dx, con_den hb dy]
    simp only [Option.map_eq_some_iff] at h
    obtain ⟨r, hr, rfl⟩ := h
    exact ⟨r, hr, den_ofA r⟩
  · split at h
    · rename_i l l' _
      split at h
      · rename_i e; subst e
        simp at h; subst h
        obtain ⟨e, n, h1, h2, rfl, h3, h4⟩ := dx
        obtain ⟨n', h5, rfl, h6⟩ := dy
        rw [h2] at h5; cases h5
        exact ⟨_, lss _ _ _ _ _, by simp [den]; omega⟩
      · cases h
    · rename_i l l' _
      split at h
      · rename_i e; subst e
        simp at h; subst h
        obtain ⟨n, h1, rfl⟩ := dx
        obtain ⟨n', h5, rfl, h6⟩ := dy
        rw [h1] at h5; cases h5
        exact ⟨_, lss _ _ _ _ _, by simp [den]⟩
      · cases h
    · simp at h; subst h
      obtain rfl := dx
      obtain ⟨n, rfl, hn⟩ := dy
      exact ⟨_, lss _ _ _ _ _, by simp [den]; omega⟩
    · simp at h; subst h
      obtain rfl := dy
      obtain ⟨n, rfl, hn⟩ := dx
      exact ⟨_, gtr _ _ _ _ _, by simp [den]; omega⟩
    · simp at h; subst h
      obtain rfl := dy
      obtain ⟨n, h1, rfl, hn, _⟩ := dx
      exact ⟨_, gtr _ _ _ _ _, by simp [den]; omega⟩
    · simp at h; subst h
      obtain rfl := dy
      obtain ⟨n, rfl, hn⟩ := dx
      exact ⟨_, eql _ _ _ _ _, by simp [den]; omega⟩
    · simp at h; subst h
      obtain rfl := dy
      obtain ⟨n, h1, rfl, hn, _⟩ := dx
      exact ⟨_, eql _ _ _ _ _, by simp [den]; omega⟩
    · simp at h; subst h
      obtain rfl := dy
      obtain ⟨e, n, h1, h2, rfl, h3, h4⟩ := dx
      refine ⟨_, add _ _ _ _ _, e, h1, ?_⟩
      simp [IntKind.wrap, IntKind.signed, IntKind.bits]; omega
    · obtain rfl := dy
      obtain ⟨x, rfl, hx⟩ := dx
      split at h
      · rename_i hc
        obtain ⟨rfl, rfl⟩ := hc
        simp at h; subst h
        exact ⟨_, neqA _ _ _ _ _, by simp [den]; exact hx⟩
      · cases h
    · obtain rfl := dy
      obtain ⟨k, k1, rfl, k2, k3⟩ := dx
      split at h
      · simp at h; subst h
        exact ⟨_, geqA _ _ _ _ _, by simp [den]; omega⟩
      · split at h
        · simp at h; subst h
          exact ⟨_, geqA _ _ _ _ _, by simp [den]; omega⟩
        · cases h
    · cases h
theorem fieldAddr_shift {t : TypeId} {k o i o' : Nat} (h : fieldAddrA P t (.p 0 o) k = some (.p i o')) (b w : Nat) : fieldAddrA P t (.p b (w + o)) k = some (.p b (w + o')) := by
  unfold fieldAddrA at *
  cases hu : P.underlying t with
  | none => simp [hu] at h
  | some d =>
    cases d with
    | struct fields =>
      simp only [hu] at h ⊢
      cases hf : fields[k]? with
      | none => simp [hf] at h
      | some f =>
        simp only [hf] at h ⊢
        cases hs : sizeA P f.type with
        | none => simp [hs] at h
        | some n =>
          cases n with
          | zero => simp [hs] at h
          | succ n =>
            simp only [hs] at h ⊢
            simp at h
            rw [← h.2, Nat.add_assoc]
    | _ => simp [hu] at h
theorem pureS_sound {s : SS} {fr : List AV} {H : Heap} (hf : FR η s.fr fr) (hw : WR η s.win H) {o : Op} {v : SV} (h : pureS o s = some v) : isCall o = false ∧ ∃ a, opA P o fr H = some (a, H) ∧ den η v a := by
  unfold pureS at h
  split at h
  · obtain ⟨a, h1, h2⟩ := evS_sound hf h
    exact ⟨rfl, a, op_move h1, h2⟩
  · obtain ⟨a, h1, h2⟩ := evS_sound hf h
    exact ⟨rfl, a, op_assign h1, h2⟩
  · split at h
    · rename_i hc
      obtain ⟨c, h1, rfl⟩ := evS_sound hf hc
      obtain ⟨a, h3, h4⟩ := evS_sound hf h
      exact ⟨rfl, a, op_pickT h1 h3, h4⟩
    · rename_i hc
      obtain ⟨c, h1, rfl⟩ := evS_sound hf hc
      obtain ⟨a, h3, h4⟩ := evS_sound hf h
      exact ⟨rfl, a, op_pickF h1 h3, h4⟩
    · cases h
  · split at h
    · rename_i l o hx
      simp at h; subst h
      obtain ⟨a, h1, e, h2, rfl⟩ := evS_sound hf hx
      exact ⟨rfl, _, op_nilCheck h1, e, h2, rfl⟩
    · cases h
  · split at h
    · rename_i l o hx
      split at h
      · rename_i i o' hfa
        simp at h; subst h
        obtain ⟨a, h1, e, h2, rfl⟩ := evS_sound hf hx
        exact ⟨rfl, _, op_fieldAddr h1 (fieldAddr_shift hfa _ _), e, h2, rfl⟩
      · cases h
    · cases h
  · split at h
    · rename_i l l' hx hk
      split at h
      · rename_i sz w hsz hwl
        split at h
        · rename_i hh
          obtain ⟨rfl, hl⟩ := hh
          simp at h; subst h
          obtain ⟨a, h1, e, n, h2, h3, rfl⟩ := evS_sound hf hx
          obtain ⟨b, k1, e', n', k2, k3, rfl, k4, k5⟩ := evS_sound hf hk
          rw [h2] at k2; cases k2
          rw [h3] at k3; cases k3
          obtain ⟨w1, w2⟩ := hw.2 _ _ _ h2 hwl
          refine ⟨rfl, .p e.b (0 + e.j * sz), op_indexAddr h1 k1 ?_, e, h2, ?_⟩
          · cases he : elemA P _ with
            | none => rw [he] at hsz; cases hsz
            | some et =>
              rw [he] at hsz
              simp only [Option.bind_some] at hsz
              simp only [indexAddrA, he, hsz]
              rw [if_pos ⟨by omega, by omega⟩]
              simp
          · rw [w1, hl]; simp
        · cases h
      · cases h
    · cases h
  · split at h
    · rename_i l o hx
      split at h
      · rename_i w hag hwl
        obtain ⟨a, h1, e, h2, rfl⟩ := evS_sound hf hx
        obtain ⟨w1, ty, kn, cs, c1, c2, c3, c4⟩ := hw.2 _ _ _ h2 hwl
        obtain ⟨a, d1, d2, d3⟩ := c4 _ _ h
        exact ⟨rfl, a, op_load h1 (by simp [loadA, loadAt, c1, hag, d1]), d3⟩
      · cases h
    · cases h
  · split at h
    · rename_i x y hx hy
      obtain ⟨a, h1, h2⟩ := evS_sound hf hx
      obtain ⟨b, k1, k2⟩ := evS_sound hf hy
      obtain ⟨r, r1, r2⟩ := binS_sound h h2 k2
      exact ⟨rfl, r, op_bin h1 k1 rfl r1, r2⟩
    · cases h
  · split at h
    · rename_i a hx
      cases hv : evS s.fr _ with
      | none => rw [hv] at hx; cases hx
      | some v =>
        rw [hv] at hx
        simp only [Option.bind_some] at hx
        obtain ⟨b, h1, h2⟩ := evS_sound hf hv
        rw [con_den hx h2] at h1
        simp only [Option.map_eq_some_iff] at h
        obtain ⟨r, hr, rfl⟩ := h
        exact ⟨rfl, r, op_un h1 hr, den_ofA r⟩
    · cases h
  · split at h
    · rename_i a hx
      cases hv : evS s.fr _ with
      | none => rw [hv] at hx; cases hx
      | some v =>
        rw [hv] at hx
        simp only [Option.bind_some] at hx
        obtain ⟨b, h1, h2⟩ := evS_sound hf hv
        rw [con_den hx h2] at h1
        simp only [Option.map_eq_some_iff] at h
        obtain ⟨r, hr, rfl⟩ := h
        exact ⟨rfl, r, op_conv h1 hr, den_ofA r⟩
    · cases h
  · split at h
    · rename_i a b hx hy
      cases hv : evS s.fr _ with
      | none => rw [hv] at hx; cases hx
      | some v =>
        cases hv' : evS s.fr _ with
        | none => rw [hv'] at hy; cases hy
        | some v' =>
          rw [hv] at hx
          rw [hv'] at hy
          simp only [Option.bind_some] at hx hy
          obtain ⟨a', h1, h2⟩ := evS_sound hf hv
          obtain ⟨b', h3, h4⟩ := evS_sound hf hv'
          rw [con_den hx h2] at h1
          rw [con_den hy h4] at h3
          simp only [Option.map_eq_some_iff] at h
          obtain ⟨r, hr, rfl⟩ := h
          exact ⟨rfl, r, op_sliceHi h1 h3 hr, den_ofA r⟩
    · cases h
  · cases h
end Go.Proofs.Ytdoaobkfbjegpaa.Rd

