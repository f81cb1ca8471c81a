import Derived.Test.YtopfghmpaobnnaaDoorQSxRel
/-
  THE ABSTRACT MACHINE: code as a row of pieces.
-/
namespace Go.Proofs.YtopfghmpaobnnaaDoor.Rd
set_option linter.constructorNameAsVariable false
set_option linter.unusedVariables false
set_option linter.unusedSimpArgs false
open Go Go.Proofs.YtopfghmpaobnnaaDoor.Ax Go.Proofs.YtopfghmpaobnnaaDoor.Wire

/-- A row of pieces of code, run one behind the other. -/
def RUs : List Code → List AV → Heap → AX × List AV × Heap → Prop
  | [], fr, H, r => r = (.normal, fr, H)
  | c :: l, fr, H, r => (∃ fr1 H1, RU P NS c fr H (.normal, fr1, H1) ∧ RUs l fr1 H1 r) ∨ (r.1 ≠ .normal ∧ RU P NS c fr H r)
theorem RUs.cons {c : Code} {l : List Code} {fr fr1 : List AV} {H H1 : Heap} {r : AX × List AV × Heap} (h : RU P NS c fr H (.normal, fr1, H1)) (k : RUs l fr1 H1 r) : RUs (c :: l) fr H r := .inl ⟨fr1, H1, h, k⟩
theorem RUs.stop {c : Code} {l : List Code} {fr : List AV} {H : Heap} {r : AX × List AV × Heap} (h : RU P NS c fr H r) (k : r.1 ≠ .normal) : RUs (c :: l) fr H r := .inr ⟨k, h⟩
theorem RUs.app : ∀ {a b : List Code} {fr fr1 : List AV} {H H1 : Heap} {r : AX × List AV × Heap}, RUs a fr H (.normal, fr1, H1) → RUs b fr1 H1 r → RUs (a ++ b) fr H r
  | [], b, fr, fr1, H, H1, r, h, k => by
    obtain ⟨rfl, rfl⟩ : fr1 = fr ∧ H1 = H := by simpa [RUs] using h
    exact k
  | c :: a, b, fr, fr1, H, H1, r, h, k => by
    rcases h with ⟨fr2, H2, h1, h2⟩ | ⟨h1, _⟩
    · exact .inl ⟨fr2, H2, h1, RUs.app h2 k⟩
    · exact absurd rfl h1
theorem RUs.appx : ∀ {a : List Code} (b : List Code) {fr : List AV} {H : Heap} {r : AX × List AV × Heap}, RUs a fr H r → r.1 ≠ .normal → RUs (a ++ b) fr H r
  | [], b, fr, H, r, h, k => by
    have : r = (.normal, fr, H) := h
    rw [this] at k; exact absurd rfl k
  | c :: a, b, fr, H, r, h, k => by
    rcases h with ⟨fr2, H2, h1, h2⟩ | ⟨h1, h2⟩
    · exact .inl ⟨fr2, H2, h1, RUs.appx b h2 k⟩
    · exact .inr ⟨h1, h2⟩
theorem RUs.split : ∀ {a b : List Code} {fr : List AV} {H : Heap} {r : AX × List AV × Heap}, RUs (a ++ b) fr H r → (∃ fr1 H1, RUs a fr H (.normal, fr1, H1) ∧ RUs b fr1 H1 r) ∨ (r.1 ≠ .normal ∧ RUs a fr H r)
  | [], b, fr, H, r, h => .inl ⟨fr, H, rfl, h⟩
  | c :: a, b, fr, H, r, h => by
    rcases h with ⟨fr2, H2, h1, h2⟩ | ⟨h1, h2⟩
    · rcases RUs.split h2 with ⟨fr3, H3, h3, h4⟩ | ⟨h3, h4⟩
      · exact .inl ⟨fr3, H3, .inl ⟨fr2, H2, h1, h3⟩, h4⟩
      · exact .inr ⟨h3, .inl ⟨fr2, H2, h1, h4⟩⟩
    · exact .inr ⟨h1, .inr ⟨h1, h2⟩⟩
theorem RUs.code : ∀ {c : Code} {fr : List AV} {H : Heap} {r : AX × List AV × Heap}, RUs (flat c) fr H r → RU P NS c fr H r := by
  have one : ∀ {c : Code} {fr : List AV} {H : Heap} {r : AX × List AV × Heap}, RUs [c] fr H r → RU P NS c fr H r := by
    intro c fr H r h
    rcases h with ⟨fr2, H2, h1, h2⟩ | ⟨h1, h2⟩
    · have : r = (.normal, fr2, H2) := h2
      rw [this]; exact h1
    · exact h2
  intro c
  induction c with
  | seq a b iha ihb =>
    intro fr H r h
    simp only [flat] at h
    rcases RUs.split h with ⟨fr2, H2, h1, h2⟩ | ⟨h1, h2⟩
    · exact RU.seq (iha h1) (ihb h2)
    · obtain ⟨x, fr2, H2⟩ := r
      exact RU.seqx (iha h2) h1
  | skip =>
    intro fr H r h
    have : r = (.normal, fr, H) := h
    rw [this]; exact RU.skip
  | _ => intro fr H r h; exact one h
end Go.Proofs.YtopfghmpaobnnaaDoor.Rd

