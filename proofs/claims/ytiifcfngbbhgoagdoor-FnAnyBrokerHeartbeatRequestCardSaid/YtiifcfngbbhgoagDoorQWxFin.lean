/-
  THE WRITING CODE's CHECKER is sound.
-/
import Derived.Test.YtiifcfngbbhgoagDoorQWxOp
set_option linter.constructorNameAsVariable false
set_option linter.unusedVariables false
set_option linter.unusedSimpArgs false
namespace Go.Proofs.YtiifcfngbbhgoagDoor.Rd
open Go Go.Proofs.YtiifcfngbbhgoagDoor.Ax Go.Proofs.YtiifcfngbbhgoagDoor.Wire
set_option maxRecDepth 100000
section
variable {C : Cfg} {H0 : Heap} {L0 : Nat} {o0 : B} {s : WS} {σ : WSta}
theorem wantW_sound {ops : Array Oper} {cur : Nat} {out : AV} {lv : List WL} {fr : List AV} (h : s.fr.length = fr.length ∧ ∀ (t : Nat) (v : WV) (a : AV), s.fr[t]? = some v → fr[t]? = some a → denW H0 cur out lv v a) {g : Option (Nat × Bool)} {w : Bool} (hw : wantW ops.toList s g = some w) : wantA ops fr g = some w := by
  unfold wantW at hw
  unfold wantA
  cases g with
  | none => exact hw
  | some x =>
    obtain ⟨j, y⟩ := x
    simp only [Array.getElem?_toList] at hw ⊢
    cases hd : (ops[j]?).bind (·.dst) with
    | none => rw [hd] at hw; cases hw
    | some d =>
      rw [hd] at hw
      simp only at hw ⊢
      split at hw
      · rename_i b hb
        obtain ⟨a, h1, rfl⟩ := FRW.at_ h (t := d) hb
        simp only [h1]
        exact hw
      · cases hw
theorem opsW_sound {prim : List (FuncId × WPrim)} (hP : WPrims C prim) {ops : Array Oper} : ∀ (l : List Oper) {s s1 : WS}, opsW C prim ops.toList l s = some s1 → ∀ {σ : WSta}, WOK C H0 L0 o0 s σ →
    ∃ σ1, OS P NS ops l σ.fr σ.H (σ1.fr, σ1.H) ∧ WOK C H0 L0 o0 s1 σ1 ∧ WStep L0 s s1 σ σ1
  | [], s, s1, hs, σ, h => by
    simp [opsW] at hs; subst hs
    exact ⟨σ, OS.nil, h, .refl L0 s σ⟩
  | o :: l, s, s1, hs, σ, h => by
    unfold opsW at hs
    split at hs
    · rename_i hg
      have hg := wantW_sound h.fr hg
      cases h2 : opW C prim o s with
      | none => rw [h2] at hs; cases hs
      | some s2 =>
        rw [h2] at hs
        simp only [Option.bind_some] at hs
        obtain ⟨a, σ2, p1, p2, p3, p4⟩ := opW_sound hP h2 h
        obtain ⟨σ3, q1, q2, q3⟩ := opsW_sound hP (ops := ops) l hs p3
        rw [p2] at q1
        exact ⟨σ3, p1.os hg q1, q2, p4.trans q3⟩
    · rename_i hg
      have hg := wantW_sound h.fr hg
      obtain ⟨σ3, q1, q2, q3⟩ := opsW_sound hP (ops := ops) l hs (h.put (v := .u) (a := .t []) trivial o.dst)
      exact ⟨σ3, OS.skip hg q1, q2, ((WStep.refl L0 s σ).put o.dst .u (.t [])).trans q3⟩
    · cases hs
theorem WPrims.nil (C : Cfg) : WPrims C [] := fun f p h => by simp at h
theorem exitW_sound {b : List Code} {id : Nat} {s1 : WS} (hs : exitW C b s = some (id, s1)) (h : WOK C H0 L0 o0 s σ) : ∃ σ1, RUs b σ.fr σ.H (.exit id, σ1.fr, σ1.H) ∧ WOK C H0 L0 o0 s1 σ1 ∧ WStep L0 s s1 σ σ1 := by
  unfold exitW at hs
  split at hs
  · rename_i idr ops c x id' rest
    split at hs
    · rename_i s2 h2
      split at hs
      · rename_i hc
        simp at hs
        obtain ⟨rfl, rfl⟩ := hs
        obtain ⟨σ1, q1, q2, q3⟩ := opsW_sound (WPrims.nil C) (ops := ops) _ h2 h
        obtain ⟨a, e1, rfl⟩ := evW_sound q2.fr hc
        exact ⟨σ1, RUs.cons (RU.region q1) (RUs.stop (RU.condF e1 RU.exit) (by simp)), q2, q3⟩
      · cases hs
    · cases hs
  · cases hs
end
theorem rep_said {flex : Bool} {A : Nat → Prop} {H : Heap} {cs : List AV} : ∀ {f : F} {x : V}, Rep A H f x cs → ok flex f x → ∃ vs, x = packV vs ∧ Said flex A H cs (unF f) vs ∧ enc flex f x = encs flex (unF f) vs
  | .nil, x, h, hk => by
    have h : x = .u := h
    subst h
    exact ⟨[], rfl, fun i e o hi => by simp [unF] at hi, rfl⟩
  | .leaf o k n r, x, h, hk => by
    obtain ⟨v, y, rfl, ha, hr⟩ := h
    obtain ⟨k1, k2⟩ : okK flex k n v ∧ ok flex r y := hk
    obtain ⟨vs, rfl, h2, h3⟩ := rep_said hr k2
    refine ⟨v :: vs, rfl, fun i e o' hi => ?_, ?_⟩
    · cases i with
      | zero => simp [unF] at hi; obtain ⟨rfl, rfl⟩ := hi; exact ⟨v, rfl, ha, k1⟩
      | succ i => exact h2 i e o' (by simpa [unF] using hi)
    · show encK flex k v ++ enc flex r (packV vs) = _
      rw [h3]; rfl
  | .list o sz n e r, x, h, hk => by
    obtain ⟨v, y, rfl, ha, hr⟩ := h
    have hk2 : ok flex r y ∧ okE flex (.list sz n e) v := by
      cases v <;> simp only [ok] at hk
      all_goals first | exact ⟨hk.2, hk.1⟩ | exact hk.1.elim
    obtain ⟨vs, rfl, h2, h3⟩ := rep_said hr hk2.1
    refine ⟨v :: vs, rfl, fun i e' o' hi => ?_, ?_⟩
    · cases i with
      | zero => simp [unF] at hi; obtain ⟨rfl, rfl⟩ := hi; exact ⟨v, rfl, ha, hk2.2⟩
      | succ i => exact h2 i e' o' (by simpa [unF] using hi)
    · have := enc_node (flex := flex) (.list sz n e) o r v (packV vs) (fun hh => by cases hh)
      show enc flex (Ev.node (.list sz n e) o r) (.c v (packV vs)) = _
      rw [this, h3]; rfl
  | .tags o r, x, h, hk => by
    obtain ⟨v, y, rfl, ha, hr⟩ := h
    obtain ⟨av, ⟨ts, rfl, ht⟩, ha2⟩ := ha
    obtain ⟨k1, k2, k3⟩ : okT 0 ts ∧ ts.length < 2 ^ 32 ∧ ok flex r y := hk
    obtain ⟨vs, rfl, h2, h3⟩ := rep_said hr k3
    refine ⟨.t ts :: vs, rfl, fun i e' o' hi => ?_, ?_⟩
    · cases i with
      | zero => simp [unF] at hi; obtain ⟨rfl, rfl⟩ := hi; exact ⟨.t ts, rfl, ⟨av, ⟨ts, rfl, ht⟩, ha2⟩, k1, k2⟩
      | succ i => exact h2 i e' o' (by simpa [unF] using hi)
    · show uv ts.length ++ encT ts ++ enc flex r (packV vs) = _
      rw [h3]; rfl
end Go.Proofs.YtiifcfngbbhgoagDoor.Rd

