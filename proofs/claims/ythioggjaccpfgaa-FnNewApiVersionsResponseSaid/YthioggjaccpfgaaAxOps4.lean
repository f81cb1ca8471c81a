/-
  THE ABSTRACT MACHINE: every operation that is no call of a Go function, at the operation.
-/
import Derived.Test.YthioggjaccpfgaaAxOps3
import Derived.Laws.BytesString
namespace Go.Proofs.Ythioggjaccpfgaa.Ax
open Go Go.RowKit

section
variable {P : Program} {ρ : Nat → Value} {base : Nat} {μ : List Loc} {H : Heap} {w : World} {fr : List AV} {a : Act}

theorem copy_fine (hρ : ∀ j, (ρ j).oneCell' = true) (hr : HR P ρ base μ H w) {t1 t2 ty : TypeId} {d x v : AV} {d' x' : Value} {H' : Heap} (h : copyA P H t1 d x = some (v, H')) (hd : VR ρ μ d d') (hx : VR ρ μ x x') :
    Fine P ρ base μ w v H' ((Builtin.copy_ #[t1, t2] ty #[d', x']).run P w) := by
  unfold copyA at h
  split at h
  · rename_i e he
    split at h
    · rename_i hs
      split at h
      · rename_i i o n m new hnew
        cases hd with
        | sl hl k1 k2 k3 =>
          rename_i l c
          split at h
          · rename_i ty' kn cs hb
            split at h
            · rename_i hle
              obtain ⟨hk, hle⟩ := hle
              simp at h
              obtain ⟨rfl, rfl⟩ := h
              obtain ⟨vs, ⟨s1, s2, _, s4, s5⟩, hvs, hone⟩ := first_fine hr (Nat.lt_succ_self 0) hnew (fun _ => rfl) hx
              have hvl : vs.length = m := by simpa using s4
              have hnl : (new.take (min m n)).length = min m n := by have := hvs.1; simp; omega
              obtain ⟨w', hrun, hr', hbel⟩ := put_row hρ hr hk hb hl (new := new.take (min m n)) (o := o) (by rw [hnl]; omega) (by
                rw [List.all_eq_true] at hone ⊢
                exact fun y hy => hone y (List.mem_of_mem_take hy)) (hvs.take (min m n))
              have hf : (Builtin.firstCells 1 (min m n) x').run P w = .ok (vs.take (min m n)).toArray w := by
                have := s5 (min m n) (Nat.min_le_left _ _)
                rwa [Nat.mul_one] at this
              refine ⟨.int .i64 (min m n : Nat), w', μ, ?_, Ext.refl _, .i _ _, hr', hbel⟩
              have hf' : (Builtin.firstCells 1 (Nat.min m n) x').run P w = .ok (vs.take (min m n)).toArray w := hf
              simp only [Builtin.copy_, List.getElem?_toArray, List.getElem?_cons_zero, List.getElem?_cons_succ, Sem.run_bind, run_underlying (run_elemA he), Result.andThen_ok, s1, run_sizeA w hs, hf', hrun, Sem.run_pure]
              rfl
            · cases h
          · cases h
      · cases h
    · cases h
  · cases h

theorem len_fine (hr : HR P ρ base μ H w) {t ty : TypeId} {x v : AV} {x' : Value} (h : lenA P t x = some v) (hx : VR ρ μ x x') :
    Fine P ρ base μ w v H ((Builtin.len_ #[t] ty #[x']).run P w) := by
  unfold lenA at h
  split at h <;> first | (cases h; done) | skip
  all_goals
    rename_i hu
    simp at h; subst h
    cases hx
    first
      | (simp [Builtin.len_, run_underlying hu, goInt]; exact fine_pure hr (.i _ _))

theorem min_fine (hr : HR P ρ base μ H w) {t : Array TypeId} {ty : TypeId} {x y v : AV} {x' y' : Value} (h : minA x y = some v) (hx : VR ρ μ x x') (hy : VR ρ μ y y') :
    Fine P ρ base μ w v H ((Builtin.min_ t ty #[x', y']).run P w) := by
  unfold minA at h
  split at h
  · rename_i k p k' q
    cases hx; cases hy
    split at h
    · simp at h; subst h
      simp [Builtin.min_, Builtin.min2]
      exact fine_pure hr (.i _ _)
    · cases h
  · cases h

theorem max_fine (hr : HR P ρ base μ H w) {t : Array TypeId} {ty : TypeId} {x y v : AV} {x' y' : Value} (h : maxA x y = some v) (hx : VR ρ μ x x') (hy : VR ρ μ y y') :
    Fine P ρ base μ w v H ((Builtin.max_ t ty #[x', y']).run P w) := by
  unfold maxA at h
  split at h
  · rename_i k p k' q
    cases hx; cases hy
    split at h
    · simp at h; subst h
      simp [Builtin.max_, Builtin.max2]
      exact fine_pure hr (.i _ _)
    · cases h
  · cases h

/-- Bytes: the cells read as bytes are those. -/
theorem bytesOf_ints : ∀ (cs : List AV) (l : List UInt8) (vs : List Value), bytesOf cs = some l → VRs ρ μ cs vs → ∃ ns : List Int, vs = ns.map (Value.int .u8) ∧ l = ns.map fun n => UInt8.ofNat n.toNat
  | [], l, vs, h, hv => by
    simp [bytesOf] at h; subst h
    obtain rfl : vs = [] := List.eq_nil_of_length_eq_zero (by have := hv.1; simpa using this.symm)
    exact ⟨[], rfl, rfl⟩
  | c :: r, l, vs, h, hv => by
    cases vs with
    | nil => have := hv.1; simp at this
    | cons u s =>
      have h0 := hv.2 0 c u rfl rfl
      have hs : VRs ρ μ r s := ⟨by have := hv.1; simpa using this, fun j x v p q => hv.2 (j + 1) x v (by simpa using p) (by simpa using q)⟩
      unfold bytesOf at h
      split at h
      · rename_i heq; cases heq
      · rename_i n r' heq
        cases heq
        obtain ⟨l', hl', rfl⟩ := Option.map_eq_some_iff.1 h
        cases h0
        obtain ⟨ns, rfl, rfl⟩ := bytesOf_ints _ l' s hl' hs
        exact ⟨n :: ns, rfl, rfl⟩
      · cases h
theorem push_all : ∀ (ns : List Int) (acc : ByteArray), ns.foldl (fun r n => r.push (UInt8.ofNat n.toNat)) acc = ⟨acc.data ++ (ns.map fun n => UInt8.ofNat n.toNat).toArray⟩
  | [], acc => by simp
  | n :: ns, acc => by
    rw [List.foldl_cons, push_all ns]
    simp [ByteArray.push]

theorem conv_fine (hr : HR P ρ base μ H w) {s t : TypeId} {x v : AV} {x' : Value} (h : convA P s t x = some v) (hx : VR ρ μ x x') : Fine P ρ base μ w v H ((convert s t x').run P w) := by
  unfold convA at h
  split at h
  · rename_i k kd n hu hd
    simp at h; subst h
    cases hx
    have : (convert s t (.int kd n)).run P w = .ok (.int k (k.wrap n)) w := by
      obtain ⟨d, hs⟩ := Option.isSome_iff_exists.1 hu
      simp [convert, run_underlying hs, run_underlying hd, Conv.intToInt]
    rw [this]
    exact fine_pure hr (.i _ _)
  · cases h

theorem str_run (hr : HR P ρ base μ H w) {x : AV} {x' : Value} {bs : ByteArray} (h : strOf H x = some bs) (hx : VR ρ μ x x') : (Conv.bytesToString x').run P w = .ok (.string bs) w := by
  unfold strOf at h
  split at h
  · simp at h; subst h; cases hx; rfl
  · simp at h; subst h; cases hx
    simp [Conv.bytesToString, loadCells, loadCellsFrom]
  · rename_i i o n
    cases hx with
    | sl hl h1 h2 h3 =>
      rename_i l c
      split at h
      · rename_i ty kn cs hb
        split at h
        · rename_i hle
          obtain ⟨bl, hbl, rfl⟩ := Option.map_eq_some_iff.1 h
          obtain ⟨vs, hvl, hvs, _, hc⟩ := (hr.live i ty kn cs l hb hl).part hle
          have hld := run_loadCells_list (P := P) w ⟨l.b, o, none⟩ vs hc
          rw [hvl] at hld
          obtain ⟨ns, rfl, rfl⟩ := bytesOf_ints (ρ := ρ) (μ := μ) _ bl vs hbl hvs
          rw [run_bytesToString w _ n c ns hld, push_all]
          simp [ByteArray.empty, ByteArray.emptyWithCapacity]
          rfl
        · cases h
      · cases h
  · cases h

theorem strA_fine (hr : HR P ρ base μ H w) {s t : TypeId} {x v : AV} {x' : Value} (h : strA P H s t x = some v) (hx : VR ρ μ x x') : Fine P ρ base μ w v H ((convert s t x').run P w) := by
  unfold strA at h
  split at h
  · rename_i e hs hd
    split at h
    · rename_i he
      obtain ⟨bs, hbs, rfl⟩ := Option.map_eq_some_iff.1 h
      have hrun := str_run hr hbs hx
      have : (convert s t x').run P w = .ok (.string bs) w := by
        unfold strOf at hbs
        split at hbs
        · cases hx; simp [convert, run_underlying hs, run_underlying hd, run_underlying he, hrun]
        · cases hx; simp [convert, run_underlying hs, run_underlying hd, run_underlying he, hrun]
        · cases hx; simp [convert, run_underlying hs, run_underlying hd, run_underlying he, hrun]
        · cases hbs
      rw [this]
      exact fine_pure hr (.s _)
    · cases h
  · cases h

theorem un_fine (hr : HR P ρ base μ H w) {op : UnOp} {x v : AV} {x' : Value} (h : unA op x = some v) (hx : VR ρ μ x x') : Fine P ρ base μ w v H ((Op.unary op x').run P w) := by
  unfold unA at h
  split at h
  · simp at h; subst h; cases hx; exact fine_pure hr (.b _)
  · simp only [Option.some.injEq] at h; subst h; cases hx; exact fine_pure hr (.i _ _)
  · cases h

theorem ofSem_run {s : Sem Value} {v : AV} (h : ofSem s = some v) : ∃ v', (∀ w, s.run P w = .ok v' w) ∧ VR ρ μ v v' := by
  unfold ofSem at h
  split at h
  · rename_i v'
    exact ⟨v', fun w => rfl, (ofV1_VR h).1⟩
  · cases h

theorem eq_run {t : TypeId} {x y : AV} {b : Bool} {x' y' : Value} (h : eqA P t x y = some b) (hx : VR ρ μ x x') (hy : VR ρ μ y y') (w : World) : (Op.equal t x' y').run P w = .ok b w := by
  unfold Op.equal
  rw [show Op.maxDepth = 9999 + 1 from rfl]
  unfold eqA at h
  split at h <;> first | (cases h; done) | skip
  all_goals
    rename_i hu
    simp only [Option.some.injEq] at h
    subst h
    cases hx; cases hy
    unfold Op.equalIn
    simp [run_underlying hu]

theorem bin_fine (hr : HR P ρ base μ H w) {op : BinOp} {t : TypeId} {ox oy : Operand} {x y v : AV} {x' y' : Value} (h : binA P op t (isC ox || isC oy) x y = some v) (hx : VR ρ μ x x') (hy : VR ρ μ y y') :
    Fine P ρ base μ w v H ((do eqGuard op t ox oy x' y'; binOp op t x' y' : Sem Value).run P w) := by
  unfold binA at h
  split at h
  · cases hx; cases hy
    have hgo : ∀ b : Bool, b = (isC ox || isC oy) → b = true → (eqGuard .eql t ox oy .nilIface .nilIface).run P w = .ok () w ∧ (eqGuard .neq t ox oy .nilIface .nilIface).run P w = .ok () w := by
      intro b hb hc
      subst hc
      constructor <;> (unfold eqGuard; cases ox <;> cases oy <;> first | rfl | cases hb)
    generalize hbb : (isC ox || isC oy) = b at h
    split at h
    · rename_i hu
      simp at h; subst h
      simp only [Sem.run_bind, (hgo true hbb.symm rfl).1, Result.andThen_ok]
      have : (binOp .eql t .nilIface .nilIface).run P w = .ok (.bool true) w := by
        have he : (Op.equal t .nilIface .nilIface).run P w = .ok true w := by
          unfold Op.equal
          rw [show Op.maxDepth = 9999 + 1 from rfl]
          unfold Op.equalIn
          simp [run_underlying hu]
        rw [show binOp .eql t .nilIface .nilIface = (do pure (.bool ((← Op.equal t .nilIface .nilIface)))) from rfl]
        simp only [Sem.run_bind, he, Result.andThen_ok, Sem.run_pure]
      rw [this]
      exact fine_pure hr (.b _)
    · rename_i hu
      simp at h; subst h
      simp only [Sem.run_bind, (hgo true hbb.symm rfl).2, Result.andThen_ok]
      have : (binOp .neq t .nilIface .nilIface).run P w = .ok (.bool false) w := by
        have he : (Op.equal t .nilIface .nilIface).run P w = .ok true w := by
          unfold Op.equal
          rw [show Op.maxDepth = 9999 + 1 from rfl]
          unfold Op.equalIn
          simp [run_underlying hu]
        rw [show binOp .neq t .nilIface .nilIface = (do pure (.bool (!(← Op.equal t .nilIface .nilIface)))) from rfl]
        simp only [Sem.run_bind, he, Result.andThen_ok, Sem.run_pure, Bool.not_true]
      rw [this]
      exact fine_pure hr (.b _)
    · cases h
  · cases hx; cases hy
    obtain ⟨v', hv, hvr⟩ := ofSem_run (P := P) (ρ := ρ) (μ := μ) h
    have hg : ∀ k p l q, (eqGuard op t ox oy (.int k p) (.int l q)).run P w = .ok () w := by
      intro k p l q
      unfold eqGuard
      split <;> rfl
    simp only [Sem.run_bind, hg, Result.andThen_ok, hv]
    exact fine_pure hr hvr
  · cases hx; cases hy
    obtain ⟨v', hv, hvr⟩ := ofSem_run (P := P) (ρ := ρ) (μ := μ) h
    have hg : ∀ p q, (eqGuard op t ox oy (.string p) (.string q)).run P w = .ok () w := by
      intro p q
      unfold eqGuard
      split <;> rfl
    simp only [Sem.run_bind, hg, Result.andThen_ok, hv]
    exact fine_pure hr hvr
  · have key : ∀ b, eqA P t x y = some b → (∀ op, (eqGuard op t ox oy x' y').run P w = .ok () w) ∧ binOp .eql t x' y' = (do pure (.bool (← Op.equal t x' y'))) ∧ binOp .neq t x' y' = (do pure (.bool (!(← Op.equal t x' y')))) := by
      intro b hb
      unfold eqA at hb
      split at hb <;> first | (cases hb; done) | skip
      all_goals
        cases hx; cases hy
        refine ⟨fun op => ?_, rfl, rfl⟩
        unfold eqGuard
        split <;> rfl
    split at h
    · obtain ⟨b, hb, rfl⟩ := Option.map_eq_some_iff.1 h
      obtain ⟨k1, k2, _⟩ := key b hb
      simp only [Sem.run_bind, k1, Result.andThen_ok, k2, eq_run hb hx hy, Sem.run_pure]
      exact fine_pure hr (.b _)
    · obtain ⟨b, hb, rfl⟩ := Option.map_eq_some_iff.1 h
      obtain ⟨k1, _, k3⟩ := key b hb
      simp only [Sem.run_bind, k1, Result.andThen_ok, k3, eq_run hb hx hy, Sem.run_pure]
      exact fine_pure hr (.b _)
    · cases h
end
end Go.Proofs.Ythioggjaccpfgaa.Ax
