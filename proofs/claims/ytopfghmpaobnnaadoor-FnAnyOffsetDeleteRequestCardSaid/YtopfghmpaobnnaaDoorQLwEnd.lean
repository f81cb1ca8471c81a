import Derived.Test.YtopfghmpaobnnaaDoorQLwWorld
/-
  A LAW's CALL IN THE WORLD, out of its run in the machine.
-/
namespace Go.Proofs.YtopfghmpaobnnaaDoor.Rd
set_option linter.constructorNameAsVariable false
set_option linter.unusedVariables false
set_option linter.unusedSimpArgs false
open Go Go.RowKit Go.ChangeShapes Go.WideShapes Go.Proofs.YtopfghmpaobnnaaDoor.Ax Go.Proofs.YtopfghmpaobnnaaDoor.Wire
set_option linter.unusedVariables false
set_option linter.unusedSimpArgs false
set_option maxRecDepth 100000

theorem noc : noCount P = true := by kernel_rfl
theorem be_laid : ((begin P (fun _ _ => 0) default).world.heap[(0 : Nat)]?).bind Obj.row? = some (#[], 166) := by kernel_rfl
theorem be_at {W : World} (h : W.ShapedOpen P) : ∃ fz, W.heap[(0 : Nat)]? = some (.cells #[] 166 fz) := by
  obtain ⟨cs, hc, hs, _⟩ := h.1 0 #[] 166 (of_decide_eq_true (by kernel_rfl)) be_laid
  obtain rfl : cs = #[] := by simpa using hs
  exact ⟨_, hc⟩
theorem err_named : P.globalNamed "pub-kmsg/pub/kmsg/inner/kbin.ErrNotEnoughData" = some 1 := by kernel_rfl
theorem err_type : (P.globals[(1 : Nat)]?).map (·.type) = some 66 := by kernel_rfl
theorem err_at {W : World} {nm : String} {x : DataW Unit} {r : List (String × DataW Unit)} (h : laidMet P (("pub-kmsg/pub/kmsg/inner/kbin.ErrNotEnoughData", .iface nm x) :: r) W) :
    ∃ tE u v fz, W.heap[(1 : Nat)]? = some (.cells #[.iface u v] tE fz) := by
  obtain ⟨ps, ⟨g0, t0, cs0, f0, p0, q0, hg0, ht0, hv0, hd0, _, e0⟩, _, hrows⟩ := h
  obtain rfl := Option.some.inj (err_named.symm.trans hg0)
  obtain rfl := Option.some.inj (err_type.symm.trans ht0)
  obtain ⟨u, v, e⟩ := trod_iface Tryd.underlying66 hd0
  obtain ⟨l0⟩ := cs0
  simp only at e
  subst e
  obtain ⟨ty, fz, hb⟩ := blk_of_var err_named hv0
  exact ⟨ty, u, v, fz, hb⟩

theorem law_world {law : FuncId} {S : CallA} (hS : ∀ base, CallSound P (fun _ => .bool true) base S) {aA : AV → List AV} {aV : Value → List Value} (hav : ∀ μ x v, VR (fun _ => .bool true) μ x v → VRs (fun _ => .bool true) μ (aA x) (aV v))
    (hCA : ∀ {H : Heap} {rb0 : Nat} {data : AV} {bs : B}, Globs H rb0 → BytesAt (fun i => i < H.length) H data bs → ∃ H', CA P S law (aA data) H (.b true, H'))
    {W : World} (hsh : W.ShapedOpen P) {nm : String} {x : DataW Unit} {r : List (String × DataW Unit)} (hL : laidMet P (("pub-kmsg/pub/kmsg/inner/kbin.ErrNotEnoughData", .iface nm x) :: r) W) {v1 : Value}
    (hv : v1 = .slice none 0 0 ∨ ∃ (a : Addr) (len cap : Nat) (zs : List Int), v1 = .slice (some a) len cap ∧ len ≤ cap ∧ cap ≤ maxLen ∧ zs.length = len ∧ (∀ i, i < zs.length → W.cell? (a.add i) = some (.int .u8 (zs.getD i 0))) ∧ (∀ n ∈ zs, (Lit.int .u8 n).wf = true)) :
    Calls P law (aV v1).toArray W fun e w' => e = .returned (.bool true) ∧ Below W.heap.size W w' := by
  obtain ⟨tE, hE⟩ := err_at hL
  obtain ⟨d, av, bs, h0, hb, hvr⟩ := data0
    (be_at hsh)
    hE hv
  obtain ⟨H', n, hn⟩ := hCA (globs0 h0) hb
  have hr := hn n (Nat.le_refl _)
  have hc := run_sound (fun _ => rfl) (noCount_iff noc) (hS W.heap.size) (drawA_sound (fun _ => rfl) (noCount_iff noc)) n law (aA av) _ _ _ hr
  refine (hc.2 (loc0 W.heap.size) W _ (hr0 h0) (hav _ _ _ (hvr _))).mono fun e w' hm => ?_
  obtain ⟨v', μ', rfl, _, hv', _, hbel⟩ := hm
  cases hv'
  exact ⟨rfl, hbel⟩

/-- What a slice of octets that was opened is. -/
theorem octets_open {H : Type} {enc : TypeId × Value → H} {W : World} {base : Nat} {v1 : Value} {d1 : DataW H} {p1 : List MemPlace} (hval : Value.okWide P W .any base 22 v1) (h1 : DataW.Trod enc P W 0 (fun _ => true) true 22 v1 d1 p1) :
    v1 = .slice none 0 0 ∨ ∃ (a : Addr) (len cap : Nat) (zs : List Int), v1 = .slice (some a) len cap ∧ len ≤ cap ∧ cap ≤ maxLen ∧ zs.length = len ∧ (∀ i, i < zs.length → W.cell? (a.add i) = some (.int .u8 (zs.getD i 0))) ∧ (∀ n ∈ zs, (Lit.int .u8 n).wf = true) := by
  obtain ⟨a1, len, cap, rfl⟩ := okWide_slice Tryd.underlying22 hval
  obtain ⟨fuel, hf⟩ := h1
  rcases open_ints Tryd.underlying22 Tryd.underlying5 (show P.cellsOf 5 = 1 by kernel_rfl) hf with ⟨hcs, hx⟩ | ⟨a, len', cap', zs, hcs, _, hl, hm, hz, hx, hcell, hwz⟩
  · simp [Value.cells] at hcs
    obtain ⟨rfl, rfl, rfl⟩ := hcs
    exact .inl rfl
  · simp [Value.cells] at hcs
    obtain ⟨rfl, rfl, rfl⟩ := hcs
    simp only [if_true] at hz
    refine .inr ⟨a, len, cap, zs.take len, rfl, hl, hm, by simp; omega, fun i hi => ?_, fun n hn => hwz n (List.mem_of_mem_take hn)⟩
    have hi' : i < len := by simp at hi; omega
    have := hcell i (by omega)
    rw [this]
    simp [List.getD_eq_getElem?_getD, List.getElem?_take, hi']
theorem octets_stay {H : Type} {enc : TypeId × Value → H} {W W' : World} {v1 : Value} {d1 : DataW H} {p1 : List MemPlace} (h1 : DataW.Trod enc P W 0 (fun _ => true) true 22 v1 d1 p1) (hb : Below W.heap.size W W') (hlt : ∀ p ∈ p1, p.block < W.heap.size) {sp : Nat → Bool} (hs : ∀ p ∈ p1, sp p.block = true) :
    DataW.Trod enc P W' 0 sp true 22 v1 d1 p1 :=
  WideElems.Trod_stays (P := P) (show laidOutB P = true by kernel_rfl) (by kernel_rfl) (of_decide_eq_true (by kernel_rfl)) h1 (fun p hp => hb.same (hlt p hp)) hs
end Go.Proofs.YtopfghmpaobnnaaDoor.Rd

