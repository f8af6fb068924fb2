/-
  The row's step and the statement.
-/
import Derived.Test.Qxb6602119aWg
import Derived.ProofKit
import Derived.SliceStrings
import Derived.ChangeOld
import Derived.Carry
namespace Go.Proofs.Qxb6602119a
open Go.ChangeShapes Go.WideShapes Go.ChangeAt Go.RowKit
set_option linter.unusedVariables false

theorem own : ownKnob Try.prog.godebug = none := by kernel_rfl
theorem laidOut : laidOutB Try.prog = true := by kernel_rfl

theorem strs_view {H : Type} {enc : TypeId × Value → H} {W : World} {v : Value} {d : DataW H} {p : List MemPlace}
    (hval : ∃ a n c, v = .slice a n c)
    (h : DataW.Trod enc Try.prog W 0 (fun _ => true) true 22 v d p) :
    ∃ a n c X, v = .slice a n c ∧ Strs W a n X ∧ n ≤ 9223372036854775807 ∧ (a = none → n = 0 ∧ c = 0) := by
  obtain ⟨a, n, c, rfl⟩ := hval
  obtain ⟨fuel, hf⟩ := h
  rcases open_strings Try.underlying22 Try.underlying9 (by kernel_rfl) hf with ⟨hcs, _⟩ | ⟨x, l, c', ss, hcs, _, hl, hm, hz, _, hcell, hws⟩
  · simp [Value.cells] at hcs
    obtain ⟨rfl, rfl, rfl⟩ := hcs
    exact ⟨none, 0, 0, fun _ => ByteArray.empty, rfl, fun i hi => absurd hi (Nat.not_lt_zero _), by omega, fun _ => ⟨rfl, rfl⟩⟩
  · simp [Value.cells] at hcs
    obtain ⟨rfl, rfl, rfl⟩ := hcs
    refine ⟨some x, n, c, fun i => ss.getD i ByteArray.empty, rfl, fun i hi => ?_, by unfold maxLen at hm; omega, fun h => by cases h⟩
    have hc := hcell i (by simp at hz; omega)
    have hc0 := hcell 0 (by simp at hz; omega)
    obtain ⟨b, off, spot⟩ := x
    have hspot : spot = none := by simpa [Addr.add] using World.cell?_spot hc0
    subst hspot
    exact ⟨b, off, rfl, by rw [← Go.WideShapes.add_plain]; exact hc⟩

set_option maxRecDepth 100000 in
theorem lifted (os : Os) (started : os.Started) (H : Type) (enc : TypeId × Value → H) :
    ReturnsInHanded {} Try.checked os 3 .any (Rows.fnPlaceColumnsMatchesModelSpec.pre6 enc Try.prog Try.f3 Rows.fnPlaceColumnsMatchesModelRow.domain false) (Rows.fnPlaceColumnsMatchesModelSpec.post enc Try.prog Try.f3 false true false false) := by
  refine returnsInHanded_of_change (C := Try.checked) own started (by kernel_rfl) Try.func3
    (ChangeSpec.witness6 (enc := enc) (C := Try.checked) false ⟨#[], #[.slice none 0 0, .slice none 0 0, .slice none 0 0], []⟩ 8 (by kernel_rfl) (by kernel_rfl) (by kernel_rfl) (by kernel_rfl)) ?_
  intro W base args ds gs before hval0 hW hcnd _
  have hval : ∀ (j : Nat) t v, Try.f3.params[j]? = some t → args[j]? = some v → Value.okWide Try.prog W .any base t v := hval0
  have hW' := hW
  obtain ⟨p, q, hA0, hV, rfl, hfz, hnd⟩ := hW
  have hA : DataW.TrodAll enc Try.prog W 0 (fun _ => true) true Try.f3.params.toList args.toList ds p := hA0
  rw [Try.params3] at hA hval
  obtain ⟨v0, v1, v2, d0, d1, d2, p0, p1, p2, rfl, rfl, rfl, h0, h1, h2⟩ := trodAll_three hA
  obtain ⟨rfl, rfl⟩ := trodVars_none hV
  have lt0 : ∀ x ∈ p0, x.block < W.heap.size := by obtain ⟨m, hm⟩ := h0; exact DataW.trod_lt m _ _ _ hm
  have lt1 : ∀ x ∈ p1, x.block < W.heap.size := by obtain ⟨m, hm⟩ := h1; exact DataW.trod_lt m _ _ _ hm
  have lt2 : ∀ x ∈ p2, x.block < W.heap.size := by obtain ⟨m, hm⟩ := h2; exact DataW.trod_lt m _ _ _ hm
  obtain ⟨a0, n0, c0, X0, rfl, s0, l0, z0⟩ := strs_view (okWide_slice Try.underlying22 (hval 0 22 v0 rfl rfl)) h0
  obtain ⟨a1, n1, c1, X1, rfl, s1, l1, z1⟩ := strs_view (okWide_slice Try.underlying22 (hval 1 22 v1 rfl rfl)) h1
  obtain ⟨a2, n2, c2, X2, rfl, s2, l2, z2⟩ := strs_view (okWide_slice Try.underlying22 (hval 2 22 v2 rfl rfl)) h2
  clear hA0 hval0
  refine (law_walk a0 a1 a2 n0 c0 n1 c1 n2 c2 X0 X1 X2 W s0 s1 s2 l0 l1 l2 z0 z1 z2).mono fun e W' ⟨he, bel⟩ => ?_
  subst he
  exact ⟨_, rfl, _, _, _, [], _, [], hW', trodAll_mk1 (shut_bool Try.underlying4 _),
    trodAll_mk3 (Below.trod laidOut (by kernel_rfl) (of_decide_eq_true (by kernel_rfl)) h0 bel lt0) (Below.trod laidOut (by kernel_rfl) (of_decide_eq_true (by kernel_rfl)) h1 bel lt1) (Below.trod laidOut (by kernel_rfl) (of_decide_eq_true (by kernel_rfl)) h2 bel lt2), rfl, bel.frame _, fun h => by cases h⟩

theorem over : Rows.fnPlaceColumnsMatchesModelRow.holds Try.pinned (OpenSpec.ofChange Rows.fnPlaceColumnsMatchesModelSpec) :=
  OpenClaim.holds_of_wide 3 Try.f3 rfl rfl rfl rfl rfl rfl rfl ⟨rfl, rfl, rfl, rfl, rfl⟩ rfl rfl rfl rfl rfl (by kernel_rfl) Try.func3 (by kernel_rfl)
    (of_decide_eq_true (by kernel_rfl)) (by unfold Func.isWrapper; first | (rw [if_pos (by decide +kernel)]; kernel_rfl) | (rw [if_neg (by decide +kernel)]; exact ⟨rfl, rfl⟩))
    (fun os started H enc _ => lifted os started H enc)

/-- ████ THE STATEMENT ████ -/
theorem proved : Rows.FnPlaceColumnsMatchesModelSaid := over
end Go.Proofs.Qxb6602119a
