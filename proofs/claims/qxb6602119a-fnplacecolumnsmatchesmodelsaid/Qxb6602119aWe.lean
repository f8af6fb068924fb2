/-
  zzb1Clone (8).
-/
import Derived.Test.Qxb6602119aWd
import Derived.OwnWalk
import Derived.Lib.SliceRun
namespace Go.Proofs.Qxb6602119a
open Go.RowKit
set_option linter.unusedVariables false

theorem eql22 (w : World) (a : Option Addr) (n c : Nat) : (binOp .eql 22 (.slice a n c) (.slice none 0 0)).run Try.prog w = .ok (.bool a.isNone) w := Lib.run_eql_slice_nil w _ _ a n c 0 0 Try.underlying22
theorem eql25 (w : World) (a : Option Addr) (n c : Nat) : (binOp .eql 25 (.slice a n c) (.slice none 0 0)).run Try.prog w = .ok (.bool a.isNone) w := Lib.run_eql_slice_nil w _ _ a n c 0 0 Try.underlying25
attribute [local go_sem] eql22

theorem info9 : (Try.prog.info? 9).map (fun i => (i.zero, i.size, i.bytes)) = some (some (.string ⟨#[]⟩), 1, 16) := by kernel_rfl
theorem info3 : (Try.prog.info? 3).map (fun i => (i.zero, i.size, i.bytes)) = some (some (.int .i64 0), 1, 8) := by kernel_rfl

theorem block_lt {w : World} {b o : Nat} {v : Value} (h : w.cell? ⟨b, o, none⟩ = some v) : b < w.heap.size := by
  rcases Nat.lt_or_ge b w.heap.size with h' | h'
  · exact h'
  · simp [World.cell?, Array.getElem?_eq_none h'] at h

theorem Strs.below {w w' : World} {a : Option Addr} {n B : Nat} {X : Nat → ByteArray} (h : Strs w a n X) (hb : Below B w w') (hB : w.heap.size ≤ B) : Strs w' a n X := by
  intro i hi
  obtain ⟨b, o, rfl, hc⟩ := h i hi
  exact ⟨b, o, rfl, (hb.cell (p := ⟨b, o + i, none⟩) (by have := block_lt hc; show b < B; omega)).trans hc⟩

/-- The clone's cells behind k rounds. -/
def cellsTo (X : Nat → ByteArray) (n k : Nat) : List Value := (List.range n).map fun i => .string (if i < k then X i else ⟨#[]⟩)
theorem cellsTo_zero (X : Nat → ByteArray) (n : Nat) : cellsTo X n 0 = List.replicate n (.string ⟨#[]⟩) := by
  apply List.ext_getElem?
  intro i
  by_cases h : i < n <;> simp [cellsTo, h]
theorem cellsTo_set (X : Nat → ByteArray) (n k : Nat) : (cellsTo X n k).set k (.string (X k)) = cellsTo X n (k + 1) := by
  apply List.ext_getElem?
  intro i
  by_cases h : i < n
  · by_cases hi : k = i
    · subst hi; simp [cellsTo, h]
    · have h1 : (i < k + 1) ↔ i < k := by omega
      simp [cellsTo, h, hi, h1]
  · simp [cellsTo, h]
theorem cellsTo_at (X : Nat → ByteArray) (n k i : Nat) (h : i < n) (hk : i < k) : (cellsTo X n k)[i]? = some (.string (X i)) := by
  simp [cellsTo, h, hk]
theorem cellsTo_some (X : Nat → ByteArray) (n k i : Nat) (h : i < n) : ∃ v, (cellsTo X n k)[i]? = some (.string v) := by
  simp [cellsTo, h]

/-- A fresh row with the same strings. -/
def Cloned (w w' : World) (n : Nat) (X : Nat → ByteArray) (e : Ending) : Prop :=
  ∃ a, e = .returned (.slice a n n) ∧ Strs w' a n X ∧ Below w.heap.size w w' ∧ (a = none ∧ n = 0 ∨ ∃ b, a = some ⟨b, 0, none⟩)

set_option maxHeartbeats 2000000 in
theorem clone_walk (a : Option Addr) (n c : Nat) (X : Nat → ByteArray) (w : World) (hv : Strs w a n X) (hn : n ≤ 4096) (hnil : a = none → n = 0 ∧ c = 0) :
    Calls Try.prog 8 #[.slice a n c] w fun e w' => Cloned w w' n X e := by
  cases a with
  | none =>
    obtain ⟨rfl, rfl⟩ := hnil rfl
    clear hnil
    go_enter Try.func8, Try.ntmps8
    go_wp2
    go_ret
    exact ⟨none, rfl, hv, Below.refl _ _, .inl ⟨rfl, rfl⟩⟩
  | some x =>
    have HV : Hid (Strs w (some x) n X) := hv
    clear hv hnil
    obtain ⟨i0, hi, hz0, hz1, hz2⟩ := info_parts info9
    go_enter Try.func8, Try.ntmps8
    go_wp2_with (at_make; refine wpList_make_full _ rfl _ _ 22 rfl w.heap.size 9 i0 (.string ⟨#[]⟩) 1 Try.underlying22 hi hz0 hz1 _ _ _ _ n rfl rfl rfl rfl ?b2 ?b3 (Nat.le_refl _) ?_)
    case b2 => rw [hz2]; omega
    case b3 => unfold maxLen; omega
    intro w0 hown0 hgrow0
    have hown1 : w0.ownsRow w.heap.size 9 1 (.slice (some ⟨w.heap.size, 0, none⟩) n n) n (cellsTo X n 0) := by
      rw [cellsTo_zero, ← toList_madeCells_one]; simpa using hown0
    have HO : Hid (w0.ownsRow w.heap.size 9 1 (.slice (some ⟨w.heap.size, 0, none⟩) n n) n (cellsTo X n 0)) := hown1
    have HB : Hid (Below w.heap.size w w0) := (Below.refl _ _).grown hgrow0 (Nat.le_refl _) (fun k h => by cases h)
    clear hown0 hown1 hgrow0 hi hz0 hz1 hz2
    go_wp2
    go_loopw [4] (fun i wr => ∃ k : Nat, k ≤ n ∧ i = .int .i64 k ∧ Hid (wr.ownsRow w.heap.size 9 1 (.slice (some ⟨w.heap.size, 0, none⟩) n n) n (cellsTo X n k)) ∧ Hid (Below w.heap.size w wr)) (fun i _ => n - (intOf i).toNat)
    case atStart => exact ⟨0, Nat.zero_le _, rfl, HO, HB⟩
    case round =>
      clear HO HB
      obtain ⟨k, hk, rfl, HO, HB⟩ := hrel
      by_cases hlt : k < n
      · obtain ⟨b, o, e', hc⟩ := HV.out k hlt
        cases e'
        have hcr : wr.cell? ⟨b, o + k, none⟩ = some (.string (X k)) := (HB.out.cell (p := ⟨b, o + k, none⟩) (by exact block_lt hc)).trans hc
        obtain ⟨v0, hv0⟩ := cellsTo_some X n k k hlt
        have hcw : wr.cell? ⟨w.heap.size, k, none⟩ = some (.string v0) := (HO.out.cellAt k (by omega)).trans hv0
        have hfz : wr.frozen? ⟨w.heap.size, k, none⟩ = false := HO.out.frozenAt k
        clear hc hv0
        go_wp2
        go_roundw
        case rel =>
          have hst := HO.out.stored k (.string (X k))
          rw [cellsTo_set] at hst
          exact ⟨k + 1, by omega, by go_num, hst.1, HB.out.grown hst.2 HB.out.size (fun k h => by cases h; exact Nat.le_refl _)⟩
        case measure => simp [intOf]; omega
      · obtain rfl : k = n := by omega
        go_wp2
        go_ret
        refine ⟨_, rfl, fun i hi => ⟨w.heap.size, 0, rfl, ?_⟩, HB.out, .inr ⟨_, rfl⟩⟩
        rw [Nat.zero_add, HO.out.cellAt i (by omega)]
        exact cellsTo_at X k k i hi hi
end Go.Proofs.Qxb6602119a
