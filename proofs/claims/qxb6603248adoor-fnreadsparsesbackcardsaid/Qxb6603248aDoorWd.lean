/-
  zzBytes_.. (4), zzMake (5).
-/
import Derived.Test.Qxb6603248aDoorWc
import Derived.Deep.QuietTactic
import Derived.BigQuiet
namespace Go.Proofs.Qxb6603248aDoor
open Go.RowKit
set_option linter.unusedVariables false

/-- The slice's first n cells hold the numbers X 0, X 1, .. -/
def U32s (w : World) (a : Option Addr) (n : Nat) (X : Nat → Nat) : Prop :=
  ∀ i, i < n → ∃ b off, a = some ⟨b, off, none⟩ ∧ w.cell? ⟨b, off + i, none⟩ = some (.int .u32 (X i : Int))

theorem block_lt {w : World} {b o : Nat} {v : Value} (h : w.cell? ⟨b, o, none⟩ = some v) : b < w.heap.size := by
  rcases Nat.lt_or_ge b w.heap.size with h' | h'
  · exact h'
  · simp [World.cell?, Array.getElem?_eq_none h'] at h

theorem U32s.below {w w' : World} {a : Option Addr} {n B : Nat} {X : Nat → Nat} (h : U32s w a n X) (hb : Below B w w') (hB : w.heap.size ≤ B) : U32s w' a n X := by
  intro i hi
  obtain ⟨b, o, rfl, hc⟩ := h i hi
  exact ⟨b, o, rfl, (hb.cell (p := ⟨b, o + i, none⟩) (by have := block_lt hc; show b < B; omega)).trans hc⟩
theorem U32s.cell {w : World} {b n : Nat} {X : Nat → Nat} (h : U32s w (some ⟨b, 0, none⟩) n X) (i : Nat) (hi : i < n) : w.cell? ⟨b, i, none⟩ = some (.int .u32 (X i : Int)) := by
  obtain ⟨b', o, e, hc⟩ := h i hi
  cases e
  simpa using hc

def SomeBool (e : Ending) : Prop := ∃ b : Bool, e = .returned (.bool b)
theorem SomeBool.mk (b : Bool) : SomeBool (.returned (.bool b)) := ⟨b, rfl⟩

theorem bytes_walk (f : Int) (a : Option Addr) (n c : Nat) (w : World) (hn : n ≤ 9223372036854775807) :
    Calls Tryd.prog 4 #[.int .u32 f, .slice a n c] w fun e w' => SomeBool e ∧ w' = w := by
  go_enter Tryd.func4, Tryd.ntmps4
  go_wp2
  all_goals (go_ret; exact ⟨SomeBool.mk _, rfl⟩)

theorem info33 : (Tryd.prog.info? 33).map (fun i => (i.zero, i.size, i.bytes)) = some (some (.int .u32 0), 1, 4) := by kernel_rfl

/-- The copy's cells behind k rounds. -/
def ucells (X : Nat → Nat) (n k : Nat) : List Value := (List.range n).map fun i => .int .u32 (if i < k then (X i : Int) else 0)
theorem ucells_zero (X : Nat → Nat) (n : Nat) : ucells X n 0 = List.replicate n (.int .u32 0) := by
  apply List.ext_getElem?
  intro i
  by_cases h : i < n <;> simp [ucells, h]
theorem ucells_set (X : Nat → Nat) (n k : Nat) : (ucells X n k).set k (.int .u32 (X k : Int)) = ucells X n (k + 1) := by
  apply List.ext_getElem?
  intro i
  by_cases h : i < n
  · by_cases hi : k = i
    · subst hi; simp [ucells, h]
    · have h1 : (i < k + 1) ↔ i < k := by omega
      simp [ucells, h, hi, h1]
  · simp [ucells, h]
theorem ucells_at (X : Nat → Nat) (n k i : Nat) (h : i < n) (hk : i < k) : (ucells X n k)[i]? = some (.int .u32 (X i : Int)) := by
  simp [ucells, h, hk]
theorem ucells_some (X : Nat → Nat) (n k i : Nat) (h : i < n) : ∃ v, (ucells X n k)[i]? = some (.int .u32 v) := by
  simp [ucells, h]

/-- A fresh UnknownError over a fresh slice of the same numbers. -/
def Made (w w' : World) (n : Nat) (X : Nat → Nat) (e : Ending) : Prop :=
  ∃ pb gb, e = .returned (.pointer (some ⟨pb, 0, none⟩)) ∧ w'.cell? ⟨pb, 1, none⟩ = some (.slice (some ⟨gb, 0, none⟩) n n) ∧ U32s w' (some ⟨gb, 0, none⟩) n X ∧ Below w.heap.size w w'

set_option maxHeartbeats 2000000 in
theorem make_walk (f : Int) (a : Option Addr) (n c : Nat) (X : Nat → Nat) (w : World) (hv : U32s w a n X) (hn : n ≤ 65536) :
    Calls Tryd.prog 5 #[.int .u32 f, .slice a n c] w fun e w' => Made w w' n X e := by
  have HV : Hid (U32s w a n X) := hv
  clear hv
  obtain ⟨i0, hi, hz0, hz1, hz2⟩ := info_parts info33
  go_enter Tryd.func5, Tryd.ntmps5
  go_wp2_with (at_make; refine wpList_make_full _ rfl _ _ 32 rfl w.heap.size 33 i0 (.int .u32 0) 1 Tryd.underlying32 hi hz0 hz1 _ _ _ _ n rfl rfl rfl rfl ?b2 ?b3 (Nat.le_refl _) ?_)
  case b2 => rw [hz2]; omega
  case b3 => unfold maxLen; omega
  intro w0 hown0 hgrow0
  have HO : Hid (w0.ownsRow w.heap.size 33 1 (.slice (some ⟨w.heap.size, 0, none⟩) n n) n (ucells X n 0)) := by
    rw [ucells_zero, ← toList_madeCells_one]; show World.ownsRow _ _ _ _ _ _ _; simpa using hown0
  have HB : Hid (Below w.heap.size w w0) := (Below.refl _ _).grown hgrow0 (Nat.le_refl _) (fun k h => by cases h)
  clear hown0 hgrow0 hi hz0 hz1 hz2
  go_wp2
  go_loopw [6] (fun i wr => ∃ k : Nat, k ≤ n ∧ i = .int .i64 k ∧ Hid (wr.ownsRow w.heap.size 33 1 (.slice (some ⟨w.heap.size, 0, none⟩) n n) n (ucells X n k)) ∧ Hid (Below w.heap.size w wr)) (fun i _ => n - (intOf i).toNat)
  case atStart => exact ⟨0, Nat.zero_le _, rfl, HO, HB⟩
  case round =>
    clear HO HB
    obtain ⟨k, hk, rfl, HO, HB⟩ := hrel
    by_cases hlt : k < n
    · obtain ⟨b, o, rfl, hc⟩ := HV.out k hlt
      have hcr : wr.cell? ⟨b, o + k, none⟩ = some (.int .u32 (X k : Int)) := (HB.out.cell (p := ⟨b, o + k, none⟩) (by exact block_lt hc)).trans hc
      obtain ⟨v0, hv0⟩ := ucells_some X n k k hlt
      have hcw : wr.cell? ⟨w.heap.size, k, none⟩ = some (.int .u32 v0) := (HO.out.cellAt k (by omega)).trans hv0
      have hfz : wr.frozen? ⟨w.heap.size, k, none⟩ = false := HO.out.frozenAt k
      clear hc hv0
      go_wp2
      go_roundw
      case rel =>
        have hst := HO.out.stored k (.int .u32 (X k : Int))
        rw [ucells_set] at hst
        exact ⟨k + 1, by omega, by go_num, hst.1, HB.out.grown hst.2 HB.out.size (fun k h => by cases h; exact Nat.le_refl _)⟩
      case measure => simp [intOf]; omega
    · obtain rfl : k = n := by omega
      have HU : Hid (U32s wr (some ⟨w.heap.size, 0, none⟩) k X) := fun i hi => ⟨w.heap.size, 0, rfl, by rw [Nat.zero_add, HO.out.cellAt i (by omega)]; exact ucells_at X k k i hi hi⟩
      clear HO
      go_wp2
      go_ret
      exact ⟨_, _, rfl, by rw [World.cell?_alloc_at (hn := by simp)]; rfl, HU.out.below ((Below.refl _ _).alloc (Nat.le_refl _) _) (Nat.le_refl _), HB.out.alloc HB.out.size _⟩
end Go.Proofs.Qxb6603248aDoor
