/-
  internal/strconv.FormatUint (12) and strconv.FormatUint (10) at base 10.
-/
import Derived.Test.Qxb6603248aDoorShelf
import Derived.Lib.Walk
import Derived.Lib.ItoaMem
import Derived.Lib.ItoaLen
import Derived.WalkKit
import Derived.WalkSmall
import Derived.BigCall
import Derived.BigGuard
import Derived.Below
import Derived.Deep.DeepFit
namespace Go.Proofs.Qxb6603248aDoor
open Go.RowKit Go.Sort
set_option linter.unusedVariables false

theorem below_putRow {B g off : Nat} {w0 w : World} (enc : UInt8 → Value) (hb : Below B w0 w) (hBg : B ≤ g) (d : Array UInt8) : Below B w0 (putRow enc w g off d) :=
  hb.trans ⟨rfl, rfl, rfl, by simp [putRow, mapBlock], fun k hk => by simp [putRow, mapBlock, Array.getElem?_modify]; omega⟩

theorem holds0 (w : World) (nd : Nat) (hs : nd ≤ 24) : Holds (fun (b : UInt8) => Value.int .u8 (b.toNat : Int)) (w.alloc (.cells Lib.zeros24 51)) w.heap.size 0 (Array.replicate nd (0 : UInt8)) := fun j hj => by
  have hj' : j < nd := by simpa using hj
  refine ⟨?_, World.frozen?_alloc_new _ _ _ _⟩
  rw [World.cell?_alloc_new, Lib.zeros24_at _ (by omega), getElem!_pos _ j hj]
  simp

set_option maxHeartbeats 6400000 in
set_option maxRecDepth 100000 in
theorem fmt_walk (u : Nat) (hu : u < 18446744073709551616) (w : World) (htab : Lib.TabIs Tryd.prog w Tryd.powName .u64 Lib.pow10Tab) :
    Calls Tryd.prog 12 #[.int .u64 u, .int .i64 10] w fun e w' => e = .returned (.string ⟨(Lib.decDigits u).toArray⟩) ∧ Below w.heap.size w w' := by
  by_cases hs : u < 100
  · go_enter Tryd.func12, Tryd.ntmps12
    go_wp2_with (go_at_call 16; refine (Tryd.internal_strconv_small u hs _).mono ?_; rintro e w' ⟨rfl, rfl⟩)
    go_ret
    exact ⟨rfl, Below.refl _ _⟩
  · have hu1 : 1 ≤ u := by omega
    have hnd20 : Lib.nDigits u ≤ 20 := Lib.nDigits_le20 u hu
    have hal : Tryd.prog.arrayLen 51 = 24 := by kernel_rfl
    have hsl1 : ∀ W, (Instr.sliceAt 51 (.pointer (some ⟨w.heap.size, 0, none⟩)) none (some (.int .i64 (Lib.nDigits u : Int))) none).run Tryd.prog W = .ok (.slice (some ⟨w.heap.size, 0, none⟩) (Lib.nDigits u) 24) W := fun W => by
      rw [run_sliceAt_array_h W 51 ⟨w.heap.size, 0, none⟩ (by simp [Program.arrayLen, Program.elem, Tryd.underlying51]) .i64 (Lib.nDigits u : Int) (by omega) (by rw [hal]; omega)]
      go_simp
      try omega
    have hH0 := holds0 w (Lib.nDigits u) (by omega)
    have hfmt := Tryd.internal_strconv_formatBase10 w.heap.size 0 24 u (Array.replicate (Lib.nDigits u) 0) (w.alloc (.cells Lib.zeros24 51)) hH0 (by rw [Array.size_replicate]; exact Lib.lt_pow_nDigits u) hu (by rw [Array.size_replicate]; omega)
    rw [Array.size_replicate] at hfmt
    have HH0 : Hid _ := hH0
    have HT : Hid (Lib.TabIs Tryd.prog (w.alloc (.cells Lib.zeros24 51)) Tryd.powName .u64 Lib.pow10Tab) := Lib.tabIs_alloc htab _
    clear hH0 hal htab
    go_enter Tryd.func12, Tryd.ntmps12
    go_wp2_with fail
    refine (Tryd.internal_strconv_numDigits u hu1 hu (w.alloc (.cells Lib.zeros24 51)) HT.out).mono ?_
    rintro e w' ⟨rfl, rfl⟩
    go_wp2_with fail
    refine hfmt.mono ?_
    rintro e w' ⟨rfl, k, v', dk, rfl, hF⟩
    have hcv : (convert 42 9 (.slice (some ⟨w.heap.size, 0, none⟩) (Lib.nDigits u) 24)).run Tryd.prog ((putRow (fun (b : UInt8) => Value.int .u8 (b.toNat : Int)) (w.alloc (.cells Lib.zeros24 51)) w.heap.size 0 dk).drewN k) = .ok (.string ⟨(Lib.decDigits u).toArray⟩) ((putRow (fun (b : UInt8) => Value.int .u8 (b.toNat : Int)) (w.alloc (.cells Lib.zeros24 51)) w.heap.size 0 dk).drewN k) := by
      have h := run_convert_bytes_back (P := Tryd.prog) ((putRow (fun (b : UInt8) => Value.int .u8 (b.toNat : Int)) (w.alloc (.cells Lib.zeros24 51)) w.heap.size 0 dk).drewN k) 42 9 5 ⟨w.heap.size, 0, none⟩ 24 (Lib.decDigits u) Tryd.underlying42 Tryd.underlying5 Tryd.underlying9 (fun j hj => by
        rw [Lib.row_is_numeral hF j hj, Lib.add_plain, World.cell?_drewN]
        exact cell?_putRow (fun (b : UInt8) => Value.int .u8 (b.toNat : Int)) _ w.heap.size 0 _ dk HH0.out (by rw [hF.size, Array.size_replicate]) j (by rw [hF.size]; rw [Lib.decDigits_length] at hj; exact hj))
      rw [Lib.decDigits_length] at h
      exact h
    have HW : Hid (Below w.heap.size w ((putRow (fun (b : UInt8) => Value.int .u8 (b.toNat : Int)) (w.alloc (.cells Lib.zeros24 51)) w.heap.size 0 dk).drewN k)) :=
      below_drewN (below_putRow _ ((Below.refl _ _).alloc (Nat.le_refl _) _) (Nat.le_refl _) dk) k
    clear hF HH0 HT hfmt
    go_wp2
    go_ret
    exact ⟨rfl, HW.out⟩

theorem fmtUint_walk (u : Nat) (hu : u < 18446744073709551616) (w : World) (htab : Lib.TabIs Tryd.prog w Tryd.powName .u64 Lib.pow10Tab) :
    Calls Tryd.prog 10 #[.int .u64 u, .int .i64 10] w fun e w' => e = .returned (.string ⟨(Lib.decDigits u).toArray⟩) ∧ Below w.heap.size w w' := by
  have HC : Hid (Calls Tryd.prog 12 #[.int .u64 u, .int .i64 10] w fun e w' => e = .returned (.string ⟨(Lib.decDigits u).toArray⟩) ∧ Below w.heap.size w w') := fmt_walk u hu w htab
  clear htab
  go_enter Tryd.func10, Tryd.ntmps10
  go_wp2_with fail
  refine HC.out.mono ?_
  rintro e w1 ⟨rfl, hb⟩
  have HB : Hid _ := hb
  clear hb HC
  go_wp2
  go_ret
  exact ⟨rfl, HB.out⟩
end Go.Proofs.Qxb6603248aDoor
