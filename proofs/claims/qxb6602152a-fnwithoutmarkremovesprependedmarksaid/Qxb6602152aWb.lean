/-
  bytes.CutPrefix, bytes.TrimPrefix at this call; TrimBOM (10), withoutMark (8), ZZwithoutMark (6).
-/
import Derived.Test.Qxb6602152aWa
import Derived.Lib.SlBytesConst
namespace Go.Proofs.Qxb6602152a
open Go.RowKit
set_option linter.unusedVariables false

/-- The row as a list. -/
def rowOf (n : Nat) (X : Nat → Int) : List Int := (List.range n).map X
theorem rowOf_length (n : Nat) (X : Nat → Int) : (rowOf n X).length = n := by simp [rowOf]
theorem rowOf_getD (n : Nat) (X : Nat → Int) (i : Nat) (h : i < n) : (rowOf n X).getD i 0 = X i := by simp [rowOf, List.getD, h]

theorem rowOf_two (n : Nat) (X : Nat → Int) (h : 2 ≤ n) : ∃ r, rowOf n X = X 0 :: X 1 :: r := by
  obtain ⟨k, rfl⟩ : ∃ k, n = k + 2 := ⟨n - 2, by omega⟩
  exact ⟨_, by simp [rowOf, List.range_succ_eq_map]; rfl⟩
theorem rowOf_three (n : Nat) (X : Nat → Int) (h : 3 ≤ n) : ∃ r, rowOf n X = X 0 :: X 1 :: X 2 :: r := by
  obtain ⟨k, rfl⟩ : ∃ k, n = k + 3 := ⟨n - 3, by omega⟩
  exact ⟨_, by simp [rowOf, List.range_succ_eq_map]; rfl⟩

theorem pre_yes2 (n : Nat) (X : Nat → Int) (h : 2 ≤ n) : Lib.hasPrefix (Lib.bytesOf (rowOf n X)) (Lib.bytesOf [X 0, X 1]) = true := by
  obtain ⟨r, hr⟩ := rowOf_two n X h
  rw [hr]; simp [Lib.hasPrefix, Lib.bytesOf]
theorem pre_yes3 (n : Nat) (X : Nat → Int) (h : 3 ≤ n) : Lib.hasPrefix (Lib.bytesOf (rowOf n X)) (Lib.bytesOf [X 0, X 1, X 2]) = true := by
  obtain ⟨r, hr⟩ := rowOf_three n X h
  rw [hr]; simp [Lib.hasPrefix, Lib.bytesOf]
theorem pre_no2 (n : Nat) (X : Nat → Int) (h : 2 ≤ n) (y z : Int) (hne : UInt8.ofNat y.toNat ≠ UInt8.ofNat (X 0).toNat) : Lib.hasPrefix (Lib.bytesOf (rowOf n X)) (Lib.bytesOf [y, z]) = false := by
  obtain ⟨r, hr⟩ := rowOf_two n X h
  rw [hr]
  show (UInt8.ofNat y.toNat == UInt8.ofNat (X 0).toNat && _) = false
  rw [beq_eq_false_iff_ne.2 hne]; rfl

/-- What is left behind the first L bytes. -/
def Left (w : World) (n L : Nat) (X : Nat → Int) (a : Option Addr) : Prop := Bys w a (n - L) (fun i => X (L + i))

theorem left_of {w : World} {b n L : Nat} {X : Nat → Int} (h : Bys w (some ⟨b, 0, none⟩) n X) (hL : L ≤ n) :
    ∃ a, Lib.sliceFrom b 0 n n L = .slice a (n - L) (n - L) ∧ Left w n L X a := by
  refine ⟨_, rfl, fun i hi => ⟨b, L, ?_, ?_⟩⟩
  · rw [if_neg (by omega)]; simp
  · exact h.cell (L + i) (by omega)

theorem cut_yes (b n b2 d : Nat) (X : Nat → Int) (w : World) (h : Bys w (some ⟨b, 0, none⟩) n X) (hn : 2 ≤ n)
    (h0 : w.cell? ⟨b2, 0, none⟩ = some (.int .u8 (X 0))) (h1 : w.cell? ⟨b2, 1, none⟩ = some (.int .u8 (X 1))) :
    Calls Try.prog 9 #[.slice (some ⟨b, 0, none⟩) n n, .slice (some ⟨b2, 0, none⟩) 2 d] w fun e w' => w' = w ∧ ∃ a, e = .returned (.tuple #[.slice a (n - 2) (n - 2), .bool true]) ∧ Left w n 2 X a := by
  refine (Try.bytes_CutPrefix b 0 n n b2 0 2 d (rowOf n X) [X 0, X 1] w (rowOf_length n X) rfl (Nat.le_refl _) ?_ ?_).mono ?_
  · intro i hi; rw [rowOf_getD n X i hi, Nat.zero_add]; exact h.cell i hi
  · intro i hi
    obtain rfl | rfl : i = 0 ∨ i = 1 := by omega
    · exact h0
    · exact h1
  · rintro e w' ⟨rfl, rfl⟩
    obtain ⟨a, ha, hl⟩ := left_of h hn
    refine ⟨rfl, a, ?_, hl⟩
    rw [Lib.bytesTrimPrefix, pre_yes2 n X hn, if_pos rfl]
    exact congrArg (fun v => Ending.returned (.tuple #[v, .bool true])) ha

theorem cut_no (b n b2 d : Nat) (X : Nat → Int) (y z : Int) (w : World) (h : Bys w (some ⟨b, 0, none⟩) n X) (hn : 2 ≤ n)
    (h0 : w.cell? ⟨b2, 0, none⟩ = some (.int .u8 y)) (h1 : w.cell? ⟨b2, 1, none⟩ = some (.int .u8 z)) (hne : UInt8.ofNat y.toNat ≠ UInt8.ofNat (X 0).toNat) :
    Calls Try.prog 9 #[.slice (some ⟨b, 0, none⟩) n n, .slice (some ⟨b2, 0, none⟩) 2 d] w fun e w' => e = .returned (.tuple #[.slice (some ⟨b, 0, none⟩) n n, .bool false]) ∧ w' = w := by
  refine (Try.bytes_CutPrefix b 0 n n b2 0 2 d (rowOf n X) [y, z] w (rowOf_length n X) rfl (Nat.le_refl _) ?_ ?_).mono ?_
  · intro i hi; rw [rowOf_getD n X i hi, Nat.zero_add]; exact h.cell i hi
  · intro i hi
    obtain rfl | rfl : i = 0 ∨ i = 1 := by omega
    · exact h0
    · exact h1
  · rintro e w' ⟨rfl, rfl⟩
    refine ⟨?_, rfl⟩
    rw [Lib.bytesTrimPrefix, pre_no2 n X hn y z hne]
    rfl

theorem trim_yes (b n b2 d : Nat) (X : Nat → Int) (w : World) (h : Bys w (some ⟨b, 0, none⟩) n X) (hn : 3 ≤ n)
    (h0 : w.cell? ⟨b2, 0, none⟩ = some (.int .u8 (X 0))) (h1 : w.cell? ⟨b2, 1, none⟩ = some (.int .u8 (X 1))) (h2 : w.cell? ⟨b2, 2, none⟩ = some (.int .u8 (X 2))) :
    Calls Try.prog 12 #[.slice (some ⟨b, 0, none⟩) n n, .slice (some ⟨b2, 0, none⟩) 3 d] w fun e w' => w' = w ∧ ∃ a, e = .returned (.slice a (n - 3) (n - 3)) ∧ Left w n 3 X a := by
  refine (Try.bytes_TrimPrefix b 0 n n b2 0 3 d (rowOf n X) [X 0, X 1, X 2] w (rowOf_length n X) rfl (Nat.le_refl _) ?_ ?_).mono ?_
  · intro i hi; rw [rowOf_getD n X i hi, Nat.zero_add]; exact h.cell i hi
  · intro i hi
    obtain rfl | rfl | rfl : i = 0 ∨ i = 1 ∨ i = 2 := by omega
    · exact h0
    · exact h1
    · exact h2
  · rintro e w' ⟨rfl, rfl⟩
    obtain ⟨a, ha, hl⟩ := left_of h hn
    refine ⟨rfl, a, ?_, hl⟩
    rw [Lib.bytesTrimPrefix, pre_yes3 n X hn, if_pos rfl]
    exact congrArg (fun v => Ending.returned v) ha

theorem cell_new (w : World) (cs : Array Value) (t : TypeId) (f : Nat × Nat) (i : Nat) : (w.alloc (.cells cs t f)).cell? ⟨w.heap.size, i, none⟩ = cs[i]? := by
  have h : (w.alloc (.cells cs t f)).heap[w.heap.size]? = some (.cells cs t f) := by
    show (w.heap.push (.cells cs t f))[w.heap.size]? = _
    simp
  unfold World.cell?
  simp only [h]; rfl

/-- How withoutMark ends: the rest behind the mark. -/
def Rest (w w' : World) (n L : Nat) (X : Nat → Int) (e : Ending) : Prop :=
  ∃ a c, e = .returned (.slice a (n - L) c) ∧ Bys w' a (n - L) (fun i => X (L + i)) ∧ Below w.heap.size w w'

theorem bom_walk (b n : Nat) (X : Nat → Int) (w : World) (h : Bys w (some ⟨b, 0, none⟩) n X) (hn : 3 ≤ n) (h0 : X 0 = 239) (h1 : X 1 = 187) (h2 : X 2 = 191) :
    Calls Try.prog 10 #[.slice (some ⟨b, 0, none⟩) n n] w fun e w' => Rest w w' n 3 X e := by
  have HB : Hid (Bys w (some ⟨b, 0, none⟩) n X ∧ X 0 = 239 ∧ X 1 = 187 ∧ X 2 = 191) := ⟨h, h0, h1, h2⟩
  clear h h0 h1 h2
  have hconv := Lib.run_convert_bytes_const (P := Try.prog) w 22 5 #[.int .u8 239, .int .u8 187, .int .u8 191] 3 3 Try.underlying22 Try.underlying5
  go_enter Try.func10, Try.ntmps10
  go_wp2_with fail
  clear hconv
  have hbw : Below w.heap.size w (w.alloc (.cells #[.int .u8 239, .int .u8 187, .int .u8 191] 5 (3, 4))) := (Below.refl _ _).alloc (Nat.le_refl _) _
  refine (trim_yes b n w.heap.size 3 X (w.alloc (.cells #[.int .u8 239, .int .u8 187, .int .u8 191] 5 (3, 4))) (HB.out.1.below hbw (Nat.le_refl _)) hn ?_ ?_ ?_).mono ?_
  · rw [HB.out.2.1, cell_new]; rfl
  · rw [HB.out.2.2.1, cell_new]; rfl
  · rw [HB.out.2.2.2, cell_new]; rfl
  rintro e w1 ⟨hw1, a, rfl, hl⟩
  subst w1
  have HL : Hid _ := hl
  have HW : Hid _ := hbw
  clear hl hbw HB
  go_wp2
  go_ret
  exact ⟨_, _, rfl, HL.out, HW.out⟩
end Go.Proofs.Qxb6602152a
