/-
  withoutMark (8), ZZwithoutMark (6).
-/
import Derived.Test.Qxb6602152aWb
namespace Go.Proofs.Qxb6602152a
open Go.RowKit
set_option linter.unusedVariables false

theorem conv9 (w : World) (s : ByteArray) : (convert 9 22 (.string s)).run Try.prog w = .ok (.slice (some ⟨w.heap.size, 0, none⟩) s.size (grownCap w s.size 0 5)) (Lib.bytesWorld w 5 s) :=
  Lib.run_convert_string_bytes w 9 22 5 s Try.underlying9 Try.underlying22 Try.underlying5
attribute [local go_sem] conv9

/-- The literal row of the two marks. -/
def marksObj : Obj := .cells #[.string ⟨#[255, 254]⟩, .string ⟨#[254, 255]⟩] 9

set_option maxHeartbeats 2000000 in
theorem without_walk (m b n : Nat) (X : Nat → Int) (w : World) (hm : m < 3) (h : Bys w (some ⟨b, 0, none⟩) n X) (hn : lm m ≤ n) (hX : ∀ i, i < lm m → X i = mk m i) (hb : n ≤ 4000000) :
    Calls Try.prog 8 #[.slice (some ⟨b, 0, none⟩) n n] w fun e w' => Rest w w' n (lm m) X e := by
  have HB : Hid (Bys w (some ⟨b, 0, none⟩) n X) := h
  have HX : Hid (∀ i, i < lm m → X i = mk m i) := hX
  clear h hX
  go_enter Try.func8, Try.ntmps8
  go_wp2_with fail
  go_loopw [9] (fun i wr => ∃ k : Nat, k ≤ 2 ∧ k ≤ m ∧ i = .int .i64 k ∧ Hid (Below (w.heap.size + 1) (w.alloc marksObj) wr)) (fun i _ => 2 - (intOf i).toNat)
  case atStart => exact ⟨0, by omega, by omega, rfl, Below.refl _ _⟩
  case round =>
    obtain ⟨k, hk2, hkm, rfl, HW⟩ := hrel
    have HW0 : Hid (Below w.heap.size w wr) := ((Below.refl _ _).alloc (Nat.le_refl _) _).trans (HW.out.mono (by omega))
    by_cases hlt : k < 2
    · obtain rfl | rfl : k = 0 ∨ k = 1 := by omega
      · have hc : wr.cell? ⟨w.heap.size, 0, none⟩ = some (.string ⟨#[255, 254]⟩) := by
          rw [HW.out.cell (p := ⟨w.heap.size, 0, none⟩) (by show w.heap.size < w.heap.size + 1; omega), marksObj, cell_new]; rfl
        have HW1 : Hid (Below (w.heap.size + 1) (w.alloc marksObj) (Lib.bytesWorld wr 5 ⟨#[255, 254]⟩)) := HW.out.trans ((Lib.bytesWorld_below wr 5 _).mono (by have := HW.out.size; simpa using this))
        have HW2 : Hid (Below w.heap.size w (Lib.bytesWorld wr 5 ⟨#[255, 254]⟩)) := ((Below.refl _ _).alloc (Nat.le_refl _) _).trans (HW1.out.mono (by omega))
        have HC0 : Hid ((Lib.bytesWorld wr 5 ⟨#[255, 254]⟩).cell? ⟨wr.heap.size, 0, none⟩ = some (.int .u8 255)) := Lib.bytesWorld_cell wr 5 ⟨#[255, 254]⟩ 0 (by decide)
        have HC1 : Hid ((Lib.bytesWorld wr 5 ⟨#[255, 254]⟩).cell? ⟨wr.heap.size, 1, none⟩ = some (.int .u8 254)) := Lib.bytesWorld_cell wr 5 ⟨#[255, 254]⟩ 1 (by decide)
        by_cases hmm : m = 0
        · subst hmm
          have HX0 : Hid (X 0 = 255 ∧ X 1 = 254) := ⟨HX.out 0 (by decide), HX.out 1 (by decide)⟩
          go_wp2_with fail
          refine (cut_yes b n wr.heap.size _ X _ (HB.out.below HW2.out (Nat.le_refl _)) hn (by rw [HX0.out.1]; exact HC0.out) (by rw [HX0.out.2]; exact HC1.out)).mono ?_
          rintro e w1 ⟨hw1, a, rfl, hl⟩
          subst w1
          have HL : Hid _ := hl
          clear hl
          go_wp2
          go_ret
          exact ⟨a, n - 2, rfl, HL.out, HW2.out⟩
        · have HX0 : Hid (UInt8.ofNat (255 : Int).toNat ≠ UInt8.ofNat (X 0).toNat) := by
            have h0 := HX.out 0 (by have := lm_bd m; omega)
            obtain rfl | rfl := (by omega : m = 1 ∨ m = 2)
            all_goals (show UInt8.ofNat _ ≠ _; rw [h0]; decide)
          have hn2 : 2 ≤ n := by have := lm_bd m; omega
          go_wp2_with fail
          refine (cut_no b n wr.heap.size _ X 255 254 _ (HB.out.below HW2.out (Nat.le_refl _)) hn2 HC0.out HC1.out HX0.out).mono ?_
          rintro e w1 ⟨rfl, hw1⟩
          subst w1
          go_wp2
          go_roundw
          case rel => exact ⟨1, by omega, by omega, by go_num, HW1⟩
          case measure => simp [intOf]
      · have hc : wr.cell? ⟨w.heap.size, 1, none⟩ = some (.string ⟨#[254, 255]⟩) := by
          rw [HW.out.cell (p := ⟨w.heap.size, 1, none⟩) (by show w.heap.size < w.heap.size + 1; omega), marksObj, cell_new]; rfl
        have HW1 : Hid (Below (w.heap.size + 1) (w.alloc marksObj) (Lib.bytesWorld wr 5 ⟨#[254, 255]⟩)) := HW.out.trans ((Lib.bytesWorld_below wr 5 _).mono (by have := HW.out.size; simpa using this))
        have HW2 : Hid (Below w.heap.size w (Lib.bytesWorld wr 5 ⟨#[254, 255]⟩)) := ((Below.refl _ _).alloc (Nat.le_refl _) _).trans (HW1.out.mono (by omega))
        have HC0 : Hid ((Lib.bytesWorld wr 5 ⟨#[254, 255]⟩).cell? ⟨wr.heap.size, 0, none⟩ = some (.int .u8 254)) := Lib.bytesWorld_cell wr 5 ⟨#[254, 255]⟩ 0 (by decide)
        have HC1 : Hid ((Lib.bytesWorld wr 5 ⟨#[254, 255]⟩).cell? ⟨wr.heap.size, 1, none⟩ = some (.int .u8 255)) := Lib.bytesWorld_cell wr 5 ⟨#[254, 255]⟩ 1 (by decide)
        by_cases hmm : m = 1
        · subst hmm
          have HX0 : Hid (X 0 = 254 ∧ X 1 = 255) := ⟨HX.out 0 (by decide), HX.out 1 (by decide)⟩
          go_wp2_with fail
          refine (cut_yes b n wr.heap.size _ X _ (HB.out.below HW2.out (Nat.le_refl _)) hn (by rw [HX0.out.1]; exact HC0.out) (by rw [HX0.out.2]; exact HC1.out)).mono ?_
          rintro e w1 ⟨hw1, a, rfl, hl⟩
          subst w1
          have HL : Hid _ := hl
          clear hl
          go_wp2
          go_ret
          exact ⟨a, n - 2, rfl, HL.out, HW2.out⟩
        · have HX0 : Hid (UInt8.ofNat (254 : Int).toNat ≠ UInt8.ofNat (X 0).toNat) := by
            have h0 := HX.out 0 (by have := lm_bd m; omega)
            obtain rfl := (by omega : m = 2)
            all_goals (show UInt8.ofNat _ ≠ _; rw [h0]; decide)
          have hn2 : 2 ≤ n := by have := lm_bd m; omega
          go_wp2_with fail
          refine (cut_no b n wr.heap.size _ X 254 255 _ (HB.out.below HW2.out (Nat.le_refl _)) hn2 HC0.out HC1.out HX0.out).mono ?_
          rintro e w1 ⟨rfl, hw1⟩
          subst w1
          go_wp2
          go_roundw
          case rel => exact ⟨2, by omega, by omega, by go_num, HW1⟩
          case measure => simp [intOf]
    · obtain rfl : m = 2 := by omega
      have HX0 : Hid (X 0 = 239 ∧ X 1 = 187 ∧ X 2 = 191) := ⟨HX.out 0 (by decide), HX.out 1 (by decide), HX.out 2 (by decide)⟩
      go_wp2_with fail
      refine (bom_walk b n X wr (HB.out.below HW0.out (Nat.le_refl _)) hn HX0.out.1 HX0.out.2.1 HX0.out.2.2).mono ?_
      rintro e w1 ⟨a, c, rfl, hl, hb1⟩
      have HL : Hid _ := hl
      have HW2 : Hid (Below w.heap.size w w1) := HW0.out.trans (hb1.mono HW0.out.size)
      clear hl hb1
      go_wp2
      go_ret
      exact ⟨a, c, rfl, HL.out, HW2.out⟩

theorem zzwithout_walk (m b n : Nat) (X : Nat → Int) (w : World) (hm : m < 3) (h : Bys w (some ⟨b, 0, none⟩) n X) (hn : lm m ≤ n) (hX : ∀ i, i < lm m → X i = mk m i) (hb : n ≤ 4000000) :
    Calls Try.prog 6 #[.slice (some ⟨b, 0, none⟩) n n] w fun e w' => Rest w w' n (lm m) X e := by
  have HC : Hid (Calls Try.prog 8 #[.slice (some ⟨b, 0, none⟩) n n] w fun e w' => Rest w w' n (lm m) X e) := without_walk m b n X w hm h hn hX hb
  clear h hX
  go_enter Try.func6, Try.ntmps6
  go_wp2_with fail
  refine HC.out.mono ?_
  clear HC
  rintro e w1 ⟨a, c, rfl, hl, hb1⟩
  have HL : Hid _ := hl
  have HW : Hid _ := hb1
  clear hl hb1
  go_wp2
  go_ret
  exact ⟨a, c, rfl, HL.out, HW.out⟩
end Go.Proofs.Qxb6602152a
