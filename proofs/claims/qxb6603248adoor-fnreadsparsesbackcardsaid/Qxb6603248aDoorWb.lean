/-
  zzHasPrefix (9).
-/
import Derived.Test.Qxb6603248aDoorWa
import Derived.Test.Qxb6603248aDoorPlain
import Derived.Lib.Strings
namespace Go.Proofs.Qxb6603248aDoor
open Go.RowKit
set_option linter.unusedVariables false

theorem has_walk (s p : ByteArray) (w : World) (hs : s.size ≤ 9223372036854775807) (hp : p.size ≤ 9223372036854775807) :
    Calls Tryd.prog 9 #[.string s, .string p] w fun e w' => e = .returned (.bool (Lib.hasPrefix s.data.toList p.data.toList)) ∧ w' = w := by
  by_cases hle : p.size ≤ s.size
  · have HR : Hid (((s.extract 0 p.size).toList == p.toList) = Lib.hasPrefix s.data.toList p.data.toList) := by
      show _ = _
      rw [← Lib.hasPrefix_raw]; simp [hle]
    go_enter Tryd.func9, Tryd.ntmps9
    go_wp2
    go_ret
    exact ⟨by rw [← HR.out]; rfl, rfl⟩
  · have HR : Hid (Lib.hasPrefix s.data.toList p.data.toList = false) := by
      show _ = _
      rw [← Lib.hasPrefix_raw]; simp [hle]
    go_enter Tryd.func9, Tryd.ntmps9
    go_wp2
    go_ret
    exact ⟨by rw [HR.out]; rfl, rfl⟩

theorem extract_end (s : ByteArray) (q : Nat) : (s.extract q s.size).data.toList = s.data.toList.drop q := by
  rw [Lib.extract_data, List.take_of_length_le (by simp)]

theorem pre_append (a t : List UInt8) : Lib.hasPrefix (a ++ t) a = true := by simp [Lib.hasPrefix]

/-- The test at place q: yes. -/
theorem has_yes (s p : ByteArray) (q : Nat) (t : List UInt8) (w : World) (hs : s.size ≤ 4000000) (hp : p.size ≤ 100) (h : s.data.toList.drop q = p.data.toList ++ t) :
    Calls Tryd.prog 9 #[.string (s.extract q s.size), .string p] w fun e w' => e = .returned (.bool true) ∧ w' = w := by
  refine (has_walk (s.extract q s.size) p w (by simp [ByteArray.size_extract]; omega) (by omega)).mono ?_
  rintro e w' ⟨rfl, rfl⟩
  exact ⟨by rw [extract_end, h, pre_append], rfl⟩

/-- .. and no: the first bytes differ. -/
theorem has_no (s p : ByteArray) (q : Nat) (c d : UInt8) (t t2 : List UInt8) (w : World) (hs : s.size ≤ 4000000) (hp : p.size ≤ 100) (h : s.data.toList.drop q = c :: t) (h2 : p.data.toList = d :: t2) (hne : d ≠ c) :
    Calls Tryd.prog 9 #[.string (s.extract q s.size), .string p] w fun e w' => e = .returned (.bool false) ∧ w' = w := by
  refine (has_walk (s.extract q s.size) p w (by simp [ByteArray.size_extract]; omega) (by omega)).mono ?_
  rintro e w' ⟨rfl, rfl⟩
  refine ⟨?_, rfl⟩
  rw [extract_end, h, h2]
  show Ending.returned (.bool (d == c && _)) = _
  rw [beq_eq_false_iff_ne.2 hne]; rfl
end Go.Proofs.Qxb6603248aDoor
