/-
  The readers: zzb1Has (16), slices.Equal (17), slices.Index (18).
-/
import Derived.Test.Qxb6602119aRows
import Derived.WalkKit
import Derived.WalkSmall
import Derived.Below
import Derived.Deep.DeepFit
import Derived.Deep.QuietTactic
import Derived.BigQuiet
namespace Go.Proofs.Qxb6602119a
open Go.RowKit

/-- The slice's first n cells hold the strings X 0, X 1, .. -/
def Strs (w : World) (a : Option Addr) (n : Nat) (X : Nat → ByteArray) : Prop :=
  ∀ i, i < n → ∃ b off, a = some ⟨b, off, none⟩ ∧ w.cell? ⟨b, off + i, none⟩ = some (.string (X i))

/-- The ending is a bool that says whether P holds. -/
def BoolIs (P : Prop) (e : Ending) : Prop := ∃ r : Bool, e = .returned (.bool r) ∧ (r = true ↔ P)
theorem BoolIs.yes {P : Prop} (h : P) : BoolIs P (.returned (.bool true)) := ⟨true, rfl, fun _ => h, fun _ => rfl⟩
theorem BoolIs.no {P : Prop} (h : ¬ P) : BoolIs P (.returned (.bool false)) := ⟨false, rfl, fun e => by (cases e), fun p => absurd p h⟩

/-- The two rows hold the same strings. -/
def SameStrs (n1 n2 : Nat) (X Y : Nat → ByteArray) : Prop := n1 = n2 ∧ ∀ i, i < n1 → (X i).toList = (Y i).toList

/-- w' is w behind some draws. -/
def Drawn (w w' : World) : Prop := ∃ m, w' = w.drewN m
theorem Drawn.refl (w : World) : Drawn w w := ⟨0, rfl⟩
theorem Drawn.mk (w : World) (m : Nat) : Drawn w (w.drewN m) := ⟨m, rfl⟩
theorem Drawn.mk2 (w : World) (m k : Nat) : Drawn w ((w.drewN m).drewN k) := ⟨m + k, by simp⟩

theorem Strs.drewN {w : World} {a : Option Addr} {n : Nat} {X : Nat → ByteArray} (h : Strs w a n X) (m : Nat) : Strs (w.drewN m) a n X := h

set_option maxHeartbeats 1000000 in
theorem has_walk (a : Option Addr) (n c : Nat) (X : Nat → ByteArray) (s : ByteArray) (w : World) (hv : Strs w a n X) (hn : n ≤ 9223372036854775807) :
    Calls Try.prog 16 #[.slice a n c, .string s] w fun e w' => BoolIs (∃ i, i < n ∧ (X i).toList = s.toList) e ∧ w' = w := by
  have HV : Hid (Strs w a n X) := hv
  clear hv
  go_enter Try.func16, Try.ntmps16
  go_wp2
  go_loop [5] (fun i => ∃ k : Nat, k ≤ n ∧ i = .int .i64 k ∧ Hid (∀ j, j < k → (X j).toList ≠ s.toList)) (fun i => n - (intOf i).toNat)
  case atStart => exact ⟨0, Nat.zero_le _, rfl, fun j hj => absurd hj (Nat.not_lt_zero _)⟩
  case round =>
    obtain ⟨k, hk, rfl, HN⟩ := hrel
    by_cases hlt : k < n
    · obtain ⟨b, off, rfl, hc⟩ := HV.out k hlt
      by_cases he : (X k).toList = s.toList
      · have hb : ((X k).toList == s.toList) = true := beq_iff_eq.2 he
        have HE : Hid ((X k).toList = s.toList) := he
        clear he
        go_wp2
        go_ret
        exact ⟨BoolIs.yes ⟨k, hlt, HE.out⟩, rfl⟩
      · have hb : ((X k).toList == s.toList) = false := beq_eq_false_iff_ne.2 he
        have HS : Hid (∀ j, j < k + 1 → (X j).toList ≠ s.toList) := by
          intro j hj
          rcases Nat.lt_or_ge j k with h | h
          · exact HN.out j h
          · obtain rfl : j = k := by omega
            exact he
        clear he HN
        go_wp2
        go_round
        case rel => exact ⟨k + 1, by omega, by go_num, HS⟩
        case measure => simp [intOf]; omega
    · go_wp2
      go_ret
      refine ⟨BoolIs.no ?_, rfl⟩
      rintro ⟨i, hi, he⟩
      exact absurd he (HN.out i (by omega))

set_option maxHeartbeats 1000000 in
theorem index_walk (a : Option Addr) (n c : Nat) (X : Nat → ByteArray) (s : ByteArray) (w : World) (hv : Strs w a n X) (hn : n ≤ 9223372036854775807) :
    Calls Try.prog 18 #[.slice a n c, .string s] w fun e w' => w' = w ∧
      ((e = .returned (.int .i64 (-1)) ∧ ∀ j, j < n → (X j).toList ≠ s.toList) ∨
       ∃ i : Nat, i < n ∧ e = .returned (.int .i64 i) ∧ (X i).toList = s.toList ∧ ∀ j, j < i → (X j).toList ≠ s.toList) := by
  have HV : Hid (Strs w a n X) := hv
  clear hv
  go_enter Try.func18, Try.ntmps18
  go_wp2
  go_loop [8] (fun i => ∃ k : Nat, k ≤ n ∧ i = .int .i64 k ∧ Hid (∀ j, j < k → (X j).toList ≠ s.toList)) (fun i => n - (intOf i).toNat)
  case atStart => exact ⟨0, Nat.zero_le _, rfl, fun j hj => absurd hj (Nat.not_lt_zero _)⟩
  case round =>
    obtain ⟨k, hk, rfl, HN⟩ := hrel
    by_cases hlt : k < n
    · obtain ⟨b, off, rfl, hc⟩ := HV.out k hlt
      by_cases he : (X k).toList = s.toList
      · have hb : (s.toList == (X k).toList) = true := beq_iff_eq.2 he.symm
        have HE : Hid ((X k).toList = s.toList) := he
        clear he
        go_wp2
        go_ret
        exact ⟨rfl, .inr ⟨k, hlt, rfl, HE.out, HN.out⟩⟩
      · have hb : (s.toList == (X k).toList) = false := beq_eq_false_iff_ne.2 (fun h => he h.symm)
        have HS : Hid (∀ j, j < k + 1 → (X j).toList ≠ s.toList) := by
          intro j hj
          rcases Nat.lt_or_ge j k with h | h
          · exact HN.out j h
          · obtain rfl : j = k := by omega
            exact he
        clear he HN
        go_wp2
        go_round
        case rel => exact ⟨k + 1, by omega, by go_num, HS⟩
        case measure => simp [intOf]; omega
    · go_wp2
      go_ret
      exact ⟨rfl, .inl ⟨rfl, fun j hj => HN.out j (by omega)⟩⟩

set_option maxHeartbeats 1000000 in
theorem equal_walk (a1 a2 : Option Addr) (n1 c1 n2 c2 : Nat) (X Y : Nat → ByteArray) (w : World) (hv1 : Strs w a1 n1 X) (hv2 : Strs w a2 n2 Y) (hn1 : n1 ≤ 9223372036854775807) (hn2 : n2 ≤ 9223372036854775807) :
    Calls Try.prog 17 #[.slice a1 n1 c1, .slice a2 n2 c2] w fun e w' => BoolIs (SameStrs n1 n2 X Y) e ∧ Drawn w w' := by
  have HV1 : Hid (Strs w a1 n1 X) := hv1
  have HV2 : Hid (Strs w a2 n2 Y) := hv2
  clear hv1 hv2
  by_cases hne : n1 = n2
  · subst hne
    go_enter Try.func17, Try.ntmps17
    go_wp2
    go_loopw [13] (fun i wr => ∃ k m : Nat, k ≤ n1 ∧ wr = w.drewN m ∧ i = .int .i64 k ∧ Hid (∀ j, j < k → (X j).toList = (Y j).toList)) (fun i _ => n1 - (intOf i).toNat)
    case atStart => exact ⟨0, 0, Nat.zero_le _, rfl, rfl, fun j hj => absurd hj (Nat.not_lt_zero _)⟩
    case round =>
      obtain ⟨k, m, hk, rfl, rfl, HN⟩ := hrel
      by_cases hlt : k < n1
      · obtain ⟨b, off, rfl, hc⟩ := HV1.out k hlt
        obtain ⟨b', off', rfl, hc'⟩ := HV2.out k hlt
        have hlti : (k : Int) < (n1 : Int) := by omega
        have hk0 : (0 : Int) ≤ (k : Int) := by omega
        by_cases he : (X k).toList = (Y k).toList
        · have hb : ((X k).toList == (Y k).toList) = true := beq_iff_eq.2 he
          have HS : Hid (∀ j, j < k + 1 → (X j).toList = (Y j).toList) := by
            intro j hj
            rcases Nat.lt_or_ge j k with h | h
            · exact HN.out j h
            · obtain rfl : j = k := by omega
              exact he
          clear he HN
          go_wp2
          go_quiet (fail)
          go_wp2
          go_roundw
          case rel => exact ⟨k + 1, m + nq, by omega, by simp, by go_num, HS⟩
          case measure => simp [intOf]; omega
        · have hb : ((X k).toList == (Y k).toList) = false := beq_eq_false_iff_ne.2 he
          have HE : Hid ((X k).toList ≠ (Y k).toList) := he
          clear he
          go_wp2
          go_quiet (fail)
          go_wp2
          go_ret
          exact ⟨BoolIs.no (fun h => HE.out (h.2 k hlt)), Drawn.mk2 _ _ _⟩
      · go_wp2
        go_ret
        exact ⟨BoolIs.yes ⟨rfl, fun i hi => HN.out i (by omega)⟩, Drawn.mk _ _⟩
  · have hneb : ((n1 : Int) != (n2 : Int)) = true := by rw [bne_iff_ne]; omega
    have HNE : Hid (¬ n1 = n2) := hne
    clear hne
    go_enter Try.func17, Try.ntmps17
    go_wp2
    go_ret
    exact ⟨BoolIs.no (fun h => HNE.out h.1), Drawn.refl _⟩
end Go.Proofs.Qxb6602119a
