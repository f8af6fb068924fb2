/-
  The model's readers: zzb1ModelSlot (11), zzb1ModelAccepts (10).
-/
import Derived.Test.Qxb6602119aWb
import Derived.Test.Qxb6602119aPlain
namespace Go.Proofs.Qxb6602119a
open Go.RowKit

/-- The ending is the place of column j. -/
def SlotIs (ng h : Nat) (G O : Nat → ByteArray) (j : Nat) (e : Ending) : Prop := ∃ v : Int, -1 ≤ v ∧ v ≤ 9223372036854775807 ∧ e = .returned (.int .i64 v) ∧ IsSlot ng h G O j v
theorem SlotIs.mk {ng h : Nat} {G O : Nat → ByteArray} {j : Nat} {v : Int} (h0 : -1 ≤ v) (h1 : v ≤ 9223372036854775807) (hv : IsSlot ng h G O j v) : SlotIs ng h G O j (.returned (.int .i64 v)) := ⟨v, h0, h1, rfl, hv⟩

theorem up_to {P : Nat → Prop} {k : Nat} (h : ∀ j, j < k → P j) (hk : P k) : ∀ j, j < k + 1 → P j := by
  intro j hj
  rcases Nat.lt_or_ge j k with h' | h'
  · exact h j h'
  · obtain rfl : j = k := by omega
    exact hk
theorem up_from {P : Nat → Prop} {h k : Nat} (hp : ∀ j, h ≤ j → j < k → P j) (hk : P k) : ∀ j, h ≤ j → j < k + 1 → P j := by
  intro j h0 hj
  rcases Nat.lt_or_ge j k with h' | h'
  · exact hp j h0 h'
  · obtain rfl : j = k := by omega
    exact hk

set_option maxHeartbeats 2000000 in
theorem slot_walk (ag ao : Option Addr) (ng cg no co h j : Nat) (G O : Nat → ByteArray) (w : World) (hvg : Strs w ag ng G) (hvo : Strs w ao no O) (hng : ng ≤ 4096) (hno : no ≤ 4096) (hh : h ≤ ng) (hj : j < no) :
    Calls Try.prog 11 #[.slice ag ng cg, .int .i64 h, .slice ao no co, .int .i64 j] w fun e w' => SlotIs ng h G O j e ∧ Drawn w w' := by
  have HG : Hid (Strs w ag ng G) := hvg
  have HO : Hid (Strs w ao no O) := hvo
  clear hvg hvo
  obtain ⟨bo, oo, rfl, hcj⟩ := HO.out j hj
  have hji : (j : Int) < (no : Int) := by omega
  have hj0 : (0 : Int) ≤ (j : Int) := by omega
  go_enter Try.func11, Try.ntmps11
  go_wp2
  go_loopw [9] (fun i wr => ∃ k m : Nat, k ≤ j ∧ wr = w.drewN m ∧ i = .int .i64 k ∧ Hid (∀ q, q < k → (O q).toList ≠ (O j).toList)) (fun i _ => j - (intOf i).toNat)
  case atStart => exact ⟨0, 0, Nat.zero_le _, rfl, rfl, fun q hq => absurd hq (Nat.not_lt_zero _)⟩
  case round =>
    obtain ⟨k, m, hk, rfl, rfl, HN⟩ := hrel
    by_cases hlt : k < j
    · obtain ⟨b', o', e', hck⟩ := HO.out k (by omega)
      cases e'
      have hlti : (k : Int) < (no : Int) := by omega
      have hk0 : (0 : Int) ≤ (k : Int) := by omega
      have hkj : (k : Int) < (j : Int) := by omega
      by_cases he : (O k).toList = (O j).toList
      · have hb : ((O k).toList == (O j).toList) = true := beq_iff_eq.2 he
        have HE : Hid ((O k).toList = (O j).toList) := he
        clear he
        go_wp2
        go_quiet (fail)
        go_wp2
        go_ret
        exact ⟨SlotIs.mk (by omega) (by omega) (.inl ⟨rfl, k, hlt, HE.out⟩), Drawn.mk2 _ _ _⟩
      · have hb : ((O k).toList == (O j).toList) = false := beq_eq_false_iff_ne.2 he
        have HS : Hid (∀ q, q < k + 1 → (O q).toList ≠ (O j).toList) := up_to HN.out he
        clear he HN
        go_wp2
        go_quiet (fail)
        go_wp2
        go_roundw
        case rel => exact ⟨k + 1, m + nq, by omega, by simp, by go_num, HS⟩
        case measure => simp [intOf]; omega
    · have HF : Hid (∀ q, q < j → (O q).toList ≠ (O j).toList) := fun q hq => HN.out q (by omega)
      clear HN
      go_wp2
      go_loopw [10] (fun i wr => ∃ k m : Nat, h ≤ k ∧ k ≤ ng ∧ wr = w.drewN m ∧ i = .int .i64 k ∧ Hid (∀ q, h ≤ q → q < k → (G q).toList ≠ (O j).toList)) (fun i _ => ng - (intOf i).toNat)
      case atStart => exact ⟨h, m, Nat.le_refl _, hh, rfl, rfl, fun q h1 hq => by omega⟩
      case round =>
        clear hlt hk
        obtain ⟨k2, m2, hk1, hk2, rfl, rfl, HN⟩ := hrel
        by_cases hlt : k2 < ng
        · obtain ⟨b', o', rfl, hck⟩ := HG.out k2 hlt
          have hlti : (k2 : Int) < (ng : Int) := by omega
          have hk0 : (0 : Int) ≤ (k2 : Int) := by omega
          by_cases he : (G k2).toList = (O j).toList
          · have hb : ((G k2).toList == (O j).toList) = true := beq_iff_eq.2 he
            have HE : Hid ((G k2).toList = (O j).toList) := he
            clear he
            go_wp2
            go_quiet (fail)
            go_wp2
            go_ret
            exact ⟨SlotIs.mk (by omega) (by omega) (.inr ⟨HF.out, .inr ⟨k2, hk1, hlt, rfl, HE.out, HN.out⟩⟩), Drawn.mk2 _ _ _⟩
          · have hb : ((G k2).toList == (O j).toList) = false := beq_eq_false_iff_ne.2 he
            have HS : Hid (∀ q, h ≤ q → q < k2 + 1 → (G q).toList ≠ (O j).toList) := up_from HN.out he
            clear he HN
            go_wp2
            go_quiet (fail)
            go_wp2
            go_roundw
            case rel => exact ⟨k2 + 1, m2 + nq, by omega, by omega, by simp, by go_num, HS⟩
            case measure => simp [intOf]; omega
        · go_wp2
          go_ret
          exact ⟨SlotIs.mk (by omega) (by omega) (.inr ⟨HF.out, .inl ⟨rfl, fun q h1 h2 => HN.out q h1 (by omega)⟩⟩), Drawn.mk _ _⟩
end Go.Proofs.Qxb6602119a
