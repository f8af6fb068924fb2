/-
  zzb1ModelAccepts (10).
-/
import Derived.Test.Qxb6602119aWc
namespace Go.Proofs.Qxb6602119a
open Go.RowKit
set_option linter.unusedVariables false

set_option maxHeartbeats 4000000 in
theorem accepts_walk (ag ah ao : Option Addr) (ng cg h ch no co : Nat) (G H O : Nat → ByteArray) (w : World) (hvg : Strs w ag ng G) (hvh : Strs w ah h H) (hvo : Strs w ao no O) (hng : ng ≤ 4096) (hh : h ≤ 4096) (hno : no ≤ 4096) :
    Calls Try.prog 10 #[.slice ag ng cg, .slice ah h ch, .slice ao no co] w fun e w' => BoolIs (Acc ng h no G H O) e ∧ Drawn w w' := by
  have HG : Hid (Strs w ag ng G) := hvg
  have HH : Hid (Strs w ah h H) := hvh
  have HO : Hid (∀ m s, Calls Try.prog 16 #[.slice ao no co, .string s] (w.drewN m) fun e w' => BoolIs (∃ i, i < no ∧ (O i).toList = s.toList) e ∧ w' = w.drewN m) :=
    fun m s => has_walk ao no co O s (w.drewN m) hvo (by omega)
  clear hvg hvh hvo
  by_cases hle : h ≤ ng
  · have hd1 : decide (ng < h) = false := by simp; omega
    have hd2 : decide ((ng : Int) < (h : Int)) = false := by simp; omega
    go_enter Try.func10, Try.ntmps10
    go_wp2
    go_loopw [8] (fun i wr => ∃ k m : Nat, k ≤ h ∧ wr = w.drewN m ∧ i = .int .i64 k ∧ Hid (∀ q, q < k → (G q).toList = (H q).toList)) (fun i _ => h - (intOf i).toNat)
    case atStart => exact ⟨0, 0, Nat.zero_le _, rfl, rfl, fun q hq => absurd hq (Nat.not_lt_zero _)⟩
    case round =>
      obtain ⟨k, m, hk, rfl, rfl, HN⟩ := hrel
      by_cases hlt : k < h
      · obtain ⟨b, o, rfl, hcg⟩ := HG.out k (by omega)
        obtain ⟨b', o', rfl, hch⟩ := HH.out k hlt
        have hlti : (k : Int) < (ng : Int) := by omega
        have hlth : (k : Int) < (h : Int) := by omega
        have hk0 : (0 : Int) ≤ (k : Int) := by omega
        by_cases he : (G k).toList = (H k).toList
        · have hb : ((G k).toList == (H k).toList) = true := beq_iff_eq.2 he
          have HS : Hid (∀ q, q < k + 1 → (G q).toList = (H q).toList) := up_to HN.out he
          clear he HN
          go_wp2
          go_quiet (fail)
          go_wp2
          go_roundw
          case rel => exact ⟨k + 1, m + nq, by omega, by simp, by go_num, HS⟩
          case measure => simp [intOf]; omega
        · have hb : ((G k).toList == (H k).toList) = false := beq_eq_false_iff_ne.2 he
          have HE : Hid ((G k).toList ≠ (H k).toList) := he
          clear he
          go_wp2
          go_quiet (fail)
          go_wp2
          go_ret
          exact ⟨BoolIs.no (fun hA => HE.out (hA.2.1 k hlt)), Drawn.mk2 _ _ _⟩
      · have HP : Hid (∀ q, q < h → (G q).toList = (H q).toList) := fun q hq => HN.out q (by omega)
        clear HN
        go_wp2
        go_loopw [9] (fun i wr => ∃ k m : Nat, h ≤ k ∧ k ≤ ng ∧ wr = w.drewN m ∧ i = .int .i64 k ∧ Hid (∀ a, h ≤ a → a < k → (∃ j, j < no ∧ (O j).toList = (G a).toList) ∧ ∀ b, a < b → b < ng → (G b).toList ≠ (G a).toList)) (fun i _ => ng - (intOf i).toNat)
        case atStart => exact ⟨h, m, Nat.le_refl _, hle, rfl, rfl, fun q h1 hq => by omega⟩
        case round =>
          clear hlt hk
          obtain ⟨k2, m2, hk1, hk2, rfl, rfl, HN⟩ := hrel
          by_cases hlt : k2 < ng
          · obtain ⟨b, o, rfl, hcg⟩ := HG.out k2 hlt
            go_wp2_with fail
            refine (HO.out m2 (G k2)).mono ?_
            rintro e w1 ⟨⟨r, rfl, hr⟩, hw1⟩
            subst w1
            have HR : Hid (r = true ↔ ∃ i, i < no ∧ (O i).toList = (G k2).toList) := hr
            clear hr
            cases r
            · go_wp2
              go_ret
              refine ⟨BoolIs.no (fun hA => ?_), Drawn.mk _ _⟩
              have h1 := HR.out.2 (hA.2.2 k2 hk1 hlt).1
              cases h1
            · have HI : Hid (∃ i, i < no ∧ (O i).toList = (G k2).toList) := HR.out.1 rfl
              clear HR
              go_wp2
              go_loopw [10] (fun i wr => ∃ k m : Nat, k2 + 1 ≤ k ∧ k ≤ ng ∧ wr = w.drewN m ∧ i = .int .i64 k ∧ Hid (∀ b, k2 + 1 ≤ b → b < k → (G b).toList ≠ (G k2).toList)) (fun i _ => ng - (intOf i).toNat)
              case atStart => exact ⟨k2 + 1, m2, Nat.le_refl _, by omega, rfl, by go_num, fun q h1 hq => by omega⟩
              case round =>
                obtain ⟨k3, m3, hk31, hk32, rfl, rfl, HN3⟩ := hrel
                by_cases hlt3 : k3 < ng
                · obtain ⟨b', o', e', hc3⟩ := HG.out k3 hlt3
                  cases e'
                  have hlti : (k3 : Int) < (ng : Int) := by omega
                  have hk0 : (0 : Int) ≤ (k3 : Int) := by omega
                  have hlti2 : (k2 : Int) < (ng : Int) := by omega
                  have hk02 : (0 : Int) ≤ (k2 : Int) := by omega
                  by_cases he : (G k3).toList = (G k2).toList
                  · have hb : ((G k3).toList == (G k2).toList) = true := beq_iff_eq.2 he
                    have HE : Hid ((G k3).toList = (G k2).toList) := he
                    clear he
                    go_wp2
                    go_quiet (fail)
                    go_wp2
                    go_ret
                    exact ⟨BoolIs.no (fun hA => (hA.2.2 k2 hk1 hlt).2 k3 (by omega) hlt3 HE.out), Drawn.mk2 _ _ _⟩
                  · have hb : ((G k3).toList == (G k2).toList) = false := beq_eq_false_iff_ne.2 he
                    have HS : Hid (∀ q, k2 + 1 ≤ q → q < k3 + 1 → (G q).toList ≠ (G k2).toList) := up_from HN3.out he
                    clear he HN3
                    go_wp2
                    go_quiet (fail)
                    go_wp2
                    go_roundw
                    case rel => exact ⟨k3 + 1, m3 + nq, by omega, by omega, by simp, by go_num, HS⟩
                    case measure => simp [intOf]; omega
                · have HS : Hid (∀ a, h ≤ a → a < k2 + 1 → (∃ j, j < no ∧ (O j).toList = (G a).toList) ∧ ∀ b, a < b → b < ng → (G b).toList ≠ (G a).toList) :=
                    up_from HN.out ⟨HI.out, fun b h1 h2 => HN3.out b (by omega) (by omega)⟩
                  clear HN HN3 HI
                  go_wp2
                  go_roundw
                  case rel => exact ⟨k2 + 1, m3, by omega, by omega, rfl, by go_num, HS⟩
                  case measure => simp [intOf]; omega
          · go_wp2
            go_ret
            exact ⟨BoolIs.yes ⟨hle, HP.out, fun a h1 h2 => HN.out a h1 (by omega)⟩, Drawn.mk _ _⟩
  · go_enter Try.func10, Try.ntmps10
    go_wp2
    go_ret
    exact ⟨BoolIs.no (fun hA => by have := hA.1; omega), Drawn.refl _⟩
end Go.Proofs.Qxb6602119a
