/-
  The walks: zzWholeAtLeastOne (6), fmt.Errorf at this call (9), countParam (7).
-/
import Derived.Test.Qxb6602063aFmtStop
import Derived.Test.Qxb6602063aFmtShelf
import Derived.Test.Qxb6602063aFmtPlain
import Derived.WalkKit
import Derived.WalkSmall
import Derived.Below
import Derived.Deep.DeepFit
namespace Go.Proofs.Qxb6602063aFmt
open Go.RowKit Go.Extern.Stop Go.Stop Go.Extern

/-- What zzWholeAtLeastOne hands back. -/
def wholeRet : Option Nat → Value
  | some v => .tuple #[.int .i64 v, .bool true]
  | none => .tuple #[.int .i64 0, .bool false]

theorem drop_cons (s : ByteArray) (k : Nat) (h : k < s.size) : s.data.toList.drop k = s[k] :: s.data.toList.drop (k + 1) := by
  rw [List.drop_eq_getElem_cons (by simpa using h)]; rfl

theorem list_cons (s : ByteArray) (h : 0 < s.size) : s.data.toList = s[0] :: s.data.toList.drop 1 := by
  have := drop_cons s 0 h
  simpa using this

set_option maxHeartbeats 2000000 in
theorem whole_walk (s : ByteArray) (w : World) (hs : s.size ≤ 281474976710656) :
    Calls Tryf.prog 6 #[.string s] w fun e w' => e = .returned (wholeRet (whole s.data.toList)) ∧ w' = w := by
  by_cases h0 : s.size = 0
  · have e : Hid (s.data.toList = []) := by
      apply List.eq_nil_of_length_eq_zero; simpa using h0
    go_enter Tryf.func6, Tryf.ntmps6
    go_wp2
    go_ret2
    exact ⟨by rw [e.out]; rfl, rfl⟩
  · have hlt0 : 0 < s.size := by omega
    have HL : Hid (s.data.toList = s[0] :: s.data.toList.drop 1) := list_cons s hlt0
    by_cases h45 : s[0].toNat = 45
    · have h45' : (((s[0].toNat : Nat) : Int) == 45) = true := by rw [h45]; rfl
      have HR : Hid (whole s.data.toList = none) := by show _ = _; rw [HL.out]; exact whole_minus _ _ h45
      clear h45
      go_enter Tryf.func6, Tryf.ntmps6
      go_wp2
      go_ret2
      exact ⟨by rw [HR.out]; rfl, rfl⟩
    · have h45' : (((s[0].toNat : Nat) : Int) == 45) = false := by
        rw [beq_eq_false_iff_ne]; omega
      have HJ : Hid (∃ j : Nat, j ≤ 1 ∧ ((((s[0].toNat : Nat) : Int) == 43) = true ∧ j = 1 ∨ (((s[0].toNat : Nat) : Int) == 43) = false ∧ j = 0) ∧ whole s.data.toList = wholeTail (s.data.toList.drop j)) := by
        show Exists _
        by_cases h43 : s[0].toNat = 43
        · exact ⟨1, by omega, .inl ⟨by rw [h43]; rfl, rfl⟩, by rw [HL.out]; exact whole_plus _ _ h43⟩
        · exact ⟨0, by omega, .inr ⟨by rw [beq_eq_false_iff_ne]; omega, rfl⟩, by rw [HL.out]; exact whole_plain _ _ h45 h43⟩
      clear h45
      obtain ⟨j, hj, hcase, hw0⟩ := HJ.out
      have HW : Hid (whole s.data.toList = wholeTail (s.data.toList.drop j)) := hw0
      clear hw0 HJ HL
      by_cases hjs : j = s.size
      · have HN : Hid (whole s.data.toList = none) := by
          show _ = _
          rw [HW.out, List.drop_of_length_le (by simp; omega)]; exact tail_nil
        obtain ⟨h43, rfl⟩ | ⟨h43, rfl⟩ := hcase
        · have hone : ((1 : Int) == (s.size : Int)) = true := by rw [beq_iff_eq]; omega
          go_enter Tryf.func6, Tryf.ntmps6
          go_wp2
          go_ret2
          exact ⟨by rw [HN.out]; rfl, rfl⟩
        · omega
      · have hjl : j < s.size := by omega
        clear hjs
        generalize hlj : s.data.toList.drop j = lj at HW
        have HLJ : Hid (s.data.toList.drop j = lj) := hlj
        have hne : Hid (lj ≠ []) := by
          show _ ≠ _
          rw [← HLJ.out]; intro e
          have := congrArg List.length e
          simp at this; omega
        clear hlj
        obtain ⟨h43, rfl⟩ | ⟨h43, rfl⟩ := hcase
        all_goals
          go_enter Tryf.func6, Tryf.ntmps6
          go_wp2_with fail
          go_loop [4, 5] (fun i v => ∃ k n : Nat, k ≤ s.size ∧ n ≤ 9223372036854775807 ∧ i = .int .i64 k ∧ v = .int .i64 n ∧ Hid (digs n (s.data.toList.drop k) = digs 0 lj)) (fun i _ => s.size - (intOf i).toNat)
          case atStart => first | exact ⟨1, 0, by omega, by omega, rfl, rfl, by show _ = _; rw [HLJ.out]⟩ | exact ⟨0, 0, by omega, by omega, rfl, rfl, by show _ = _; rw [HLJ.out]⟩
          case round =>
            obtain ⟨k, n, hk, hn, rfl, rfl, HD⟩ := hrel
            by_cases hlt : k < s.size
            · have HC : Hid (s.data.toList.drop k = s[k] :: s.data.toList.drop (k + 1)) := drop_cons s k hlt
              generalize hc : s[k].toNat = c at *
              by_cases hlo : c < 48
              · have hlo' : (c : Int) < 48 := by omega
                have HN : Hid (whole s.data.toList = none) := by
                  show _ = _
                  rw [HW.out]; refine tail_none ?_
                  rw [← HD.out, HC.out]; exact digs_low _ _ _ (by rw [hc]; exact hlo)
                go_wp2
                go_ret2
                exact ⟨by rw [HN.out]; rfl, rfl⟩
              · by_cases hhi : 57 < c
                · have hlo' : ¬ (c : Int) < 48 := by omega
                  have hhi' : (57 : Int) < (c : Int) := by omega
                  have HN : Hid (whole s.data.toList = none) := by
                    show _ = _
                    rw [HW.out]; refine tail_none ?_
                    rw [← HD.out, HC.out]; exact digs_high _ _ _ (by rw [hc]; exact hhi)
                  go_wp2
                  go_ret2
                  exact ⟨by rw [HN.out]; rfl, rfl⟩
                · obtain ⟨d, rfl⟩ : ∃ d, c = 48 + d := ⟨c - 48, by omega⟩
                  have hd : d ≤ 9 := by omega
                  have hlo' : ¬ ((48 + d : Nat) : Int) < 48 := by omega
                  have hhi' : ¬ (57 : Int) < ((48 + d : Nat) : Int) := by omega
                  by_cases ho : (9223372036854775807 - d) / 10 < n
                  · have HN : Hid (whole s.data.toList = none) := by
                      show _ = _
                      rw [HW.out]; refine tail_none ?_
                      rw [← HD.out, HC.out]; exact digs_over _ _ _ (by rw [hc]; omega) (by rw [hc]; omega)
                    go_wp2
                    go_ret2
                    exact ⟨by rw [HN.out]; rfl, rfl⟩
                  · have HS : Hid (digs (n * 10 + d) (s.data.toList.drop (k + 1)) = digs 0 lj) := by
                      show _ = _
                      rw [← HD.out, HC.out, digs_step _ _ _ (by rw [hc]; omega) (by rw [hc]; omega), hc]
                      congr 1; omega
                    clear HD HC
                    go_wp2
                    go_round
                    case rel => exact ⟨_, _, _, _, ⟨k + 1, by omega, n * 10 + d, by omega, rfl, rfl, HS⟩, rfl, rfl, by go_num, by go_num⟩
                    case measure => simp [intOf]; omega
            · have HE : Hid (digs 0 lj = some n) := by
                show _ = _
                rw [← HD.out, List.drop_of_length_le (by simp; omega)]; rfl
              by_cases hn1 : n < 1
              · have HN : Hid (whole s.data.toList = none) := by
                  show _ = _
                  rw [HW.out]; exact tail_small HE.out hn1
                go_wp2
                go_ret2
                exact ⟨by rw [HN.out]; rfl, rfl⟩
              · have HN : Hid (whole s.data.toList = some n) := by
                  show _ = _
                  rw [HW.out]; exact tail_some hne.out HE.out hn1
                go_wp2
                go_ret2
                exact ⟨by rw [HN.out]; rfl, rfl⟩
end Go.Proofs.Qxb6602063aFmt
