/-
  ZZplaceColumns (9) and the law (3).
-/
import Derived.Test.Qxb6602119aWf
namespace Go.Proofs.Qxb6602119a
open Go.RowKit
set_option linter.unusedVariables false
attribute [local go_sem] eql25

theorem zzplace_walk (ag ah ao : Option Addr) (ng h no : Nat) (G H O : Nat → ByteArray) (w : World) (hvg : Strs w ag ng G) (hvh : Strs w ah h H) (hvo : Strs w ao no O) (hng : ng ≤ 4096) (hh : h ≤ 4096) (hno : no ≤ 4096)
    (hfg : ag = none ∧ ng = 0 ∨ ∃ b, ag = some ⟨b, 0, none⟩) :
    Calls Try.prog 9 #[.slice ag ng ng, .slice ah h h, .slice ao no no] w fun e w' => Placed ng h no G H O w w' e := by
  have HP : Hid (Calls Try.prog 15 #[.slice ag ng ng, .slice ah h h, .slice ao no no] w fun e w' => Placed ng h no G H O w w' e) := place_walk ag ah ao ng h no G H O w hvg hvh hvo hng hh hno hfg
  clear hvg hvh hvo hfg
  go_enter Try.func9, Try.ntmps9
  go_wp2_with fail
  refine HP.out.mono ?_
  clear HP
  rintro e w1 ⟨hb, ⟨hn, rfl⟩ | ⟨ha, B, wh, rfl, hw⟩⟩
  · have HB : Hid (Below w.heap.size w w1) := hb
    have HN : Hid (¬ Acc ng h no G H O) := hn
    clear hb hn
    go_wp2
    go_ret2
    exact ⟨HB.out, .inl ⟨HN.out, rfl⟩⟩
  · have HB : Hid (Below w.heap.size w w1) := hb
    have HA : Hid (Acc ng h no G H O) := ha
    have HW : Hid _ := hw
    clear hb ha hw
    go_wp2
    go_ret2
    exact ⟨HB.out, .inr ⟨HA.out, B, wh, rfl, HW.out⟩⟩

theorem slot_at2 {args : Array Value} {w : World} {v : Value} (m : Nat) (h : ∀ n, Calls Try.prog 11 args ((w.drewN m).drewN n) fun e w' => e = .returned v ∧ ∃ k, w' = (w.drewN m).drewN k) (n : Nat) :
    Calls Try.prog 11 args (w.drewN (m + n)) fun e w' => e = .returned v ∧ ∃ k, w' = w.drewN (m + k) := by
  have h1 := h n
  simp only [World.drewN_drewN] at h1
  exact h1

theorem slot_at (ag ao : Option Addr) (ng cg no co h j : Nat) (G O : Nat → ByteArray) (w : World) (hvg : Strs w ag ng G) (hvo : Strs w ao no O) (hng : ng ≤ 4096) (hno : no ≤ 4096) (hh : h ≤ ng) (hj : j < no) (v : Int) (hs : IsSlot ng h G O j v) (n : Nat) :
    Calls Try.prog 11 #[.slice ag ng cg, .int .i64 h, .slice ao no co, .int .i64 j] (w.drewN n) fun e w' => e = .returned (.int .i64 v) ∧ ∃ m, w' = w.drewN m := by
  refine (slot_walk ag ao ng cg no co h j G O (w.drewN n) (hvg.drewN n) (hvo.drewN n) hng hno hh hj).mono ?_
  rintro e w' ⟨⟨v', _, _, rfl, hv⟩, m, rfl⟩
  exact ⟨by rw [hs.unique hv], n + m, by simp⟩

set_option maxHeartbeats 4000000 in
theorem law_walk (a1 a2 a3 : Option Addr) (n1 c1 n2 c2 n3 c3 : Nat) (G H O : Nat → ByteArray) (w : World) (hv1 : Strs w a1 n1 G) (hv2 : Strs w a2 n2 H) (hv3 : Strs w a3 n3 O)
    (hn1 : n1 ≤ 9223372036854775807) (hn2 : n2 ≤ 9223372036854775807) (hn3 : n3 ≤ 9223372036854775807)
    (hz1 : a1 = none → n1 = 0 ∧ c1 = 0) (hz2 : a2 = none → n2 = 0 ∧ c2 = 0) (hz3 : a3 = none → n3 = 0 ∧ c3 = 0) :
    Calls Try.prog 3 #[.slice a1 n1 c1, .slice a2 n2 c2, .slice a3 n3 c3] w fun e w' => e = .returned (.bool true) ∧ Below w.heap.size w w' := by
  have H6 : Hid (Calls Try.prog 6 #[.slice a1 n1 c1, .slice a2 n2 c2, .slice a3 n3 c3] w fun e w' => SomeBool e ∧ w' = w) := bytes_walk a1 a2 a3 n1 c1 n2 c2 n3 c3 G H O w hv1 hv2 hv3 hn1 hn2 hn3
  have H7 : Hid (Calls Try.prog 7 #[.slice a1 n1 c1, .slice a2 n2 c2, .slice a3 n3 c3] w fun e w' => SmallPost n1 n2 n3 e ∧ w' = w) := small_walk a1 a2 a3 n1 c1 n2 c2 n3 c3 G H O w hv1 hv2 hv3 hn1 hn2 hn3
  have S1 : Hid (Strs w a1 n1 G ∧ (a1 = none → n1 = 0 ∧ c1 = 0)) := ⟨hv1, hz1⟩
  have S2 : Hid (Strs w a2 n2 H ∧ (a2 = none → n2 = 0 ∧ c2 = 0)) := ⟨hv2, hz2⟩
  have S3 : Hid (Strs w a3 n3 O ∧ (a3 = none → n3 = 0 ∧ c3 = 0)) := ⟨hv3, hz3⟩
  clear hv1 hv2 hv3 hz1 hz2 hz3
  go_enter Try.func3, Try.ntmps3
  go_wp2_with fail
  refine H6.out.mono ?_
  clear H6
  rintro e w1 ⟨⟨r, rfl⟩, hw1⟩
  subst w1
  cases r
  · go_wp2
    go_ret
    exact ⟨rfl, Below.refl _ _⟩
  go_wp2_with fail
  refine H7.out.mono ?_
  clear H7
  rintro e w1 ⟨⟨r, rfl, hsm⟩, hw1⟩
  subst w1
  cases r
  · clear hsm
    go_wp2
    go_ret
    exact ⟨rfl, Below.refl _ _⟩
  obtain ⟨l1, l2, l3⟩ := hsm rfl
  clear hsm hn1 hn2 hn3
  go_wp2_with fail
  refine (clone_walk a1 n1 c1 G w S1.out.1 l1 S1.out.2).mono ?_
  clear S1
  rintro e w1 ⟨b1, rfl, t1, bw1, f1⟩
  have T1 : Hid (Strs w1 b1 n1 G) := t1
  have F1 : Hid (b1 = none ∧ n1 = 0 ∨ ∃ b, b1 = some ⟨b, 0, none⟩) := f1
  have B1 : Hid (Below w.heap.size w w1) := bw1
  clear t1 f1 bw1
  go_wp2_with fail
  refine (clone_walk a2 n2 c2 H w1 (S2.out.1.below B1.out (Nat.le_refl _)) l2 S2.out.2).mono ?_
  clear S2
  rintro e w2 ⟨b2, rfl, t2, bw2, f2⟩
  have T2 : Hid (Strs w2 b2 n2 H) := t2
  have B2 : Hid (Below w.heap.size w w2) := B1.out.trans (bw2.mono B1.out.size)
  have T1' : Hid (Strs w2 b1 n1 G) := T1.out.below bw2 (Nat.le_refl _)
  clear t2 f2 bw2 T1 B1
  go_wp2_with fail
  refine (clone_walk a3 n3 c3 O w2 (S3.out.1.below B2.out (Nat.le_refl _)) l3 S3.out.2).mono ?_
  clear S3
  rintro e w3 ⟨b3, rfl, t3, bw3, f3⟩
  have T3 : Hid (Strs w3 b3 n3 O) := t3
  have B3 : Hid (Below w.heap.size w w3) := B2.out.trans (bw3.mono B2.out.size)
  have T1 : Hid (Strs w3 b1 n1 G) := T1'.out.below bw3 (Nat.le_refl _)
  have T2' : Hid (Strs w3 b2 n2 H) := T2.out.below bw3 (Nat.le_refl _)
  clear t3 f3 bw3 T1' T2 B2
  go_wp2_with fail
  refine (zzplace_walk b1 b2 b3 n1 n2 n3 G H O w3 T1.out T2'.out T3.out l1 l2 l3 F1.out).mono ?_
  rintro e w4 ⟨hb4, hcase⟩
  have A1 : Hid (Strs w4 b1 n1 G) := T1.out.below hb4 (Nat.le_refl _)
  have A3 : Hid (Strs w4 b3 n3 O) := T3.out.below hb4 (Nat.le_refl _)
  have B4 : Hid (Below w.heap.size w w4) := B3.out.trans (hb4.mono B3.out.size)
  have HC : Hid (Calls Try.prog 10 #[.slice b1 n1 n1, .slice b2 n2 n2, .slice b3 n3 n3] w4 fun e w' => BoolIs (Acc n1 n2 n3 G H O) e ∧ Drawn w4 w') :=
    accepts_walk b1 b2 b3 n1 n1 n2 n2 n3 n3 G H O w4 (T1.out.below hb4 (Nat.le_refl _)) (T2'.out.below hb4 (Nat.le_refl _)) (T3.out.below hb4 (Nat.le_refl _)) l1 l2 l3
  clear hb4 T1 T2' T3 B3 F1
  rcases hcase with ⟨hn, rfl⟩ | ⟨ha, B, wh, rfl, hcw, hpre, hsl⟩
  · have HN : Hid (¬ Acc n1 n2 n3 G H O) := hn
    clear hn
    go_wp2_with fail
    refine HC.out.mono ?_
    clear HC
    rintro e w5 ⟨⟨r, rfl, hr⟩, hw5⟩
    obtain ⟨m, rfl⟩ := hw5
    have hrf : r = false := by
      cases r
      · rfl
      · exact absurd (hr.1 rfl) HN.out
    clear hr
    subst r
    go_wp2
    go_ret
    exact ⟨rfl, below_drewN B4.out _⟩
  · have HA : Hid (Acc n1 n2 n3 G H O) := ha
    have HW : Hid ((∀ i, i < n2 + n3 → w4.cell? ⟨B, i, none⟩ = some (.int .i64 (wh.getD i 0))) ∧ (∀ i, i < n2 → wh.getD i 0 = (i : Int)) ∧ ∀ j, j < n3 → IsSlot n1 n2 G O j (wh.getD (n2 + j) 0)) := ⟨hcw, hpre, hsl⟩
    clear ha hcw hpre hsl
    have hle : n2 ≤ n1 := HA.out.1
    go_wp2_with fail
    refine HC.out.mono ?_
    clear HC
    rintro e w5 ⟨⟨r, rfl, hr⟩, hw5⟩
    obtain ⟨m, rfl⟩ := hw5
    have hrf : r = true := hr.2 HA.out
    clear hr
    subst r
    go_wp2_with fail
    go_loop [10] (fun i => ∃ k : Nat, k ≤ n2 ∧ i = .int .i64 k) (fun i => n2 - (intOf i).toNat)
    case atStart => exact ⟨0, Nat.zero_le _, rfl⟩
    case round =>
      obtain ⟨k, hk, rfl⟩ := hrel
      by_cases hlt : k < n2
      · have hc : w4.cell? ⟨B, k, none⟩ = some (.int .i64 (k : Int)) := by
          rw [HW.out.1 k (by omega), HW.out.2.1 k hlt]
        go_wp2
        go_round
        case rel => exact ⟨k + 1, by omega, by go_num⟩
        case measure => simp [intOf]; omega
      · go_wp2
        clear hlt hk
        go_loopw [11] (fun i wr => ∃ q m : Nat, q ≤ n3 ∧ i = .int .i64 q ∧ wr = w4.drewN m) (fun i _ => n3 - (intOf i).toNat)
        case atStart => exact ⟨0, m, Nat.zero_le _, rfl, rfl⟩
        case round =>
          obtain ⟨q, m2, hq, rfl, rfl⟩ := hrel
          by_cases hlt : q < n3
          · have hcq := HW.out.1 (n2 + q) (by omega)
            have hsq := HW.out.2.2 q hlt
            generalize hx : wh.getD (n2 + q) 0 = x at hcq hsq
            clear hx
            have HS : Hid (∀ n, Calls Try.prog 11 #[.slice b1 n1 n1, .int .i64 n2, .slice b3 n3 n3, .int .i64 q] ((w4.drewN m2).drewN n) fun e w' => e = .returned (.int .i64 x) ∧ ∃ m, w' = (w4.drewN m2).drewN m) :=
              fun n => slot_at b1 b3 n1 n1 n3 n3 n2 q G O (w4.drewN m2) (A1.out.drewN m2) (A3.out.drewN m2) l1 l3 hle hlt x hsq n
            clear hsq
            have hq0 : (0 : Int) ≤ (q : Int) := by omega
            have hqi : (q : Int) < (n3 : Int) := by omega
            have hx0 : (n2 : Int) + (q : Int) < (n2 : Int) + (n3 : Int) := by omega
            have hx1 : (0 : Int) ≤ (n2 : Int) + (q : Int) := by omega
            go_wp2
            go_quiet ((go_at_call 11; first | exact slot_at2 m2 HS.out _ | exact HS.out _))
            go_wp2
            go_roundw
            case rel => exact ⟨q + 1, m2 + nq, by omega, by go_num, by simp⟩
            case measure => simp [intOf]; omega
          · go_wp2
            go_ret
            exact ⟨rfl, below_drewN B4.out _⟩
end Go.Proofs.Qxb6602119a
