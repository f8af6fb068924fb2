/-
  placeColumns (15).
-/
import Derived.Test.Qxb6602119aWe
namespace Go.Proofs.Qxb6602119a
open Go.RowKit
set_option linter.unusedVariables false

/-- How placeColumns ends. -/
def Placed (ng h no : Nat) (G H O : Nat → ByteArray) (w w' : World) (e : Ending) : Prop :=
  Below w.heap.size w w' ∧
  ((¬ Acc ng h no G H O ∧ e = .returned (.tuple #[.slice none 0 0, .bool false])) ∨
   (Acc ng h no G H O ∧ ∃ (B : Nat) (wh : List Int), e = .returned (.tuple #[.slice (some ⟨B, 0, none⟩) (h + no) (h + no), .bool true]) ∧
     (∀ i, i < h + no → w'.cell? ⟨B, i, none⟩ = some (.int .i64 (wh.getD i 0))) ∧ (∀ i, i < h → wh.getD i 0 = (i : Int)) ∧ ∀ j, j < no → IsSlot ng h G O j (wh.getD (h + j) 0)))

/-- The row 'where' behind k rounds of the first loop; behind q rounds of the second. -/
def cells1 (k : Nat) : List Value := (List.range k).map fun i => .int .i64 ((i : Nat) : Int)
def cells2 (h q : Nat) : List Value := cells1 h ++ List.replicate q (.int .i64 (-1))
theorem cells1_succ (k : Nat) : cells1 (k + 1) = cells1 k ++ [.int .i64 k] := by simp [cells1, List.range_succ]
theorem cells2_zero (h : Nat) : cells2 h 0 = cells1 h := by simp [cells2]
theorem cells2_succ (h q : Nat) : cells2 h (q + 1) = cells2 h q ++ [.int .i64 (-1)] := by simp [cells2, List.replicate_succ']
theorem cells2_eq (h q : Nat) : cells2 h q = ((List.range h).map (fun i => ((i : Nat) : Int)) ++ List.replicate q (-1)).map (Value.int .i64) := by simp [cells2, cells1]

set_option maxHeartbeats 4000000 in
theorem place_walk (ag ah ao : Option Addr) (ng h no : Nat) (G H O : Nat → ByteArray) (w : World) (hvg : Strs w ag ng G) (hvh : Strs w ah h H) (hvo : Strs w ao no O) (hng : ng ≤ 4096) (hh : h ≤ 4096) (hno : no ≤ 4096)
    (hfg : ag = none ∧ ng = 0 ∨ ∃ b, ag = some ⟨b, 0, none⟩) :
    Calls Try.prog 15 #[.slice ag ng ng, .slice ah h h, .slice ao no no] w fun e w' => Placed ng h no G H O w w' e := by
  have HG : Hid (Strs w ag ng G) := hvg
  have HH : Hid (Strs w ah h H) := hvh
  have HO : Hid (Strs w ao no O) := hvo
  clear hvg hvh hvo
  by_cases hle : h ≤ ng
  · have hd1 : decide (ng < h) = false := by simp; omega
    have hd2 : decide ((ng : Int) < (h : Int)) = false := by simp; omega
    rcases hfg with ⟨rfl, rfl⟩ | ⟨bg, rfl⟩
    · have HE : Hid (Calls Try.prog 17 #[.slice none 0 0, .slice ah h h] w fun e w' => BoolIs (SameStrs 0 h G H) e ∧ Drawn w w') := equal_walk none ah 0 0 h h G H w (fun i hi => absurd hi (Nat.not_lt_zero _)) HH.out (by omega) (by omega)
      go_enter Try.func15, Try.ntmps15
      go_wp2_with fail
      refine HE.out.mono ?_
      clear HE
      rintro e w1 ⟨⟨r, rfl, hr⟩, hw1⟩
      obtain ⟨m, rfl⟩ := hw1
      have HR : Hid (r = true ↔ SameStrs 0 h G H) := hr
      clear hr
      cases r
      · go_wp2
        go_ret2
        refine ⟨below_drewN (Below.refl _ _) _, .inl ⟨fun hA => ?_, rfl⟩⟩
        have h1 := HR.out.2 ⟨by omega, fun i hi => hA.2.1 i (by omega)⟩
        cases h1
      · have HP : Hid (∀ i, i < h → (G i).toList = (H i).toList) := fun i hi => (HR.out.1 rfl).2 i (by omega)
        clear HR
        obtain ⟨i0, hi, hz0, hz1, hz2⟩ := info_parts info3
        go_wp2_with (at_make; refine wpList_make_own _ rfl _ _ 25 rfl w.heap.size 3 i0 (.int .i64 0) 1 Try.underlying25 hi hz0 hz1 _ _ _ (h + no) rfl rfl (by omega) ?b2 ?b3 (Nat.le_refl _) ?_)
        case b2 => rw [hz2]; omega
        case b3 => unfold maxLen; omega
        intro w0 hown0 hgrow0
        have HO0 : Hid (w0.ownsRow w.heap.size 3 1 (.slice (some ⟨w.heap.size, 0, none⟩) 0 (h + no)) 0 []) := hown0
        have HB0 : Hid (Below w.heap.size w w0) := (below_drewN (Below.refl _ _) _).grown hgrow0 (Nat.le_refl _) (fun k h => by cases h)
        clear hown0 hgrow0
        have HI : Hid (Try.prog.info? 3 = some i0 ∧ i0.size = 1) := ⟨hi, hz1⟩
        clear hi hz0 hz1 hz2
        go_wp2_with fail
        go_loopw [8, 34] (fun v i wr => ∃ k : Nat, k ≤ h ∧ i = .int .i64 k ∧ v = .slice (some ⟨w.heap.size, 0, none⟩) k (h + no) ∧ Hid (wr.ownsRow w.heap.size 3 1 (.slice (some ⟨w.heap.size, 0, none⟩) k (h + no)) k (cells1 k)) ∧ Hid (Below w.heap.size w wr)) (fun _ i _ => h - (intOf i).toNat)
        case atStart => exact ⟨0, Nat.zero_le _, rfl, rfl, HO0, HB0⟩
        case round =>
          clear HO0 HB0
          obtain ⟨k, hk, rfl, rfl, HO1, HB1⟩ := hrel
          by_cases hlt : k < h
          · exfalso; omega
          · obtain rfl : k = h := by omega
            clear hlt hk
            go_wp2_with fail
            go_loopw [8, 44] (fun v i wr => ∃ q : Nat, q ≤ no ∧ i = .int .i64 q ∧ v = .slice (some ⟨w.heap.size, 0, none⟩) (k + q) (k + no) ∧ Hid (wr.ownsRow w.heap.size 3 1 (.slice (some ⟨w.heap.size, 0, none⟩) (k + q) (k + no)) (k + q) (cells2 k q)) ∧ Hid (Below w.heap.size w wr)) (fun _ i _ => no - (intOf i).toNat)
            case atStart => exact ⟨0, Nat.zero_le _, rfl, rfl, by rw [cells2_zero]; exact HO1, HB1⟩
            case round =>
              clear HO1 HB1
              obtain ⟨q, hq, rfl, rfl, HO1, HB1⟩ := hrel
              by_cases hlt : q < no
              · go_wp2_with (at_builtin; refine wpList_append_fits _ rfl (.tmp 46) (.tmp 47) 25 rfl w.heap.size 3 i0 1 Try.underlying25 HI.out.1 HI.out.2 w.heap.size (k + q) (k + no) _ rfl (HO1.out.alloc _) ⟨wr.heap.size, 0, none⟩ 1 1 [.int .i64 (-1)] rfl rfl (by intro t u ht; match t, ht with | 0, ht => simp at ht; subst ht; simp [Addr.add]) (by intro u hu; simp at hu; subst hu; rfl) (by omega) ?_)
                intro w1 hown1 hgrow1
                have HO2 : Hid (w1.ownsRow w.heap.size 3 1 (.slice (some ⟨w.heap.size, 0, none⟩) (k + (q + 1)) (k + no)) (k + (q + 1)) (cells2 k (q + 1))) := by
                  rw [cells2_succ]; exact hown1
                have HB2 : Hid (Below w.heap.size w w1) := (HB1.out.alloc HB1.out.size _).grown hgrow1 (by have := HB1.out.size; simp; omega) (fun k hk => by cases hk; exact Nat.le_refl _)
                clear hown1 hgrow1
                go_wp2
                go_roundw
                case rel => exact ⟨q + 1, by omega, by go_num, rfl, HO2, HB2⟩
                case measure => simp [intOf]; omega
              · obtain rfl : q = no := by omega
                clear hlt hq
                have HI0 : Hid (Inv 0 k q k G O ((List.range k).map (fun i => ((i : Nat) : Int)) ++ List.replicate q (-1))) := Inv.start _ _ _ _ _
                have HO3 : Hid (wr.ownsRow w.heap.size 3 1 (.slice (some ⟨w.heap.size, 0, none⟩) (k + q) (k + q)) (k + q) (((List.range k).map (fun i => ((i : Nat) : Int)) ++ List.replicate q (-1)).map (Value.int .i64))) := by
                  rw [← cells2_eq]; exact HO1
                clear HO1
                go_wp2_with fail
                go_loopw [10] (fun i wr => ∃ (m : Nat) (wh : List Int), k ≤ m ∧ m ≤ 0 ∧ i = .int .i64 m ∧ Hid (Inv 0 k q m G O wh) ∧ Hid (wr.ownsRow w.heap.size 3 1 (.slice (some ⟨w.heap.size, 0, none⟩) (k + q) (k + q)) (k + q) (wh.map (Value.int .i64))) ∧ Hid (Below w.heap.size w wr)) (fun i _ => 0 - (intOf i).toNat)
                case atStart => exact ⟨k, _, Nat.le_refl _, hle, rfl, HI0, HO3, HB1⟩
                case round =>
                  clear HI0 HO3 HB1
                  obtain ⟨m2, wh, hm1, hm2, rfl, HV, HO1, HB1⟩ := hrel
                  by_cases hlt : m2 < 0
                  · exfalso; omega
                  · obtain rfl : m2 = 0 := by omega
                    have hD := HV.out.done hle HP.out
                    have HD : Hid _ := hD
                    clear hD
                    go_wp2
                    go_ret2
                    refine ⟨HB1.out, .inr ⟨HD.out.1, w.heap.size, wh, rfl, fun i hi => ?_, HV.out.2.1, HD.out.2⟩⟩
                    have hwl := HV.out.1
                    rw [HO1.out.cellAt i (by omega)]
                    simp [List.getD, hwl, hi]
    · have HE : Hid (Calls Try.prog 17 #[.slice (some ⟨bg, 0, none⟩) h ng, .slice ah h h] w fun e w' => BoolIs (SameStrs h h G H) e ∧ Drawn w w') := equal_walk (some ⟨bg, 0, none⟩) ah h ng h h G H w (fun i hi => HG.out i (by omega)) HH.out (by omega) (by omega)
      go_enter Try.func15, Try.ntmps15
      go_wp2_with fail
      refine HE.out.mono ?_
      clear HE
      rintro e w1 ⟨⟨r, rfl, hr⟩, hw1⟩
      obtain ⟨m, rfl⟩ := hw1
      have HR : Hid (r = true ↔ SameStrs h h G H) := hr
      clear hr
      cases r
      · go_wp2
        go_ret2
        refine ⟨below_drewN (Below.refl _ _) _, .inl ⟨fun hA => ?_, rfl⟩⟩
        have h1 := HR.out.2 ⟨by omega, fun i hi => hA.2.1 i (by omega)⟩
        cases h1
      · have HP : Hid (∀ i, i < h → (G i).toList = (H i).toList) := fun i hi => (HR.out.1 rfl).2 i (by omega)
        clear HR
        obtain ⟨i0, hi, hz0, hz1, hz2⟩ := info_parts info3
        go_wp2_with (at_make; refine wpList_make_own _ rfl _ _ 25 rfl w.heap.size 3 i0 (.int .i64 0) 1 Try.underlying25 hi hz0 hz1 _ _ _ (h + no) rfl rfl (by omega) ?b2 ?b3 (Nat.le_refl _) ?_)
        case b2 => rw [hz2]; omega
        case b3 => unfold maxLen; omega
        intro w0 hown0 hgrow0
        have HO0 : Hid (w0.ownsRow w.heap.size 3 1 (.slice (some ⟨w.heap.size, 0, none⟩) 0 (h + no)) 0 []) := hown0
        have HB0 : Hid (Below w.heap.size w w0) := (below_drewN (Below.refl _ _) _).grown hgrow0 (Nat.le_refl _) (fun k h => by cases h)
        clear hown0 hgrow0
        have HI : Hid (Try.prog.info? 3 = some i0 ∧ i0.size = 1) := ⟨hi, hz1⟩
        clear hi hz0 hz1 hz2
        go_wp2_with fail
        go_loopw [8, 34] (fun v i wr => ∃ k : Nat, k ≤ h ∧ i = .int .i64 k ∧ v = .slice (some ⟨w.heap.size, 0, none⟩) k (h + no) ∧ Hid (wr.ownsRow w.heap.size 3 1 (.slice (some ⟨w.heap.size, 0, none⟩) k (h + no)) k (cells1 k)) ∧ Hid (Below w.heap.size w wr)) (fun _ i _ => h - (intOf i).toNat)
        case atStart => exact ⟨0, Nat.zero_le _, rfl, rfl, HO0, HB0⟩
        case round =>
          clear HO0 HB0
          obtain ⟨k, hk, rfl, rfl, HO1, HB1⟩ := hrel
          by_cases hlt : k < h
          · go_wp2_with (at_builtin; refine wpList_append_fits _ rfl (.tmp 37) (.tmp 39) 25 rfl w.heap.size 3 i0 1 Try.underlying25 HI.out.1 HI.out.2 w.heap.size k (h + no) _ rfl (HO1.out.alloc _) ⟨wr.heap.size, 0, none⟩ 1 1 [.int .i64 k] rfl rfl (by intro t u ht; match t, ht with | 0, ht => simp at ht; subst ht; simp [Addr.add]) (by intro u hu; simp at hu; subst hu; rfl) (by omega) ?_)
            intro w1 hown1 hgrow1
            have HO2 : Hid (w1.ownsRow w.heap.size 3 1 (.slice (some ⟨w.heap.size, 0, none⟩) (k + 1) (h + no)) (k + 1) (cells1 (k + 1))) := by
              rw [cells1_succ]; exact hown1
            have HB2 : Hid (Below w.heap.size w w1) := (HB1.out.alloc HB1.out.size _).grown hgrow1 (by have := HB1.out.size; simp; omega) (fun k hk => by cases hk; exact Nat.le_refl _)
            clear hown1 hgrow1
            go_wp2
            go_roundw
            case rel => exact ⟨k + 1, by omega, by go_num, rfl, HO2, HB2⟩
            case measure => simp [intOf]; omega
          · obtain rfl : k = h := by omega
            clear hlt hk
            go_wp2_with fail
            go_loopw [8, 44] (fun v i wr => ∃ q : Nat, q ≤ no ∧ i = .int .i64 q ∧ v = .slice (some ⟨w.heap.size, 0, none⟩) (k + q) (k + no) ∧ Hid (wr.ownsRow w.heap.size 3 1 (.slice (some ⟨w.heap.size, 0, none⟩) (k + q) (k + no)) (k + q) (cells2 k q)) ∧ Hid (Below w.heap.size w wr)) (fun _ i _ => no - (intOf i).toNat)
            case atStart => exact ⟨0, Nat.zero_le _, rfl, rfl, by rw [cells2_zero]; exact HO1, HB1⟩
            case round =>
              clear HO1 HB1
              obtain ⟨q, hq, rfl, rfl, HO1, HB1⟩ := hrel
              by_cases hlt : q < no
              · go_wp2_with (at_builtin; refine wpList_append_fits _ rfl (.tmp 46) (.tmp 47) 25 rfl w.heap.size 3 i0 1 Try.underlying25 HI.out.1 HI.out.2 w.heap.size (k + q) (k + no) _ rfl (HO1.out.alloc _) ⟨wr.heap.size, 0, none⟩ 1 1 [.int .i64 (-1)] rfl rfl (by intro t u ht; match t, ht with | 0, ht => simp at ht; subst ht; simp [Addr.add]) (by intro u hu; simp at hu; subst hu; rfl) (by omega) ?_)
                intro w1 hown1 hgrow1
                have HO2 : Hid (w1.ownsRow w.heap.size 3 1 (.slice (some ⟨w.heap.size, 0, none⟩) (k + (q + 1)) (k + no)) (k + (q + 1)) (cells2 k (q + 1))) := by
                  rw [cells2_succ]; exact hown1
                have HB2 : Hid (Below w.heap.size w w1) := (HB1.out.alloc HB1.out.size _).grown hgrow1 (by have := HB1.out.size; simp; omega) (fun k hk => by cases hk; exact Nat.le_refl _)
                clear hown1 hgrow1
                go_wp2
                go_roundw
                case rel => exact ⟨q + 1, by omega, by go_num, rfl, HO2, HB2⟩
                case measure => simp [intOf]; omega
              · obtain rfl : q = no := by omega
                clear hlt hq
                have HI0 : Hid (Inv ng k q k G O ((List.range k).map (fun i => ((i : Nat) : Int)) ++ List.replicate q (-1))) := Inv.start _ _ _ _ _
                have HO3 : Hid (wr.ownsRow w.heap.size 3 1 (.slice (some ⟨w.heap.size, 0, none⟩) (k + q) (k + q)) (k + q) (((List.range k).map (fun i => ((i : Nat) : Int)) ++ List.replicate q (-1)).map (Value.int .i64))) := by
                  rw [← cells2_eq]; exact HO1
                clear HO1
                go_wp2_with fail
                go_loopw [10] (fun i wr => ∃ (m : Nat) (wh : List Int), k ≤ m ∧ m ≤ ng ∧ i = .int .i64 m ∧ Hid (Inv ng k q m G O wh) ∧ Hid (wr.ownsRow w.heap.size 3 1 (.slice (some ⟨w.heap.size, 0, none⟩) (k + q) (k + q)) (k + q) (wh.map (Value.int .i64))) ∧ Hid (Below w.heap.size w wr)) (fun i _ => ng - (intOf i).toNat)
                case atStart => exact ⟨k, _, Nat.le_refl _, hle, rfl, HI0, HO3, HB1⟩
                case round =>
                  clear HI0 HO3 HB1
                  obtain ⟨m2, wh, hm1, hm2, rfl, HV, HO1, HB1⟩ := hrel
                  by_cases hlt : m2 < ng
                  · obtain ⟨b, o, e', hc⟩ := HG.out m2 hlt
                    cases e'
                    have hcr : wr.cell? ⟨bg, m2, none⟩ = some (.string (G m2)) := by
                      have h1 := (HB1.out.cell (p := ⟨bg, 0 + m2, none⟩) (by exact block_lt hc)).trans hc
                      simpa using h1
                    clear hc
                    have HX := index_walk ao q q O (G m2) wr (HO.out.below HB1.out (Nat.le_refl _)) (by omega)
                    have HX' : Hid (Calls Try.prog 18 #[.slice ao q q, .string (G m2)] wr fun e w' => w' = wr ∧
                      ((e = .returned (.int .i64 (-1)) ∧ ∀ j, j < q → (O j).toList ≠ (G m2).toList) ∨
                        ∃ i : Nat, i < q ∧ e = .returned (.int .i64 i) ∧ (O i).toList = (G m2).toList ∧ ∀ j, j < i → (O j).toList ≠ (G m2).toList)) := HX
                    clear HX
                    go_wp2_with fail
                    refine HX'.out.mono ?_
                    clear HX'
                    rintro e w1 ⟨hw1, hcase⟩
                    subst w1
                    rcases hcase with ⟨rfl, hnone⟩ | ⟨i, hiq, rfl, hei, hfi⟩
                    · have HN : Hid (¬ Acc ng k q G H O) := HV.out.stray hm1 hlt hnone
                      clear hnone
                      go_wp2
                      go_ret2
                      exact ⟨HB1.out, .inl ⟨HN.out, rfl⟩⟩
                    · have hwl := HV.out.1
                      have hcv : wr.cell? ⟨w.heap.size, k + i, none⟩ = some (.int .i64 (wh.getD (k + i) 0)) := by
                        rw [HO1.out.cellAt (k + i) (by omega)]
                        simp [List.getD, hwl, hiq]
                      clear hwl
                      generalize hx : wh.getD (k + i) 0 = x at hcv
                      have HX : Hid (wh.getD (k + i) 0 = x) := hx
                      have HEI : Hid ((O i).toList = (G m2).toList ∧ ∀ j, j < i → (O j).toList ≠ (G m2).toList) := ⟨hei, hfi⟩
                      clear hx hei hfi
                      have hfz : wr.frozen? ⟨w.heap.size, k + i, none⟩ = false := HO1.out.frozenAt (k + i)
                      by_cases h0 : 0 ≤ x
                      · have HN : Hid (¬ Acc ng k q G H O) := HV.out.twice hm1 hlt hiq HEI.out.1 (by rw [HX.out]; exact h0)
                        go_wp2
                        go_ret2
                        exact ⟨HB1.out, .inl ⟨HN.out, rfl⟩⟩
                      · have HV2 : Hid (Inv ng k q (m2 + 1) G O (wh.set (k + i) (m2 : Int))) := HV.out.step hm1 hiq HEI.out.1 HEI.out.2 (by rw [HX.out]; exact h0)
                        clear HX HEI HV
                        go_wp2
                        go_roundw
                        case rel =>
                          have hst := HO1.out.stored (k + i) (.int .i64 (m2 : Int))
                          rw [← List.map_set] at hst
                          exact ⟨m2 + 1, _, by omega, by omega, by go_num, HV2, hst.1, HB1.out.grown hst.2 HB1.out.size (fun k hk => by cases hk; exact Nat.le_refl _)⟩
                        case measure => simp [intOf]; omega
                  · obtain rfl : m2 = ng := by omega
                    have hD := HV.out.done hle HP.out
                    have HD : Hid _ := hD
                    clear hD
                    go_wp2
                    go_ret2
                    refine ⟨HB1.out, .inr ⟨HD.out.1, w.heap.size, wh, rfl, fun i hi => ?_, HV.out.2.1, HD.out.2⟩⟩
                    have hwl := HV.out.1
                    rw [HO1.out.cellAt i (by omega)]
                    simp [List.getD, hwl, hi]
  · go_enter Try.func15, Try.ntmps15
    go_wp2
    go_ret2
    exact ⟨Below.refl _ _, .inl ⟨fun hA => by have := hA.1; omega, rfl⟩⟩
end Go.Proofs.Qxb6602119a
