/-
  The law (3).
-/
import Derived.Test.Qxb6602152aWc
import Derived.WalkSpells
namespace Go.Proofs.Qxb6602152a
open Go.RowKit
set_option linter.unusedVariables false

theorem neq22 (w : World) (a : Option Addr) (n c : Nat) : (binOp .neq 22 (.slice a n c) (.slice none 0 0)).run Try.prog w = .ok (.bool (!a.isNone)) w := run_neq_slice_nil_any w _ _ a n c 0 0 Try.underlying22
attribute [local go_sem] neq22
theorem info5 : (Try.prog.info? 5).map (fun i => (i.zero, i.size, i.bytes)) = some (some (.int .u8 0), 1, 1) := by kernel_rfl

/-- The mark m, then the body. -/
def joined (m : Nat) (X : Nat → Int) (i : Nat) : Int := if i < lm m then mk m i else X (i - lm m)
theorem joined_lo (m : Nat) (X : Nat → Int) (k : Nat) (h : k < lm m) : joined m X k = mk m k := if_pos h
theorem joined_hi (m : Nat) (X : Nat → Int) (q : Nat) : joined m X (lm m + q) = X q := by
  unfold joined; rw [if_neg (by omega), Nat.add_sub_cancel_left]

def mcells (f : Nat → Int) (k : Nat) : List Value := (List.range k).map fun i => .int .u8 (f i)
theorem mcells_succ (f : Nat → Int) (k : Nat) : mcells f (k + 1) = mcells f k ++ [.int .u8 (f k)] := by simp [mcells, List.range_succ]
theorem mcells_bys {w : World} {B g n c : Nat} {f : Nat → Int} (h : w.ownsRow B 5 1 (.slice (some ⟨g, 0, none⟩) n c) n (mcells f n)) : Bys w (some ⟨g, 0, none⟩) n f := by
  intro i hi
  refine ⟨g, 0, rfl, ?_⟩
  rw [Nat.zero_add, h.cellAt i (by omega)]
  simp [mcells, hi]

theorem zz_at (m g n : Nat) (X : Nat → Int) (w : World) (hm : m < 3) (h : Bys w (some ⟨g, 0, none⟩) (lm m + n) (joined m X)) (hb : n ≤ 3000000) :
    Calls Try.prog 6 #[.slice (some ⟨g, 0, none⟩) (lm m + n) (lm m + n)] w fun e w' => ∃ a c, e = .returned (.slice a n c) ∧ Bys w' a n X ∧ Below w.heap.size w w' := by
  have hL := lm_bd m
  refine (zzwithout_walk m g (lm m + n) (joined m X) w hm h (by omega) (fun i hi => joined_lo m X i hi) (by omega)).mono ?_
  rintro e w' ⟨a, c, rfl, hl, hb⟩
  rw [Nat.add_sub_cancel_left] at hl ⊢
  refine ⟨a, c, rfl, fun i hi => ?_, hb⟩
  obtain ⟨b, o, e, hc⟩ := hl i hi
  exact ⟨b, o, e, hc.trans (by show some (Value.int .u8 (joined m X (lm m + i))) = _; rw [joined_hi])⟩

/-- The row of a full slice. -/
theorem owned_row {w : World} {B g n : Nat} {xs : List Value} (h : w.ownsRow B 5 1 (.slice (some ⟨g, 0, none⟩) n n) n xs) : w.heap[g]? = some (.cells xs.toArray 5 (0, 0)) ∧ xs.length = n := by
  obtain ⟨hl, ⟨h', _⟩ | ⟨g', cap, cur, h', _, hg, hnc, hcm, hcs, ht⟩⟩ := h
  · cases h'
  · cases h'
    refine ⟨?_, by omega⟩
    rw [hg, ← ht, List.take_of_length_le (by rw [Array.length_toList]; omega)]

theorem copy_run {w w0 : World} {B g n c : Nat} {x : Addr} {X : Nat → Int} {xs : List Value} (hr : w0.heap[g]? = some (.cells xs.toArray 5 (0, 0))) (hl : xs.length = n) (hv : Bys w0 (some x) n X) (hb : Below B w w0) (hB : B ≤ g) :
    ∃ w2, (Builtin.copy_ #[22, 22] 3 #[.slice (some ⟨g, 0, none⟩) n n, .slice (some x) n c]).run Try.prog w0 = .ok (goInt n) w2 ∧ Bys w2 (some ⟨g, 0, none⟩) n X ∧ Below B w w2 := by
  by_cases h0 : n = 0
  · subst h0
    exact ⟨w0, run_copy_none w0 22 22 3 5 _ _ 0 0 0 c Try.underlying22 (by kernel_rfl) rfl, fun i hi => absurd hi (Nat.not_lt_zero _), hb⟩
  · have hcl : (mcells X n).length = n := by simp [mcells]
    have hrun := run_copy_row (P := Try.prog) w0 22 22 3 5 g 0 n n x n c xs.toArray 5 (mcells X n) Try.underlying22 (by kernel_rfl) hr (by rw [hcl]; exact (Nat.min_self n).symm) (by
      intro j v hj
      have hjn : j < n := by
        rcases Nat.lt_or_ge j n with h | h
        · exact h
        · rw [List.getElem?_eq_none (by omega)] at hj; cases hj
      obtain ⟨b, o, e, hc⟩ := hv j hjn
      cases e
      simp [mcells, hjn] at hj
      subst hj
      rw [Go.WideShapes.add_plain]; exact hc) (by simp [hcl, hl]) (by
      intro v hv'
      simp [mcells] at hv'
      obtain ⟨j, _, rfl⟩ := hv'
      rfl)
    rw [hcl] at hrun
    refine ⟨_, hrun, ?_, below_setRow hb hB _⟩
    intro i hi
    refine ⟨g, 0, rfl, ?_⟩
    have hh := setRow_heap w0 g xs.toArray (List.take 0 xs.toArray.toList ++ mcells X n ++ List.drop (0 + n) xs.toArray.toList).toArray 5 (0, 0) hr
    have hd : (xs.toArray.toList.drop (0 + n)) = [] := List.drop_of_length_le (by simp; omega)
    unfold World.cell?
    simp only [hh]
    simp only [mcells, List.take_zero, List.nil_append, Nat.zero_add]
    show ((List.map (fun i => Value.int IntKind.u8 (X i)) (List.range n) ++ _).toArray)[i]? = _
    rw [List.getElem?_toArray, List.getElem?_append_left (by simpa using hi)]
    simp [hi]

set_option maxHeartbeats 4000000 in
theorem law_walk (a : Option Addr) (n c : Nat) (X : Nat → Int) (w : World) (hv : Bys w a n X) (hn : n ≤ 9223372036854775807) (hz : a = none → n = 0 ∧ c = 0) :
    Calls Try.prog 3 #[.slice a n c] w fun e w' => e = .returned (.bool true) ∧ Below w.heap.size w w' := by
  have HG : Hid (Calls Try.prog 4 #[.slice a n c] w fun e w' => SomeBool e ∧ w' = w) := bytes_walk a n c w hn
  have HA : Hid (Bys w a n X) := hv
  clear hv
  cases a with
  | none =>
    obtain ⟨rfl, rfl⟩ := hz rfl
    clear hz
    go_enter Try.func3, Try.ntmps3
    go_wp2_with fail
    refine HG.out.mono ?_
    clear HG
    rintro e w1 ⟨⟨r, rfl⟩, hw1⟩
    subst w1
    cases r
    · go_wp2
      go_ret
      exact ⟨rfl, Below.refl _ _⟩
    · have HB0 : Hid (Bys w none 0 X) := HA.out
      have HW0 : Hid (Below w.heap.size w w) := Below.refl _ _
      clear HA
      go_wp2_with fail
      go_loopw [4] (fun i wr => ∃ m : Nat, m ≤ 3 ∧ i = .int .i64 m ∧ Hid (Bys wr none 0 X) ∧ Hid (Below w.heap.size w wr)) (fun i _ => 3 - (intOf i).toNat)
      case atStart => exact ⟨0, by omega, rfl, HB0, HW0⟩
      case round =>
        clear HB0 HW0
        obtain ⟨m, hm3, rfl, HB, HW⟩ := hrel
        by_cases hlt : m < 3
        · have hL := lm_bd m
          go_wp2_with fail
          refine (mark_walk m hlt wr).mono ?_
          rintro e w1 ⟨bm, rfl, hbm, hb1⟩
          have HM : Hid (Bys w1 (some ⟨bm, 0, none⟩) (lm m) (mk m)) := hbm
          have HB1 : Hid (Bys w1 none 0 X) := HB.out.below hb1 (Nat.le_refl _)
          have HW1 : Hid (Below w.heap.size w w1) := HW.out.trans (hb1.mono HW.out.size)
          clear hbm hb1 HB HW
          obtain ⟨i0, hi, hz0, hz1, hz2⟩ := info_parts info5
          go_wp2_with (at_make; refine wpList_make_own _ rfl _ _ 22 rfl w.heap.size 5 i0 (.int .u8 0) 1 Try.underlying22 hi hz0 hz1 _ _ _ (lm m + 0) rfl rfl (by omega) ?b2 ?b3 HW1.out.size ?_)
          case b2 => rw [hz2]; omega
          case b3 => unfold maxLen; omega
          intro w2 hown hgrow
          have HO0 : Hid (w2.ownsRow w.heap.size 5 1 (.slice (some ⟨w1.heap.size, 0, none⟩) 0 (lm m + 0)) 0 (mcells (joined m X) 0)) := hown
          have HV0 : Hid (Below w1.heap.size w1 w2) := (Below.refl _ _).grown hgrow (Nat.le_refl _) (fun k h => by cases h)
          have HI : Hid (Try.prog.info? 5 = some i0 ∧ i0.size = 1) := ⟨hi, hz1⟩
          clear hown hgrow hi hz0 hz1 hz2
          go_wp2_with fail
          go_loopw [6, 7] (fun v i wr => ∃ k : Nat, k ≤ lm m ∧ i = .int .i64 k ∧ v = .slice (some ⟨w1.heap.size, 0, none⟩) k (lm m + 0) ∧ Hid (wr.ownsRow w.heap.size 5 1 (.slice (some ⟨w1.heap.size, 0, none⟩) k (lm m + 0)) k (mcells (joined m X) k)) ∧ Hid (Below w1.heap.size w1 wr)) (fun _ i _ => lm m - (intOf i).toNat)
          case atStart => exact ⟨0, Nat.zero_le _, rfl, rfl, HO0, HV0⟩
          case round =>
            clear HO0 HV0
            obtain ⟨k, hk, rfl, rfl, HO, HV⟩ := hrel
            by_cases hkl : k < lm m
            · have hc : wr.cell? ⟨bm, k, none⟩ = some (.int .u8 (mk m k)) := (HM.out.below HV.out (Nat.le_refl _)).cell k hkl
              generalize hx : mk m k = x at hc
              have HX : Hid (joined m X k = x) := by show _ = _; rw [← hx]; exact joined_lo m X k hkl
              clear hx
              go_wp2_with (at_builtin; refine wpList_append_fits _ rfl (.tmp 43) (.tmp 48) 22 rfl w.heap.size 5 i0 1 Try.underlying22 HI.out.1 HI.out.2 w1.heap.size k (lm m + 0) _ rfl (HO.out.alloc _) ⟨wr.heap.size, 0, none⟩ 1 1 [.int .u8 x] rfl rfl (by intro t u ht; match t, ht with | 0, ht => simp at ht; subst ht; simp [Addr.add]) (by intro u hu; simp at hu; subst hu; rfl) (by omega) ?_)
              intro w3 hown hgrow
              have HO2 : Hid (w3.ownsRow w.heap.size 5 1 (.slice (some ⟨w1.heap.size, 0, none⟩) (k + 1) (lm m + 0)) (k + 1) (mcells (joined m X) (k + 1))) := by
                rw [mcells_succ, HX.out]; exact hown
              have HV2 : Hid (Below w1.heap.size w1 w3) := (HV.out.alloc HV.out.size _).grown hgrow (by have := HV.out.size; simp; omega) (fun k hk => by cases hk; exact Nat.le_refl _)
              clear hown hgrow
              go_wp2
              go_roundw
              case rel => exact ⟨k + 1, by omega, by go_num, rfl, HO2, HV2⟩
              case measure => simp [intOf]; omega
            · obtain rfl : k = lm m := by omega
              clear hkl hk
              go_wp2_with fail
              go_loopw [6, 8] (fun v i wr => ∃ q : Nat, q ≤ 0 ∧ i = .int .i64 q ∧ v = .slice (some ⟨w1.heap.size, 0, none⟩) (lm m + q) (lm m + 0) ∧ Hid (wr.ownsRow w.heap.size 5 1 (.slice (some ⟨w1.heap.size, 0, none⟩) (lm m + q) (lm m + 0)) (lm m + q) (mcells (joined m X) (lm m + q))) ∧ Hid (Below w1.heap.size w1 wr)) (fun _ i _ => 0 - (intOf i).toNat)
              case atStart => exact ⟨0, Nat.zero_le _, rfl, rfl, HO, HV⟩
              case round =>
                clear HO HV
                obtain ⟨q, hq, rfl, rfl, HO, HV⟩ := hrel
                by_cases hql : q < 0
                · exfalso; omega
                · obtain rfl : q = 0 := by omega
                  have HBr : Hid (Bys wr none 0 X) := HB1.out.below HV.out (Nat.le_refl _)
                  have HWr : Hid (Below w.heap.size w wr) := HW1.out.trans (HV.out.mono HW1.out.size)
                  have HZ : Hid (Calls Try.prog 6 #[.slice (some ⟨w1.heap.size, 0, none⟩) (lm m) (lm m)] wr fun e w' => ∃ a c, e = .returned (.slice a 0 c) ∧ Bys w' a 0 X ∧ Below wr.heap.size wr w') :=
                    zz_at m w1.heap.size 0 X wr hlt (mcells_bys HO.out) (by omega)
                  clear HO HV HB1 HM HW1
                  go_wp2_with fail
                  refine HZ.out.mono ?_
                  clear HZ
                  rintro e w4 ⟨a4, c4, rfl, h4, b4⟩
                  have HB4 : Hid (Bys w4 none 0 X) := HBr.out.below b4 (Nat.le_refl _)
                  have HW4 : Hid (Below w.heap.size w w4) := HWr.out.trans (b4.mono HWr.out.size)
                  have HS : Hid (Calls Try.prog 7 #[.slice a4 0 c4, .slice none 0 0] w4 fun e w' => e = .returned (.bool true) ∧ Drawn w4 w') := same_walk a4 none 0 c4 0 X X w4 h4 HB4.out (by omega) (fun i hi => rfl)
                  clear h4 b4 HBr HWr
                  go_wp2_with fail
                  refine HS.out.mono ?_
                  clear HS
                  rintro e w5 ⟨rfl, m5, rfl⟩
                  go_wp2
                  go_roundw
                  case rel => exact ⟨m + 1, by omega, by go_num, HB4, below_drewN HW4.out _⟩
                  case measure => simp [intOf]; omega
        · go_wp2
          go_ret
          exact ⟨rfl, HW.out⟩
  | some x =>
    clear hz
    go_enter Try.func3, Try.ntmps3
    go_wp2_with fail
    refine HG.out.mono ?_
    clear HG
    rintro e w1 ⟨⟨r, rfl⟩, hw1⟩
    subst w1
    cases r
    · go_wp2
      go_ret
      exact ⟨rfl, Below.refl _ _⟩
    by_cases hbig : n ≤ 1048576
    · obtain ⟨i0, hi, hz0, hz1, hz2⟩ := info_parts info5
      go_wp2_with (at_make; refine wpList_make_full _ rfl _ _ 22 rfl w.heap.size 5 i0 (.int .u8 0) 1 Try.underlying22 hi hz0 hz1 _ _ _ _ n rfl rfl rfl rfl ?b2 ?b3 (Nat.le_refl _) ?_)
      case b2 => rw [hz2]; omega
      case b3 => unfold maxLen; omega
      intro w0 hown0 hgrow0
      have hrow := owned_row hown0
      have HR : Hid _ := hrow
      have HW : Hid (Below w.heap.size w w0) := (Below.refl _ _).grown hgrow0 (Nat.le_refl _) (fun k h => by cases h)
      clear hown0 hrow hgrow0 hi hz0 hz1 hz2
      obtain ⟨w2, hcopy, hb2, hw2⟩ := copy_run (c := c) HR.out.1 HR.out.2 (HA.out.below HW.out (Nat.le_refl _)) HW.out (Nat.le_refl _)
      have HB0 : Hid (Bys w2 (some ⟨w.heap.size, 0, none⟩) n X) := hb2
      have HW0 : Hid (Below w.heap.size w w2) := hw2
      clear hb2 hw2 HA HW
      go_wp2_with fail
      clear hcopy HR
      go_loopw [4] (fun i wr => ∃ m : Nat, m ≤ 3 ∧ i = .int .i64 m ∧ Hid (Bys wr (some ⟨w.heap.size, 0, none⟩) n X) ∧ Hid (Below w.heap.size w wr)) (fun i _ => 3 - (intOf i).toNat)
      case atStart => exact ⟨0, by omega, rfl, HB0, HW0⟩
      case round =>
        clear HB0 HW0
        obtain ⟨m, hm3, rfl, HB, HW⟩ := hrel
        by_cases hlt : m < 3
        · have hL := lm_bd m
          go_wp2_with fail
          refine (mark_walk m hlt wr).mono ?_
          rintro e w1 ⟨bm, rfl, hbm, hb1⟩
          have HM : Hid (Bys w1 (some ⟨bm, 0, none⟩) (lm m) (mk m)) := hbm
          have HB1 : Hid (Bys w1 (some ⟨w.heap.size, 0, none⟩) n X) := HB.out.below hb1 (Nat.le_refl _)
          have HW1 : Hid (Below w.heap.size w w1) := HW.out.trans (hb1.mono HW.out.size)
          clear hbm hb1 HB HW
          obtain ⟨i0, hi, hz0, hz1, hz2⟩ := info_parts info5
          go_wp2_with (at_make; refine wpList_make_own _ rfl _ _ 22 rfl w.heap.size 5 i0 (.int .u8 0) 1 Try.underlying22 hi hz0 hz1 _ _ _ (lm m + n) rfl rfl (by omega) ?b2 ?b3 HW1.out.size ?_)
          case b2 => rw [hz2]; omega
          case b3 => unfold maxLen; omega
          intro w2 hown hgrow
          have HO0 : Hid (w2.ownsRow w.heap.size 5 1 (.slice (some ⟨w1.heap.size, 0, none⟩) 0 (lm m + n)) 0 (mcells (joined m X) 0)) := hown
          have HV0 : Hid (Below w1.heap.size w1 w2) := (Below.refl _ _).grown hgrow (Nat.le_refl _) (fun k h => by cases h)
          have HI : Hid (Try.prog.info? 5 = some i0 ∧ i0.size = 1) := ⟨hi, hz1⟩
          clear hown hgrow hi hz0 hz1 hz2
          go_wp2_with fail
          go_loopw [6, 7] (fun v i wr => ∃ k : Nat, k ≤ lm m ∧ i = .int .i64 k ∧ v = .slice (some ⟨w1.heap.size, 0, none⟩) k (lm m + n) ∧ Hid (wr.ownsRow w.heap.size 5 1 (.slice (some ⟨w1.heap.size, 0, none⟩) k (lm m + n)) k (mcells (joined m X) k)) ∧ Hid (Below w1.heap.size w1 wr)) (fun _ i _ => lm m - (intOf i).toNat)
          case atStart => exact ⟨0, Nat.zero_le _, rfl, rfl, HO0, HV0⟩
          case round =>
            clear HO0 HV0
            obtain ⟨k, hk, rfl, rfl, HO, HV⟩ := hrel
            by_cases hkl : k < lm m
            · have hc : wr.cell? ⟨bm, k, none⟩ = some (.int .u8 (mk m k)) := (HM.out.below HV.out (Nat.le_refl _)).cell k hkl
              generalize hx : mk m k = x at hc
              have HX : Hid (joined m X k = x) := by show _ = _; rw [← hx]; exact joined_lo m X k hkl
              clear hx
              go_wp2_with (at_builtin; refine wpList_append_fits _ rfl (.tmp 43) (.tmp 48) 22 rfl w.heap.size 5 i0 1 Try.underlying22 HI.out.1 HI.out.2 w1.heap.size k (lm m + n) _ rfl (HO.out.alloc _) ⟨wr.heap.size, 0, none⟩ 1 1 [.int .u8 x] rfl rfl (by intro t u ht; match t, ht with | 0, ht => simp at ht; subst ht; simp [Addr.add]) (by intro u hu; simp at hu; subst hu; rfl) (by omega) ?_)
              intro w3 hown hgrow
              have HO2 : Hid (w3.ownsRow w.heap.size 5 1 (.slice (some ⟨w1.heap.size, 0, none⟩) (k + 1) (lm m + n)) (k + 1) (mcells (joined m X) (k + 1))) := by
                rw [mcells_succ, HX.out]; exact hown
              have HV2 : Hid (Below w1.heap.size w1 w3) := (HV.out.alloc HV.out.size _).grown hgrow (by have := HV.out.size; simp; omega) (fun k hk => by cases hk; exact Nat.le_refl _)
              clear hown hgrow
              go_wp2
              go_roundw
              case rel => exact ⟨k + 1, by omega, by go_num, rfl, HO2, HV2⟩
              case measure => simp [intOf]; omega
            · obtain rfl : k = lm m := by omega
              clear hkl hk
              go_wp2_with fail
              go_loopw [6, 8] (fun v i wr => ∃ q : Nat, q ≤ n ∧ i = .int .i64 q ∧ v = .slice (some ⟨w1.heap.size, 0, none⟩) (lm m + q) (lm m + n) ∧ Hid (wr.ownsRow w.heap.size 5 1 (.slice (some ⟨w1.heap.size, 0, none⟩) (lm m + q) (lm m + n)) (lm m + q) (mcells (joined m X) (lm m + q))) ∧ Hid (Below w1.heap.size w1 wr)) (fun _ i _ => n - (intOf i).toNat)
              case atStart => exact ⟨0, Nat.zero_le _, rfl, rfl, HO, HV⟩
              case round =>
                clear HO HV
                obtain ⟨q, hq, rfl, rfl, HO, HV⟩ := hrel
                by_cases hql : q < n
                · have hc : wr.cell? ⟨w.heap.size, q, none⟩ = some (.int .u8 (X q)) := (HB1.out.below HV.out (Nat.le_refl _)).cell q hql
                  generalize hx : X q = x at hc
                  have HX : Hid (joined m X (lm m + q) = x) := by show _ = _; rw [← hx]; exact joined_hi m X q
                  clear hx
                  go_wp2_with (at_builtin; refine wpList_append_fits _ rfl (.tmp 56) (.tmp 61) 22 rfl w.heap.size 5 i0 1 Try.underlying22 HI.out.1 HI.out.2 w1.heap.size (lm m + q) (lm m + n) _ rfl (HO.out.alloc _) ⟨wr.heap.size, 0, none⟩ 1 1 [.int .u8 x] rfl rfl (by intro t u ht; match t, ht with | 0, ht => simp at ht; subst ht; simp [Addr.add]) (by intro u hu; simp at hu; subst hu; rfl) (by omega) ?_)
                  intro w3 hown hgrow
                  have HO2 : Hid (w3.ownsRow w.heap.size 5 1 (.slice (some ⟨w1.heap.size, 0, none⟩) (lm m + (q + 1)) (lm m + n)) (lm m + (q + 1)) (mcells (joined m X) (lm m + (q + 1)))) := by
                    rw [← Nat.add_assoc, mcells_succ, HX.out]; exact hown
                  have HV2 : Hid (Below w1.heap.size w1 w3) := (HV.out.alloc HV.out.size _).grown hgrow (by have := HV.out.size; simp; omega) (fun k hk => by cases hk; exact Nat.le_refl _)
                  clear hown hgrow
                  go_wp2
                  go_roundw
                  case rel => exact ⟨q + 1, by omega, by go_num, rfl, HO2, HV2⟩
                  case measure => simp [intOf]; omega
                · obtain rfl : q = n := by omega
                  have HBr : Hid (Bys wr (some ⟨w.heap.size, 0, none⟩) q X) := HB1.out.below HV.out (Nat.le_refl _)
                  have HWr : Hid (Below w.heap.size w wr) := HW1.out.trans (HV.out.mono HW1.out.size)
                  have HZ : Hid (Calls Try.prog 6 #[.slice (some ⟨w1.heap.size, 0, none⟩) (lm m + q) (lm m + q)] wr fun e w' => ∃ a c, e = .returned (.slice a q c) ∧ Bys w' a q X ∧ Below wr.heap.size wr w') :=
                    zz_at m w1.heap.size q X wr hlt (mcells_bys HO.out) (by omega)
                  clear HO HV HB1 HM HW1
                  go_wp2_with fail
                  refine HZ.out.mono ?_
                  clear HZ
                  rintro e w4 ⟨a4, c4, rfl, h4, b4⟩
                  have HB4 : Hid (Bys w4 (some ⟨w.heap.size, 0, none⟩) q X) := HBr.out.below b4 (Nat.le_refl _)
                  have HW4 : Hid (Below w.heap.size w w4) := HWr.out.trans (b4.mono HWr.out.size)
                  have HS : Hid (Calls Try.prog 7 #[.slice a4 q c4, .slice (some ⟨w.heap.size, 0, none⟩) q q] w4 fun e w' => e = .returned (.bool true) ∧ Drawn w4 w') := same_walk a4 (some ⟨w.heap.size, 0, none⟩) q c4 q X X w4 h4 HB4.out (by omega) (fun i hi => rfl)
                  clear h4 b4 HBr HWr
                  go_wp2_with fail
                  refine HS.out.mono ?_
                  clear HS
                  rintro e w5 ⟨rfl, m5, rfl⟩
                  go_wp2
                  go_roundw
                  case rel => exact ⟨m + 1, by omega, by go_num, HB4, below_drewN HW4.out _⟩
                  case measure => simp [intOf]; omega
        · go_wp2
          go_ret
          exact ⟨rfl, HW.out⟩
    · go_wp2
      go_ret
      exact ⟨rfl, Below.refl _ _⟩
end Go.Proofs.Qxb6602152a
