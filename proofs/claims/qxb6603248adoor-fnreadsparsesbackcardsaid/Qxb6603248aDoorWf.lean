/-
  ZZReads (6), the law (3).
-/
import Derived.Test.Qxb6603248aDoorWe
namespace Go.Proofs.Qxb6603248aDoor
open Go.RowKit
set_option linter.unusedVariables false

theorem zzreads_walk (pb gb n : Nat) (X : Nat → Nat) (w : World) (hp : w.cell? ⟨pb, 1, none⟩ = some (.slice (some ⟨gb, 0, none⟩) n n)) (hv : U32s w (some ⟨gb, 0, none⟩) n X) (hX : ∀ i, i < n → X i < 4294967296)
    (hn1 : 1 ≤ n) (hn : n ≤ 65536) (htab : Lib.TabIs Tryd.prog w Tryd.powName .u64 Lib.pow10Tab) (h0 : 0 < w.heap.size) :
    Calls Tryd.prog 6 #[.pointer (some ⟨pb, 0, none⟩)] w fun e w' => Said n X w w' e := by
  have HC : Hid (Calls Tryd.prog 8 #[.pointer (some ⟨pb, 0, none⟩)] w fun e w' => Said n X w w' e) := reads_walk pb gb n X w hp hv hX hn1 hn htab h0
  clear hp hv hX htab
  go_enter Tryd.func6, Tryd.ntmps6
  go_wp2_with fail
  refine HC.out.mono ?_
  clear HC
  rintro e w1 ⟨s, rfl, hs, hb⟩
  have HS : Hid (s.data.toList = textOf n X ∧ Below w.heap.size w w1) := ⟨hs, hb⟩
  clear hs hb
  go_wp2
  go_ret
  exact ⟨s, rfl, HS.out⟩

/-- The slice's first n cells hold the numbers, as uint64. -/
def U64s (w : World) (a : Option Addr) (n : Nat) (X : Nat → Nat) : Prop :=
  ∀ i, i < n → ∃ b off, a = some ⟨b, off, none⟩ ∧ w.cell? ⟨b, off + i, none⟩ = some (.int .u64 (X i : Int))

theorem body_len (R : List Nat) (h : ∀ x ∈ R, x < 4294967296) : (body R).length ≤ 15 * R.length := by
  induction R with
  | nil => simp [body]
  | cons x r ih =>
    have hx := dec_len_le x (h x (by simp))
    have h2 := ih (fun a ha => h a (by simp [ha]))
    have hg : (glue r).length ≤ 5 := by
      cases r with
      | nil => simp [glue]
      | cons y r' => cases r' <;> simp [glue, andB, sepB]
    simp only [body, List.length_append, List.length_cons]
    omega

theorem u64_of {w : World} {B n cap : Nat} {a : Option Addr} {X : Nat → Nat} (h : w.ownsRow B 31 1 (.slice a n cap) n (ncells ((List.range n).map X) n)) : U64s w a n X := by
  intro i hi
  rcases h.2 with ⟨_, rfl⟩ | ⟨g, cap', cur, h', rest⟩
  · omega
  · cases h'
    refine ⟨g, 0, rfl, ?_⟩
    rw [Nat.zero_add, h.cellAt i (by omega)]
    simp [ncells, hi]

/-- The reader on the method's text: the numbers again. -/
theorem parse_at (s : ByteArray) (n : Nat) (X : Nat → Nat) (w : World) (hn1 : 1 ≤ n) (hn : n ≤ 65536) (hX : ∀ i, i < n → X i < 4294967296) (hs : s.data.toList = textOf n X) :
    Calls Tryd.prog 7 #[.string s] w fun e w' => ∃ a cap, e = .returned (.tuple #[.slice a n cap, .bool (decide (n ≠ 1)), .bool true]) ∧ U64s w' a n X ∧ Below w.heap.size w w' := by
  have hR : ∀ x ∈ (List.range n).map X, x < 4294967296 := by
    intro x hx
    simp at hx
    obtain ⟨i, hi, rfl⟩ := hx
    exact hX i hi
  have hl : ((List.range n).map X).length = n := by simp
  have hb := body_len _ hR
  rw [hl] at hb
  have hsz : s.size = (textOf n X).length := by rw [← hs]; simp
  have key : ∀ e w', Parsed w w' ((List.range n).map X) e → ∃ a cap, e = .returned (.tuple #[.slice a n cap, .bool (decide (n ≠ 1)), .bool true]) ∧ U64s w' a n X ∧ Below w.heap.size w w' := by
    rintro e w' ⟨a, cap, rfl, ho, hbw⟩
    rw [hl] at ho ⊢
    exact ⟨a, cap, rfl, u64_of ho, hbw⟩
  by_cases h1 : n = 1
  · have ht : textOf n X = [102, 111, 114, 109, 97, 116, 32] ++ body ((List.range n).map X) := by rw [textOf, if_pos h1]
    rw [ht] at hs hsz
    exact (parse_one s _ w (by rw [hl]; exact h1) hR (by rw [hsz]; simp; omega) hs).mono key
  · have ht : textOf n X = [102, 111, 114, 109, 97, 116, 115, 32] ++ body ((List.range n).map X) := by rw [textOf, if_neg h1]
    rw [ht] at hs hsz
    exact (parse_many s _ w (by rw [hl]; omega) (by rw [hl]; exact hn) hR (by rw [hsz]; simp; omega) hs).mono key

set_option maxHeartbeats 4000000 in
theorem law_walk (f : Int) (a : Option Addr) (n c : Nat) (X : Nat → Nat) (w : World) (hv : U32s w a n X) (hX : ∀ i, i < n → X i < 4294967296) (hn : n ≤ 9223372036854775807)
    (htab : Lib.TabIs Tryd.prog w Tryd.powName .u64 Lib.pow10Tab) (h0 : 0 < w.heap.size) :
    Calls Tryd.prog 3 #[.int .u32 f, .slice a n c] w fun e w' => e = .returned (.bool true) ∧ Below w.heap.size w w' := by
  have HG : Hid (Calls Tryd.prog 4 #[.int .u32 f, .slice a n c] w fun e w' => SomeBool e ∧ w' = w) := bytes_walk f a n c w hn
  have HV : Hid (U32s w a n X) := hv
  have HX : Hid (∀ i, i < n → X i < 4294967296) := hX
  have HT : Hid (Lib.TabIs Tryd.prog w Tryd.powName .u64 Lib.pow10Tab) := htab
  clear hv hX htab
  go_enter Tryd.func3, Tryd.ntmps3
  go_wp2_with fail
  refine HG.out.mono ?_
  clear HG
  rintro e w1 ⟨⟨r, rfl⟩, hw1⟩
  subst w1
  cases r
  · go_wp2
    go_ret
    exact ⟨rfl, Below.refl _ _⟩
  by_cases hbig : 65536 < n
  · go_wp2
    go_ret
    exact ⟨rfl, Below.refl _ _⟩
  by_cases hzero : n = 0
  · subst hzero
    go_wp2
    go_ret
    exact ⟨rfl, Below.refl _ _⟩
  have hn1 : 1 ≤ n := by omega
  have hn2 : n ≤ 65536 := by omega
  have hz0 : ((n : Int) == 0) = false := by rw [beq_eq_false_iff_ne]; omega
  clear hbig hzero hn
  go_wp2_with fail
  refine (make_walk f a n c X w HV.out hn2).mono ?_
  rintro e w1 ⟨pb, gb, rfl, hpc, hu, hb1⟩
  have HM : Hid (Calls Tryd.prog 6 #[.pointer (some ⟨pb, 0, none⟩)] w1 fun e w' => Said n X w1 w' e) := zzreads_walk pb gb n X w1 hpc hu HX.out hn1 hn2 (tab_below HT.out hb1 h0) (by have := hb1.size; omega)
  have B1 : Hid (Below w.heap.size w w1) := hb1
  clear hpc hu hb1 HT
  go_wp2_with fail
  refine HM.out.mono ?_
  clear HM
  rintro e w2 ⟨s, rfl, hs, hb2⟩
  have HP : Hid (Calls Tryd.prog 7 #[.string s] w2 fun e w' => ∃ a cap, e = .returned (.tuple #[.slice a n cap, .bool (decide (n ≠ 1)), .bool true]) ∧ U64s w' a n X ∧ Below w2.heap.size w2 w') := parse_at s n X w2 hn1 hn2 HX.out hs
  have B2 : Hid (Below w.heap.size w w2) := B1.out.trans (hb2.mono B1.out.size)
  clear hs hb2 B1
  go_wp2_with fail
  refine HP.out.mono ?_
  clear HP
  rintro e w3 ⟨a3, cap3, rfl, hu3, hb3⟩
  have HU3 : Hid (U64s w3 a3 n X) := hu3
  have B3 : Hid (Below w.heap.size w w3) := B2.out.trans (hb3.mono B2.out.size)
  have HV3 : Hid (U32s w3 a n X) := HV.out.below B3.out (Nat.le_refl _)
  clear hu3 hb3 B2 HV
  obtain ⟨pl, hpl⟩ : ∃ pl, pl = decide (n ≠ 1) := ⟨_, rfl⟩
  rw [← hpl]
  have hpl2 : ((n : Int) != 1) = pl := by
    rw [hpl]
    by_cases h : n = 1
    · subst h; rfl
    · rw [decide_eq_true h, bne_iff_ne]; omega
  have HPL : Hid (pl = decide (n ≠ 1)) := hpl
  clear hpl
  cases pl
  all_goals
    go_wp2_with fail
    go_loopw [10] (fun i wr => ∃ k m : Nat, k ≤ n ∧ i = .int .i64 k ∧ wr = w3.drewN m) (fun i _ => n - (intOf i).toNat)
    case atStart => exact ⟨0, 0, Nat.zero_le _, rfl, rfl⟩
    case round =>
      obtain ⟨k, m, hk, rfl, rfl⟩ := hrel
      by_cases hlt : k < n
      · obtain ⟨b1, o1, rfl, hc1⟩ := HU3.out k hlt
        obtain ⟨b2, o2, rfl, hc2⟩ := HV3.out k hlt
        have hxk := HX.out k hlt
        generalize X k = x at hc1 hc2 hxk
        have hlti : (k : Int) < (n : Int) := by omega
        have hk0 : (0 : Int) ≤ (k : Int) := by omega
        have hx0 : (0 : Int) ≤ (x : Int) := by omega
        have hx1 : (x : Int) ≤ 4294967295 := by omega
        go_wp2
        go_quiet (fail)
        go_wp2
        go_roundw
        case rel => exact ⟨k + 1, m + nq, by omega, by go_num, by simp⟩
        case measure => simp [intOf]; omega
      · go_wp2
        go_ret
        exact ⟨rfl, below_drewN B3.out _⟩
end Go.Proofs.Qxb6603248aDoor
