/-
  The plain law: the hand-written reader and ParseInt's value agree. No Go here.
-/
import Derived.Lib.ParseIntB
namespace Go.Proofs.Qxb6602063aFmt
open Go.Lib

/-- What the law's own loop does from the value v on. -/
def digs (v : Nat) : List UInt8 → Option Nat
  | [] => some v
  | c :: r =>
    if 48 ≤ c.toNat ∧ c.toNat ≤ 57 then
      if (9223372036854775807 - (c.toNat - 48)) / 10 < v then none else digs (v * 10 + (c.toNat - 48)) r
    else none

/-- The reader without the sign. -/
def wholeTail (l : List UInt8) : Option Nat :=
  if l = [] then none else
    match digs 0 l with
    | none => none
    | some v => if v < 1 then none else some v

/-- zzWholeAtLeastOne. -/
def whole (l : List UInt8) : Option Nat :=
  match l with
  | [] => none
  | c :: r => if c.toNat = 45 then none else if c.toNat = 43 then wholeTail r else wholeTail (c :: r)

theorem uintM_mono (M : Nat) : ∀ (l : List UInt8) (acc v : Nat), parseUintM M acc l = .ok v → acc ≤ v := by
  intro l
  induction l with
  | nil => intro acc v h; simp [parseUintM] at h; omega
  | cons c r ih =>
    intro acc v h
    unfold parseUintM at h
    split at h
    · split at h
      · cases h
      · split at h
        · cases h
        · have := ih _ _ h; omega
    · cases h

theorem digs_iff : ∀ (l : List UInt8) (acc v : Nat), acc ≤ 9223372036854775807 →
    (digs acc l = some v ↔ parseUintM 18446744073709551615 acc l = .ok v ∧ v ≤ 9223372036854775807) := by
  intro l
  induction l with
  | nil => intro acc v h; simp [digs, parseUintM]; omega
  | cons c r ih =>
    intro acc v h
    by_cases hd : 48 ≤ c.toNat ∧ c.toNat ≤ 57
    · by_cases ho : (9223372036854775807 - (c.toNat - 48)) / 10 < acc
      · simp only [digs, hd, and_self, if_true, ho, reduceCtorEq, false_iff, not_and, Nat.not_le]
        intro hv
        unfold parseUintM at hv
        rw [if_pos hd] at hv
        split at hv
        · cases hv
        · split at hv
          · cases hv
          · have := uintM_mono _ _ _ _ hv; omega
      · have h1 : ¬ 1844674407370955162 ≤ acc := by omega
        have h2 : ¬ 18446744073709551615 < acc * 10 + (c.toNat - 48) := by omega
        simp only [digs, parseUintM, hd, and_self, if_true, ho, h1, h2, if_false]
        exact ih _ _ (by omega)
    · simp [digs, parseUintM, hd]

theorem tail_iff (l : List UInt8) (v : Nat) :
    wholeTail l = some v ↔ parseUintB 64 l = .ok v ∧ 1 ≤ v ∧ v ≤ 9223372036854775807 := by
  unfold wholeTail parseUintB
  by_cases hl : l = []
  · simp [hl]
  · have := digs_iff l 0 v (by omega)
    rw [if_neg hl, if_neg hl]
    show _ ↔ parseUintM 18446744073709551615 0 l = .ok v ∧ _
    cases hd : digs 0 l with
    | none =>
      rw [hd] at this
      simp only [reduceCtorEq, false_iff]
      rintro ⟨a, _, b⟩
      exact absurd (this.2 ⟨a, b⟩) (by simp)
    | some u =>
      by_cases h1 : u < 1
      · simp only [h1, if_true, reduceCtorEq, false_iff]
        rintro ⟨a, b, c⟩
        have := this.2 ⟨a, c⟩
        rw [hd] at this
        simp at this; omega
      · simp only [h1, if_false]
        rw [hd] at this
        constructor
        · intro e
          have e2 := this.1 e
          simp at e
          exact ⟨e2.1, by omega, e2.2⟩
        · rintro ⟨a, _, b⟩
          exact this.2 ⟨a, b⟩

/-- THE PLAIN LAW, forwards: what the reader takes ParseInt takes, at the same value. -/
theorem whole_some {l : List UInt8} {v : Nat} (h : whole l = some v) : parseIntB 64 l = .ok (v : Int) ∧ 1 ≤ v ∧ v ≤ 9223372036854775807 := by
  cases l with
  | nil => simp [whole] at h
  | cons c r =>
    unfold whole at h
    simp only at h
    split at h
    · cases h
    · rename_i h45
      by_cases h43 : c.toNat = 43
      · rw [if_pos h43] at h
        obtain ⟨a, b, d⟩ := (tail_iff _ _).1 h
        refine ⟨?_, b, d⟩
        simp only [parseIntB, h43, true_or, if_true, a]
        simp; omega
      · rw [if_neg h43] at h
        obtain ⟨a, b, d⟩ := (tail_iff _ _).1 h
        refine ⟨?_, b, d⟩
        simp only [parseIntB, h43, h45, or_self, if_false, a]
        simp; omega

/-- THE PLAIN LAW, backwards: what the reader refuses ParseInt refuses, or gives at less than 1. -/
theorem whole_none {l : List UInt8} (h : whole l = none) {v : Int} (hv : parseIntB 64 l = .ok v) : v < 1 := by
  cases l with
  | nil => simp [parseIntB] at hv
  | cons c r =>
    unfold whole at h
    simp only at h
    by_cases h45 : c.toNat = 45
    · simp only [parseIntB, h45, or_true, if_true, not_true_eq_false, false_and, if_false, true_and] at hv
      split at hv
      · cases hv
      · cases hv
      · split at hv
        · cases hv
        · cases hv; omega
    · rw [if_neg h45] at h
      have key : ∀ t : List UInt8, wholeTail t = none → ∀ u, parseUintB 64 t = .ok u → u < 1 ∨ 9223372036854775808 ≤ u := by
        intro t ht u hu
        by_cases a : u < 1
        · exact .inl a
        · by_cases b : 9223372036854775808 ≤ u
          · exact .inr b
          · have := (tail_iff t u).2 ⟨hu, by omega, by omega⟩
            rw [ht] at this; cases this
      by_cases h43 : c.toNat = 43
      · rw [if_pos h43] at h
        simp only [parseIntB, h43, true_or, if_true] at hv
        split at hv
        · cases hv
        · cases hv
        · rename_i u hu
          have k := key r h u hu
          simp at hv
          split at hv
          · cases hv
          · cases hv; omega
      · rw [if_neg h43] at h
        simp only [parseIntB, h43, h45, or_self, if_false] at hv
        split at hv
        · cases hv
        · cases hv
        · rename_i u hu
          have k := key _ h u hu
          simp at hv
          split at hv
          · cases hv
          · cases hv; omega

theorem tail_nil : wholeTail [] = none := by simp [wholeTail]
theorem tail_none {l : List UInt8} (h : digs 0 l = none) : wholeTail l = none := by
  unfold wholeTail; split <;> simp [h]
theorem tail_small {l : List UInt8} {n : Nat} (h : digs 0 l = some n) (hn : n < 1) : wholeTail l = none := by
  unfold wholeTail; split
  · rfl
  · simp [h, hn]
theorem tail_some {l : List UInt8} {n : Nat} (hl : l ≠ []) (h : digs 0 l = some n) (hn : ¬ n < 1) : wholeTail l = some n := by
  unfold wholeTail; simp [hl, h, hn]
theorem whole_minus (c : UInt8) (r : List UInt8) (h : c.toNat = 45) : whole (c :: r) = none := by simp [whole, h]
theorem whole_plus (c : UInt8) (r : List UInt8) (h : c.toNat = 43) : whole (c :: r) = wholeTail r := by simp [whole, h]
theorem whole_plain (c : UInt8) (r : List UInt8) (h : c.toNat ≠ 45) (h' : c.toNat ≠ 43) : whole (c :: r) = wholeTail (c :: r) := by simp [whole, h, h']
theorem digs_low (c : UInt8) (r : List UInt8) (n : Nat) (h : c.toNat < 48) : digs n (c :: r) = none := by
  rw [digs, if_neg (by omega)]
theorem digs_high (c : UInt8) (r : List UInt8) (n : Nat) (h : 57 < c.toNat) : digs n (c :: r) = none := by
  rw [digs, if_neg (by omega)]
theorem digs_over (c : UInt8) (r : List UInt8) (n : Nat) (h : 48 ≤ c.toNat ∧ c.toNat ≤ 57) (ho : (9223372036854775807 - (c.toNat - 48)) / 10 < n) : digs n (c :: r) = none := by
  rw [digs, if_pos h, if_pos ho]
theorem digs_step (c : UInt8) (r : List UInt8) (n : Nat) (h : 48 ≤ c.toNat ∧ c.toNat ≤ 57) (ho : ¬ (9223372036854775807 - (c.toNat - 48)) / 10 < n) : digs n (c :: r) = digs (n * 10 + (c.toNat - 48)) r := by
  rw [digs, if_pos h, if_neg ho]

end Go.Proofs.Qxb6602063aFmt
