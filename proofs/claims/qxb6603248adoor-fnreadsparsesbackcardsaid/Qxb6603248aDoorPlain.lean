/-
  The plain law: the text of a list of formats, piece by piece. No Go here.
-/
import Derived.Lib.ItoaNum
import Derived.Lib.ItoaLen
import Derived.Lib.Join
namespace Go.Proofs.Qxb6603248aDoor
open Go.Lib

def sepB : List UInt8 := [44, 32]
def andB : List UInt8 := [32, 97, 110, 100, 32]

/-- What stands ahead of the numbers r, behind a number. -/
def glue : List Nat → List UInt8
  | [] => []
  | [_] => andB
  | _ :: _ :: _ => sepB

/-- The numbers as they stand in the text. -/
def body : List Nat → List UInt8
  | [] => []
  | x :: r => decDigits x ++ (glue r ++ body r)

theorem join_two (x y : List UInt8) (r : List (List UInt8)) (sep : List UInt8) : join (x :: y :: r) sep = x ++ (sep ++ join (y :: r) sep) := by
  rw [join_cons, join_cons]
  simp [joinTail]

/-- What the method joins is that text. -/
theorem body_join (init : List Nat) (last : Nat) (h : init ≠ []) : join (init.map decDigits) sepB ++ (andB ++ decDigits last) = body (init ++ [last]) := by
  induction init with
  | nil => exact absurd rfl h
  | cons x r ih =>
    cases r with
    | nil => simp [join_one, body, glue]
    | cons y r' =>
      rw [List.map_cons, List.map_cons, join_two, List.append_assoc, List.append_assoc]
      have := ih (by simp)
      rw [List.map_cons] at this
      rw [this]
      cases r' with
      | nil => simp [body, glue]
      | cons z r'' => simp [body, glue]

def val (l : List UInt8) : Nat := l.foldl (fun a c => a * 10 + (c.toNat - 48)) 0
theorem val_snoc (l : List UInt8) (c : UInt8) : val (l ++ [c]) = val l * 10 + (c.toNat - 48) := by simp [val]

theorem dig_toNat (d : Nat) (h : d < 10) : (UInt8.ofNat (48 + d)).toNat = 48 + d := by
  simp; omega

theorem dec_small {x : Nat} (h : x < 10) : decDigits x = [UInt8.ofNat (48 + x)] := by rw [decDigits, dif_pos h]
theorem dec_big {x : Nat} (h : ¬ x < 10) : decDigits x = decDigits (x / 10) ++ [UInt8.ofNat (48 + x % 10)] := by rw [decDigits, dif_neg h]

theorem dec_val (x : Nat) : val (decDigits x) = x := by
  induction x using Nat.strongRecOn with
  | ind x ih =>
    by_cases h : x < 10
    · rw [dec_small h]; simp [val]; omega
    · rw [dec_big h, val_snoc, ih (x / 10) (by omega), dig_toNat _ (by omega)]; omega

theorem dec_dig (x : Nat) : ∀ c ∈ decDigits x, 48 ≤ c.toNat ∧ c.toNat ≤ 57 := by
  induction x using Nat.strongRecOn with
  | ind x ih =>
    intro c hc
    by_cases h : x < 10
    · rw [dec_small h, List.mem_singleton] at hc
      rw [hc, dig_toNat x h]; omega
    · rw [dec_big h, List.mem_append] at hc
      rcases hc with hc | hc
      · exact ih (x / 10) (by omega) c hc
      · rw [List.mem_singleton] at hc
        rw [hc, dig_toNat _ (by omega)]; omega

theorem dec_len_pos (x : Nat) : 1 ≤ (decDigits x).length := by rw [decDigits_length]; exact nDigits_pos x
theorem dec_len_le (x : Nat) (h : x < 4294967296) : (decDigits x).length ≤ 10 := by
  rw [decDigits_length]
  rcases Nat.lt_or_ge (nDigits x) 11 with h' | h'
  · omega
  · exfalso
    obtain ⟨k, hk⟩ : ∃ k, nDigits x = k + 1 := ⟨nDigits x - 1, by omega⟩
    have h2 : ∀ (m u : Nat), nDigits u = m + 1 → 1 ≤ m → 10 ^ m ≤ u := by
      intro m
      induction m with
      | zero => intro u _ h; omega
      | succ m ih =>
        intro u hu _
        by_cases hu10 : u < 10
        · rw [nDigits_small hu10] at hu; omega
        · rw [nDigits_big hu10] at hu
          by_cases hm : 1 ≤ m
          · have := ih (u / 10) (by omega) hm
            rw [Nat.pow_succ]; omega
          · obtain rfl : m = 0 := by omega
            omega
    have h3 := h2 k x hk (by omega)
    have h4 : 10 ^ 10 ≤ 10 ^ k := Nat.pow_le_pow_right (by omega) (by omega)
    omega

theorem dec_lead (x : Nat) (h : 1 ≤ x) : (decDigits x).getD 0 0 ≠ 48 := by
  induction x using Nat.strongRecOn with
  | ind x ih =>
    by_cases h10 : x < 10
    · rw [dec_small h10]
      intro e
      have e2 := congrArg UInt8.toNat e
      change (UInt8.ofNat (48 + x)).toNat = 48 at e2
      rw [dig_toNat x h10] at e2; omega
    · rw [dec_big h10]
      have h1 := ih (x / 10) (by omega) (by omega)
      have hl := dec_len_pos (x / 10)
      rw [List.getD_eq_getElem?_getD, List.getElem?_append_left (by omega), ← List.getD_eq_getElem?_getD]
      exact h1

theorem val_take_le (l : List UInt8) : ∀ (k j : Nat), j ≤ k → k ≤ l.length → val (l.take j) ≤ val (l.take k) := by
  intro k
  induction k with
  | zero =>
    intro j h _
    have e : j = 0 := by omega
    rw [e]; exact Nat.le_refl _
  | succ k ih =>
    intro j h hk
    rcases Nat.lt_or_ge j (k + 1) with h' | h'
    · have h1 := ih j (by omega) (by omega)
      rw [List.take_succ_eq_append_getElem (by omega), val_snoc]; omega
    · have : j = k + 1 := by omega
      subst this; exact Nat.le_refl _

/-- What the reader's inner loop needs of the numeral of x. -/
structure Num (x L : Nat) (D V : Nat → Nat) : Prop where
  pos : 1 ≤ L
  le : L ≤ 10
  dig : ∀ j, j < L → 48 ≤ D j ∧ D j ≤ 57
  v0 : V 0 = 0
  step : ∀ j, j < L → V (j + 1) = V j * 10 + (D j - 48)
  bd : ∀ j, j ≤ L → V j ≤ x
  last : V L = x
  lead : D 0 = 48 → L = 1

theorem num_of (x : Nat) (hx : x < 4294967296) : Num x (decDigits x).length (fun j => ((decDigits x).getD j 0).toNat) (fun j => val ((decDigits x).take j)) where
  pos := dec_len_pos x
  le := dec_len_le x hx
  dig := fun j hj => dec_dig x _ (by rw [List.getD_eq_getElem?_getD, List.getElem?_eq_getElem hj]; exact List.getElem_mem hj)
  v0 := by simp [val]
  step := fun j hj => by
    show val ((decDigits x).take (j + 1)) = _
    rw [List.take_succ_eq_append_getElem hj, val_snoc, List.getD_eq_getElem?_getD, List.getElem?_eq_getElem hj]; rfl
  bd := fun j hj => by
    have := val_take_le (decDigits x) (decDigits x).length j hj (Nat.le_refl _)
    rw [List.take_length, dec_val] at this
    exact this
  last := by show val _ = x; rw [List.take_length, dec_val]
  lead := fun h => by
    by_cases h1 : 1 ≤ x
    · exfalso
      apply dec_lead x h1
      have h2 : ((decDigits x).getD 0 0).toNat = (48 : UInt8).toNat := h
      exact UInt8.toNat_inj.1 h2
    · have h0 : x = 0 := by omega
      subst h0
      rw [dec_small (by omega)]; rfl

/-- The byte at place q of the string, where the text from p on opens with the numeral. -/
theorem byte_at (s : ByteArray) (p : Nat) (l t : List UInt8) (h : s.data.toList.drop p = l ++ t) (q : Nat) (h1 : p ≤ q) (h2 : q - p < l.length) :
    ∃ hq : q < s.size, s[q].toNat = (l.getD (q - p) 0).toNat := by
  have e : (s.data.toList.drop p)[q - p]? = l[q - p]? := by rw [h, List.getElem?_append_left h2]
  rw [List.getElem?_drop, show p + (q - p) = q by omega, List.getElem?_eq_getElem h2] at e
  have hq : q < s.size := by
    rcases Nat.lt_or_ge q s.data.toList.length with h' | h'
    · simpa using h'
    · rw [List.getElem?_eq_none h'] at e; cases e
  refine ⟨hq, ?_⟩
  rw [List.getElem?_eq_getElem (by simpa using hq)] at e
  rw [List.getD_eq_getElem?_getD, List.getElem?_eq_getElem h2]
  exact congrArg UInt8.toNat (Option.some.inj e)

theorem drop_more {l : List UInt8} {p : Nat} {a t : List UInt8} (h : l.drop p = a ++ t) (n : Nat) (hn : n = p + a.length) : l.drop n = t := by
  subst hn
  rw [← List.drop_drop, h, List.drop_left]
end Go.Proofs.Qxb6603248aDoor
