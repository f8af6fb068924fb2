/-
  The plain law of placeColumns: what it comes to, said of the rows of strings. No Go here.
-/
namespace Go.Proofs.Qxb6602119a
set_option linter.unusedVariables false
set_option linter.unusedSimpArgs false

/-- The header row is fine. -/
def Acc (ng h no : Nat) (G H O : Nat → ByteArray) : Prop :=
  h ≤ ng ∧ (∀ i, i < h → (G i).toList = (H i).toList) ∧
    ∀ a, h ≤ a → a < ng → (∃ j, j < no ∧ (O j).toList = (G a).toList) ∧ ∀ b, a < b → b < ng → (G b).toList ≠ (G a).toList

/-- v is the place of the optional column j. -/
def IsSlot (ng h : Nat) (G O : Nat → ByteArray) (j : Nat) (v : Int) : Prop :=
  (v = -1 ∧ ∃ k, k < j ∧ (O k).toList = (O j).toList) ∨
  ((∀ k, k < j → (O k).toList ≠ (O j).toList) ∧
    ((v = -1 ∧ ∀ a, h ≤ a → a < ng → (G a).toList ≠ (O j).toList) ∨
     ∃ a : Nat, h ≤ a ∧ a < ng ∧ v = (a : Int) ∧ (G a).toList = (O j).toList ∧ ∀ a', h ≤ a' → a' < a → (G a').toList ≠ (O j).toList))

theorem IsSlot.unique {ng h : Nat} {G O : Nat → ByteArray} {j : Nat} {v v' : Int} (h1 : IsSlot ng h G O j v) (h2 : IsSlot ng h G O j v') : v = v' := by
  rcases h1 with ⟨rfl, k, hk, he⟩ | ⟨hf, h1⟩
  · rcases h2 with ⟨rfl, _⟩ | ⟨hf, _⟩
    · rfl
    · exact absurd he (hf k hk)
  · rcases h2 with ⟨rfl, k, hk, he⟩ | ⟨_, h2⟩
    · exact absurd he (hf k hk)
    · rcases h1 with ⟨rfl, h1⟩ | ⟨a, ha, hb, rfl, he, hn⟩
      · rcases h2 with ⟨rfl, _⟩ | ⟨a, ha, hb, rfl, he, _⟩
        · rfl
        · exact absurd he (h1 a ha hb)
      · rcases h2 with ⟨rfl, h2⟩ | ⟨a2, ha2, hb2, rfl, he2, hn2⟩
        · exact absurd he (h2 a ha hb)
        · rcases Nat.lt_trichotomy a a2 with h | h | h
          · exact absurd he (hn2 a ha h)
          · rw [h]
          · exact absurd he2 (hn a2 ha2 h)

/-- What holds of the list 'where' behind the columns h .. m-1. -/
def Inv (ng h no m : Nat) (G O : Nat → ByteArray) (wh : List Int) : Prop :=
  wh.length = h + no ∧ (∀ i, i < h → wh.getD i 0 = (i : Int)) ∧
  (∀ j, j < no → (wh.getD (h + j) 0 = -1 ∧ ∀ a, h ≤ a → a < m → ¬ ((G a).toList = (O j).toList ∧ ∀ k, k < j → (O k).toList ≠ (O j).toList)) ∨
    ∃ a : Nat, h ≤ a ∧ a < m ∧ wh.getD (h + j) 0 = (a : Int) ∧ (G a).toList = (O j).toList ∧ ∀ k, k < j → (O k).toList ≠ (O j).toList) ∧
  (∀ a, h ≤ a → a < m → ∃ j, j < no ∧ (O j).toList = (G a).toList) ∧
  ∀ a b, h ≤ a → a < b → b < m → (G b).toList ≠ (G a).toList

theorem Inv.start (ng h no : Nat) (G O : Nat → ByteArray) :
    Inv ng h no h G O ((List.range h).map (fun i => ((i : Nat) : Int)) ++ List.replicate no (-1)) := by
  refine ⟨by simp, ?_, ?_, fun a h1 h2 => by omega, fun a b h1 h2 h3 => by omega⟩
  · intro i hi
    simp [List.getD, List.getElem?_append, hi]
  · intro j hj
    refine .inl ⟨?_, fun a h1 h2 => by omega⟩
    simp [List.getD, List.getElem?_append, hj]

/-- The next column is not among the optional ones: refused. -/
theorem Inv.stray {ng h no m : Nat} {G H O : Nat → ByteArray} {wh : List Int} (_hI : Inv ng h no m G O wh) (hm : h ≤ m) (hmg : m < ng)
    (hx : ∀ j, j < no → (O j).toList ≠ (G m).toList) : ¬ Acc ng h no G H O := by
  rintro ⟨_, _, hA⟩
  obtain ⟨⟨j, hj, he⟩, _⟩ := hA m hm hmg
  exact hx j hj he

/-- The next column's place is taken: refused. -/
theorem Inv.twice {ng h no m : Nat} {G H O : Nat → ByteArray} {wh : List Int} (hI : Inv ng h no m G O wh) (_hm : h ≤ m) (hmg : m < ng) {i : Nat} (hi : i < no)
    (he : (O i).toList = (G m).toList) (h0 : 0 ≤ wh.getD (h + i) 0) : ¬ Acc ng h no G H O := by
  rintro ⟨_, _, hA⟩
  rcases hI.2.2.1 i hi with ⟨h1, _⟩ | ⟨a, ha, ham, _, hg, _⟩
  · omega
  · exact (hA a ha (by omega)).2 m ham hmg (by rw [hg, he])

/-- The next column gets its place. -/
theorem Inv.step {ng h no m : Nat} {G O : Nat → ByteArray} {wh : List Int} (hI : Inv ng h no m G O wh) (hm : h ≤ m) {i : Nat} (hi : i < no)
    (he : (O i).toList = (G m).toList) (hf : ∀ k, k < i → (O k).toList ≠ (G m).toList) (h0 : ¬ 0 ≤ wh.getD (h + i) 0) : Inv ng h no (m + 1) G O (wh.set (h + i) (m : Int)) := by
  obtain ⟨hl, hh, hs, hin, hd⟩ := hI
  have hnone : ∀ a, h ≤ a → a < m → (G a).toList ≠ (O i).toList := by
    rcases hs i hi with ⟨_, h1⟩ | ⟨a, _, _, h1, _⟩
    · intro a ha ham hga
      exact h1 a ha ham ⟨hga, fun k hk => by rw [he]; exact hf k hk⟩
    · omega
  have hset : ∀ q, q ≠ h + i → (wh.set (h + i) (m : Int)).getD q 0 = wh.getD q 0 := by
    intro q hq
    simp [List.getD, List.getElem?_set, Ne.symm hq]
  have hat : (wh.set (h + i) (m : Int)).getD (h + i) 0 = (m : Int) := by
    simp [List.getD, List.getElem?_set, hl, hi]
  refine ⟨by simp [hl], ?_, ?_, ?_, ?_⟩
  · intro q hq
    rw [hset q (by omega)]; exact hh q hq
  · intro j hj
    by_cases hji : j = i
    · subst hji
      exact .inr ⟨m, hm, by omega, hat, he.symm, fun k hk => by rw [he]; exact hf k hk⟩
    · rw [hset (h + j) (by omega)]
      rcases hs j hj with ⟨h1, h2⟩ | ⟨a, ha, ham, h1, h2, h3⟩
      · refine .inl ⟨h1, fun a ha ham => ?_⟩
        rcases Nat.lt_or_ge a m with h' | h'
        · exact h2 a ha h'
        · obtain rfl : a = m := by omega
          rintro ⟨hg, hk⟩
          rcases Nat.lt_or_ge i j with h4 | h4
          · exact hk i h4 (by rw [he, hg])
          · exact hf j (by omega) (by rw [hg])
      · exact .inr ⟨a, ha, by omega, h1, h2, h3⟩
  · intro a ha ham
    rcases Nat.lt_or_ge a m with h' | h'
    · exact hin a ha h'
    · obtain rfl : a = m := by omega
      exact ⟨i, hi, he⟩
  · intro a b ha hab hb
    rcases Nat.lt_or_ge b m with h' | h'
    · exact hd a b ha hab h'
    · obtain rfl : b = m := by omega
      intro hg
      exact hnone a ha hab (by rw [he, hg])

/-- At the end: the row is fine, and each place is the model's. -/
theorem Inv.done {ng h no : Nat} {G H O : Nat → ByteArray} {wh : List Int} (hI : Inv ng h no ng G O wh) (hle : h ≤ ng) (hp : ∀ i, i < h → (G i).toList = (H i).toList) :
    Acc ng h no G H O ∧ ∀ j, j < no → IsSlot ng h G O j (wh.getD (h + j) 0) := by
  obtain ⟨hl, hh, hs, hin, hd⟩ := hI
  refine ⟨⟨hle, hp, fun a ha hag => ⟨hin a ha hag, fun b hab hb => hd a b ha hab hb⟩⟩, fun j hj => ?_⟩
  rcases hs j hj with ⟨h1, h2⟩ | ⟨a, ha, ham, h1, h2, h3⟩
  · by_cases hk : ∃ k, k < j ∧ (O k).toList = (O j).toList
    · exact .inl ⟨h1, hk⟩
    · have hk' : ∀ k, k < j → (O k).toList ≠ (O j).toList := fun k h e => hk ⟨k, h, e⟩
      exact .inr ⟨hk', .inl ⟨h1, fun a ha hag e => h2 a ha hag ⟨e, hk'⟩⟩⟩
  · refine .inr ⟨h3, .inr ⟨a, ha, ham, h1, h2, fun a' ha' hlt e => ?_⟩⟩
    exact hd a' a ha' hlt ham (by rw [h2, e])

end Go.Proofs.Qxb6602119a
