/-
  reads (8).
-/
import Derived.Test.Qxb6603248aDoorWd
import Derived.Deep.RegionWith
namespace Go.Proofs.Qxb6603248aDoor
open Go.RowKit
set_option linter.unusedVariables false

theorem info9 : (Tryd.prog.info? 9).map (fun i => (i.zero, i.size, i.bytes)) = some (some (.string ⟨#[]⟩), 1, 16) := by kernel_rfl

/-- The numeral as a string. -/
def decStr (x : Nat) : ByteArray := ⟨(Lib.decDigits x).toArray⟩
theorem decStr_list (x : Nat) : (decStr x).data.toList = Lib.decDigits x := by simp [decStr]

theorem decStr_size (x : Nat) (h : x < 4294967296) : (decStr x).size ≤ 10 := by
  have h1 : (decStr x).size = (Lib.decDigits x).length := by simp [decStr, ByteArray.size]
  rw [h1]; exact dec_len_le x h

def scells (X : Nat → Nat) (n k : Nat) : List Value := (List.range n).map fun i => .string (if i < k then decStr (X i) else ⟨#[]⟩)
theorem scells_zero (X : Nat → Nat) (n : Nat) : scells X n 0 = List.replicate n (.string ⟨#[]⟩) := by
  apply List.ext_getElem?
  intro i
  by_cases h : i < n <;> simp [scells, h]
theorem scells_set (X : Nat → Nat) (n k : Nat) : (scells X n k).set k (.string (decStr (X k))) = scells X n (k + 1) := by
  apply List.ext_getElem?
  intro i
  by_cases h : i < n
  · by_cases hi : k = i
    · subst hi; simp [scells, h]
    · have h1 : (i < k + 1) ↔ i < k := by omega
      simp [scells, h, hi, h1]
  · simp [scells, h]
theorem scells_at (X : Nat → Nat) (n k i : Nat) (h : i < n) (hk : i < k) : (scells X n k)[i]? = some (.string (decStr (X i))) := by
  simp [scells, h, hk]
theorem scells_some (X : Nat → Nat) (n k i : Nat) (h : i < n) : ∃ v, (scells X n k)[i]? = some (.string v) := by
  simp [scells, h]

theorem own_below {w w' : World} {B e n : Nat} {v : Value} {xs : List Value} (h : w.ownsRow B e 1 v n xs) (hb : Below w.heap.size w w') : w'.ownsRow B e 1 v n xs := by
  refine ⟨h.1, ?_⟩
  rcases h.2 with h1 | ⟨g, cap, cur, hv, hB, hg, rest⟩
  · exact .inl h1
  · refine .inr ⟨g, cap, cur, hv, hB, ?_, rest⟩
    have hlt : g < w.heap.size := (Array.getElem?_eq_some_iff.1 hg).1
    rw [hb.block g hlt]; exact hg

theorem tab_below {B : Nat} {w w' : World} (h : Lib.TabIs Tryd.prog w Tryd.powName .u64 Lib.pow10Tab) (hb : Below B w w') (h0 : 0 < B) : Lib.TabIs Tryd.prog w' Tryd.powName .u64 Lib.pow10Tab :=
  var?_below (g := 0) hb (by kernel_rfl) h0 h

/-- The text of the list. -/
def textOf (n : Nat) (X : Nat → Nat) : List UInt8 := (if n = 1 then [102, 111, 114, 109, 97, 116, 32] else [102, 111, 114, 109, 97, 116, 115, 32]) ++ body ((List.range n).map X)
def Said (n : Nat) (X : Nat → Nat) (w w' : World) (e : Ending) : Prop := ∃ s : ByteArray, e = .returned (.string s) ∧ s.data.toList = textOf n X ∧ Below w.heap.size w w'

theorem said_one {X : Nat → Nat} {w w' : World} {d : ByteArray} (hd : d.data.toList = Lib.decDigits (X 0)) (hb : Below w.heap.size w w') : Said 1 X w w' (.returned (.string ((⟨#[102, 111, 114, 109, 97, 116, 32]⟩ : ByteArray) ++ d))) := by
  refine ⟨_, rfl, ?_, hb⟩
  simp [textOf, body, glue, hd]

theorem said_many {m : Nat} {X : Nat → Nat} {w w' : World} {J d : ByteArray} (hm : 1 ≤ m) (hJ : J.data.toList = Lib.join ((List.range m).map fun i => Lib.decDigits (X i)) sepB) (hd : d.data.toList = Lib.decDigits (X m)) (hb : Below w.heap.size w w') :
    Said (m + 1) X w w' (.returned (.string ((⟨#[102, 111, 114, 109, 97, 116, 115, 32]⟩ : ByteArray) ++ J ++ (⟨#[32, 97, 110, 100, 32]⟩ : ByteArray) ++ d))) := by
  refine ⟨_, rfl, ?_, hb⟩
  have h1 := body_join ((List.range m).map X) (X m) (by simp; omega)
  rw [List.map_map] at h1
  rw [textOf, if_neg (by omega), List.range_succ, List.map_append, List.map_singleton, ← h1]
  simp [hJ, hd, andB]
  rfl

theorem join_len_list (l : List (List UInt8)) (h : ∀ a ∈ l, a.length ≤ 10) : (Lib.join l sepB).length ≤ 12 * l.length := by
  induction l with
  | nil => simp [Lib.join_nil]
  | cons x r ih =>
    have hx := h x (by simp)
    cases r with
    | nil => rw [Lib.join_one]; simp; omega
    | cons y r' =>
      have h2 := ih (fun a ha => h a (by simp at ha ⊢; exact .inr ha))
      rw [join_two]
      have h3 : sepB.length = 2 := rfl
      simp only [List.length_append, List.length_cons, h3] at h2 ⊢
      omega

theorem join_len (X : Nat → Nat) (m : Nat) (hX : ∀ i, i < m → X i < 4294967296) : (Lib.join ((List.range m).map fun i => Lib.decDigits (X i)) sepB).length ≤ 12 * m := by
  have h := join_len_list ((List.range m).map fun i => Lib.decDigits (X i)) (fun a ha => by
    simp at ha
    obtain ⟨i, hi, rfl⟩ := ha
    exact dec_len_le _ (hX i hi))
  simpa using h

theorem join_at (g m : Nat) (X : Nat → Nat) (wr : World) (hc : ∀ i, i < m → wr.cell? ⟨g, i, none⟩ = some (.string (decStr (X i)))) (hX : ∀ i, i < m → X i < 4294967296) (hm : 1 ≤ m) (hmb : m ≤ 65536) :
    ∃ J : ByteArray, J.data.toList = Lib.join ((List.range m).map fun i => Lib.decDigits (X i)) sepB ∧ J.size ≤ 1000000 ∧
      ∀ W : World, W.heap = wr.heap → Calls Tryd.prog 11 #[.slice (some ⟨g, 0, none⟩) m (m + 1), .string ⟨#[44, 32]⟩] W fun e w' => e = .returned (.string J) ∧ Below W.heap.size W w' := by
  have hlen := join_len X m hX
  have hmap : (((List.range m).map fun i => decStr (X i)).map (·.data.toList)) = (List.range m).map fun i => Lib.decDigits (X i) := by
    rw [List.map_map]
    exact List.map_congr_left fun i _ => decStr_list (X i)
  refine ⟨⟨(Lib.join ((List.range m).map fun i => Lib.decDigits (X i)) sepB).toArray⟩, by simp, by simp [ByteArray.size]; omega, fun W hW => ?_⟩
  have hcell : ∀ i, i < m → W.cell? ⟨g, i, none⟩ = some (.string (decStr (X i))) := fun i hi => by
    rw [← hc i hi]; unfold World.cell?; rw [hW]
  have h := Tryd.strings_Join g 0 (m + 1) ((List.range m).map fun i => decStr (X i)) ⟨#[44, 32]⟩ W (by
    intro j x hj
    have hjm : j < m := by
      rcases Nat.lt_or_ge j m with h | h
      · exact h
      · rw [List.getElem?_eq_none (by simpa using h)] at hj; cases hj
    simp [hjm] at hj
    rw [Nat.zero_add, ← hj]; exact hcell j hjm) (block_lt (hcell 0 (by omega))) (by simp; omega) (by simp) (by rw [hmap]; show (Lib.join _ sepB).length ≤ _; omega)
  rw [hmap] at h
  simp only [List.length_map, List.length_range] at h
  exact h

set_option maxHeartbeats 4000000 in
theorem reads_walk (pb gb n : Nat) (X : Nat → Nat) (w : World) (hp : w.cell? ⟨pb, 1, none⟩ = some (.slice (some ⟨gb, 0, none⟩) n n)) (hv : U32s w (some ⟨gb, 0, none⟩) n X) (hX : ∀ i, i < n → X i < 4294967296)
    (hn1 : 1 ≤ n) (hn : n ≤ 65536) (htab : Lib.TabIs Tryd.prog w Tryd.powName .u64 Lib.pow10Tab) (h0 : 0 < w.heap.size) :
    Calls Tryd.prog 8 #[.pointer (some ⟨pb, 0, none⟩)] w fun e w' => Said n X w w' e := by
  have HV : Hid (U32s w (some ⟨gb, 0, none⟩) n X) := hv
  have HX : Hid (∀ i, i < n → X i < 4294967296) := hX
  have HT : Hid (Lib.TabIs Tryd.prog w Tryd.powName .u64 Lib.pow10Tab) := htab
  have HP : Hid (w.cell? ⟨pb, 1, none⟩ = some (.slice (some ⟨gb, 0, none⟩) n n)) := hp
  clear hv hX htab
  obtain ⟨i0, hi, hz0, hz1, hz2⟩ := info_parts info9
  go_enter Tryd.func8, Tryd.ntmps8
  go_wp2_with (at_make; refine wpList_make_full _ rfl _ _ 38 rfl w.heap.size 9 i0 (.string ⟨#[]⟩) 1 Tryd.underlying38 hi hz0 hz1 _ _ _ _ n rfl rfl rfl rfl ?b2 ?b3 (Nat.le_refl _) ?_)
  case b2 => rw [hz2]; omega
  case b3 => unfold maxLen; omega
  intro w0 hown0 hgrow0
  have HO : Hid (w0.ownsRow w.heap.size 9 1 (.slice (some ⟨w.heap.size, 0, none⟩) n n) n (scells X n 0)) := by
    rw [scells_zero, ← toList_madeCells_one]; show World.ownsRow _ _ _ _ _ _ _; simpa using hown0
  have hB : Below w.heap.size w w0 := (Below.refl _ _).grown hgrow0 (Nat.le_refl _) (fun k h => by cases h)
  have hp0 : w0.cell? ⟨pb, 1, none⟩ = some (.slice (some ⟨gb, 0, none⟩) n n) := (hB.cell (p := ⟨pb, 1, none⟩) (by exact block_lt hp)).trans hp
  have HB : Hid (Below w.heap.size w w0) := hB
  clear hown0 hgrow0 hi hz0 hz1 hz2 hp hB
  go_wp2
  clear hp0
  go_loopw [18] (fun i wr => ∃ k : Nat, k ≤ n ∧ i = .int .i64 k ∧ Hid (wr.ownsRow w.heap.size 9 1 (.slice (some ⟨w.heap.size, 0, none⟩) n n) n (scells X n k)) ∧ Hid (Below w.heap.size w wr)) (fun i _ => n - (intOf i).toNat)
  case atStart => exact ⟨0, Nat.zero_le _, rfl, HO, HB⟩
  case round =>
    clear HO HB
    obtain ⟨k, hk, rfl, HO, HB⟩ := hrel
    by_cases hlt : k < n
    · have hcr : wr.cell? ⟨gb, k, none⟩ = some (.int .u32 (X k : Int)) := (HV.out.below HB.out (Nat.le_refl _)).cell k hlt
      have hxk := HX.out k hlt
      have HF : Hid (Calls Tryd.prog 10 #[.int .u64 (X k : Int), .int .i64 10] wr fun e w' => e = .returned (.string (decStr (X k))) ∧ Below wr.heap.size wr w') := fmtUint_walk (X k) (by omega) wr (tab_below HT.out HB.out h0)
      go_wp2_with fail
      refine HF.out.mono ?_
      clear HF hcr
      rintro e w1 ⟨rfl, hb1⟩
      have HO1 : Hid (w1.ownsRow w.heap.size 9 1 (.slice (some ⟨w.heap.size, 0, none⟩) n n) n (scells X n k)) := own_below HO.out hb1
      have HB1 : Hid (Below w.heap.size w w1) := HB.out.trans (hb1.mono HB.out.size)
      obtain ⟨v0, hv0⟩ := scells_some X n k k hlt
      have hcw : w1.cell? ⟨w.heap.size, k, none⟩ = some (.string v0) := (HO1.out.cellAt k (by omega)).trans hv0
      have hfz : w1.frozen? ⟨w.heap.size, k, none⟩ = false := HO1.out.frozenAt k
      clear hv0 hb1 HO HB hxk
      go_wp2
      go_roundw
      case rel =>
        have hst := HO1.out.stored k (.string (decStr (X k)))
        rw [scells_set] at hst
        exact ⟨k + 1, by omega, by go_num, hst.1, HB1.out.grown hst.2 HB1.out.size (fun k h => by cases h; exact Nat.le_refl _)⟩
      case measure => simp [intOf]; omega
    · obtain rfl : k = n := by omega
      clear hlt hk
      by_cases hone : k = 1
      · subst hone
        have hc0 : wr.cell? ⟨w.heap.size, 0, none⟩ = some (.string (decStr (X 0))) := (HO.out.cellAt 0 (by omega)).trans (scells_at X 1 1 0 (by omega) (by omega))
        have hds : (decStr (X 0)).size ≤ 10 := decStr_size (X 0) (HX.out 0 (by omega))
        have HL : Hid ((decStr (X 0)).data.toList = Lib.decDigits (X 0)) := decStr_list (X 0)
        generalize decStr (X 0) = d at hc0 hds HL
        go_wp2
        go_ret
        exact said_one HL.out HB.out
      · obtain ⟨m, rfl⟩ : ∃ m, k = m + 1 := ⟨k - 1, by omega⟩
        have hm : 1 ≤ m := by omega
        have HJ0 : Hid (∀ i, i < m + 1 → wr.cell? ⟨w.heap.size, i, none⟩ = some (.string (decStr (X i)))) := fun i hi => (HO.out.cellAt i (by omega)).trans (scells_at X (m + 1) (m + 1) i hi hi)
        have hcl : wr.cell? ⟨w.heap.size, m, none⟩ = some (.string (decStr (X m))) := HJ0.out m (by omega)
        have hds : (decStr (X m)).size ≤ 10 := decStr_size (X m) (HX.out m (by omega))
        have HL : Hid ((decStr (X m)).data.toList = Lib.decDigits (X m)) := decStr_list (X m)
        generalize decStr (X m) = d at hcl hds HL
        obtain ⟨J, hJ, hJs, hcall⟩ := join_at w.heap.size m X wr (fun i hi => HJ0.out i (by omega)) (fun i hi => HX.out i (by omega)) hm (by omega)
        have HJ : Hid (J.data.toList = Lib.join ((List.range m).map fun i => Lib.decDigits (X i)) sepB) := hJ
        have HC : Hid (∀ W : World, W.heap = wr.heap → Calls Tryd.prog 11 #[.slice (some ⟨w.heap.size, 0, none⟩) m (m + 1), .string ⟨#[44, 32]⟩] W fun e w' => e = .returned (.string J) ∧ Below W.heap.size W w') := hcall
        clear hJ hcall HJ0 HO HV HX HP HT
        go_wp2_with fail
        go_region_with (go_at_call 11; refine (HC.out _ ?_).mono ?_; rfl; rintro e w1 ⟨rfl, hb1⟩; have hc1 : w1.cell? ⟨w.heap.size, m, none⟩ = some (.string d) := (hb1.cell (p := ⟨w.heap.size, m, none⟩) (by exact block_lt hcl)).trans hcl; have HW1 : Hid (Below w.heap.size w w1) := HB.out.drew.trans (hb1.mono HB.out.size); clear hb1)
        all_goals
          go_wp2
          go_ret
          exact said_many hm HJ.out HL.out (Hid.out (by assumption))
end Go.Proofs.Qxb6603248aDoor
