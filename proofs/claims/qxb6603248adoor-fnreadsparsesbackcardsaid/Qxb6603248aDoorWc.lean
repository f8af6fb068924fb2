/-
  zzParseReads (7).
-/
import Derived.Test.Qxb6603248aDoorWb
import Derived.OwnWalk
namespace Go.Proofs.Qxb6603248aDoor
open Go.RowKit
set_option linter.unusedVariables false

theorem info31 : (Tryd.prog.info? 31).map (fun i => (i.zero, i.size, i.bytes)) = some (some (.int .u64 0), 1, 8) := by kernel_rfl

/-- The cells of the first k numbers. -/
def ncells (R : List Nat) (k : Nat) : List Value := (R.take k).map fun (x : Nat) => Value.int .u64 (x : Int)
theorem ncells_succ (R : List Nat) (k x : Nat) (r : List Nat) (h : R.drop k = x :: r) : ncells R (k + 1) = ncells R k ++ [.int .u64 (x : Int)] := by
  have h1 : R[k]? = some x := by
    have := congrArg (fun l => l[0]?) h
    simpa using this
  unfold ncells
  rw [List.take_add_one, h1]; simp

/-- A slice that owns a row has this shape. -/
theorem own_shape {w : World} {B e n : Nat} {v : Value} {xs : List Value} (h : w.ownsRow B e 1 v n xs) : ∃ a cap, v = .slice a n cap := by
  rcases h.2 with ⟨rfl, rfl⟩ | ⟨g, cap, cur, rfl, _⟩
  · exact ⟨none, 0, rfl⟩
  · exact ⟨_, cap, rfl⟩
theorem own_block {w : World} {B e n : Nat} {v : Value} {xs : List Value} (h : w.ownsRow B e 1 v n xs) (k : Nat) (hk : v.ownBlock = some k) : B ≤ k := by
  rcases h.2 with ⟨rfl, rfl⟩ | ⟨g, cap, cur, rfl, hb, _⟩
  · cases hk
  · cases hk; exact hb

/-- What the outer loop knows at the number k. -/
theorem num_at (s : ByteArray) (p k : Nat) (R : List Nat) (hk : k < R.length) (hR : ∀ x ∈ R, x < 4294967296) (h : s.data.toList.drop p = body (R.drop k)) :
    ∃ (x : Nat) (r : List Nat) (L : Nat) (D V : Nat → Nat), R.drop k = x :: r ∧ r.length + (k + 1) = R.length ∧ x < 4294967296 ∧ Num x L D V ∧
      (∀ q, p ≤ q → q < p + L → ∃ hq : q < s.size, s[q].toNat = D (q - p)) ∧ s.data.toList.drop (p + L) = glue r ++ body r ∧ p + L ≤ s.size := by
  have hd : R.drop k = R[k] :: R.drop (k + 1) := List.drop_eq_getElem_cons hk
  have hx := hR R[k] (List.getElem_mem hk)
  rw [hd] at h
  have hb : body (R[k] :: R.drop (k + 1)) = Lib.decDigits R[k] ++ (glue (R.drop (k + 1)) ++ body (R.drop (k + 1))) := rfl
  rw [hb] at h
  refine ⟨R[k], R.drop (k + 1), (Lib.decDigits R[k]).length, _, _, hd, by simp; omega, hx, num_of R[k] hx, fun q h1 h2 => byte_at s p _ _ h q h1 (by omega), drop_more h _ rfl, ?_⟩
  have hl := congrArg List.length h
  have hpos := dec_len_pos R[k]
  simp at hl
  omega

theorem next_byte (s : ByteArray) (q : Nat) (c : UInt8) (t : List UInt8) (h : s.data.toList.drop q = c :: t) : ∃ hq : q < s.size, s[q].toNat = c.toNat := by
  obtain ⟨hq, e⟩ := byte_at s q [c] t h q (Nat.le_refl _) (by simp)
  exact ⟨hq, by simpa using e⟩

theorem end_of (s : ByteArray) (q : Nat) (h : s.data.toList.drop q = []) (hq : q ≤ s.size) : q = s.size := by
  have := congrArg List.length h
  simp at this; omega

theorem drop_tail {R : List Nat} {k x : Nat} {r : List Nat} (h : R.drop k = x :: r) : R.drop (k + 1) = r := by
  rw [← List.drop_drop, h]; rfl
theorem room_of (s : ByteArray) {q : Nat} {a t : List UInt8} (h : s.data.toList.drop q = a ++ t) (hq : q ≤ s.size) : q + a.length ≤ s.size := by
  have := congrArg List.length h
  simp at this; omega

/-- How the reader ends. -/
def Parsed (w w' : World) (R : List Nat) (e : Ending) : Prop :=
  ∃ a cap, e = .returned (.tuple #[.slice a R.length cap, .bool (decide (R.length ≠ 1)), .bool true]) ∧ w'.ownsRow w.heap.size 31 1 (.slice a R.length cap) R.length (ncells R R.length) ∧ Below w.heap.size w w'

theorem parsed_mk {w w1 : World} {R : List Nat} {k cap : Nat} {a : Option Addr} (hk : R.length = k + 1) (hk1 : 2 ≤ R.length) (ho : w1.ownsRow w.heap.size 31 1 (.slice a (k + 1) cap) (k + 1) (ncells R (k + 1))) (hw : Below w.heap.size w w1) :
    Parsed w w1 R (.returned (.tuple #[.slice a (k + 1) cap, .bool true, .bool true])) := by
  refine ⟨a, cap, ?_, by rw [hk]; exact ho, hw⟩
  rw [hk, decide_eq_true (by omega)]

set_option maxRecDepth 100000 in
set_option maxHeartbeats 8000000 in
theorem parse_many (s : ByteArray) (R : List Nat) (w : World) (hn2 : 2 ≤ R.length) (hn : R.length ≤ 65536) (hR : ∀ x ∈ R, x < 4294967296) (hs : s.size ≤ 4000000)
    (ht : s.data.toList = [102, 111, 114, 109, 97, 116, 115, 32] ++ body R) :
    Calls Tryd.prog 7 #[.string s] w fun e w' => Parsed w w' R e := by
  obtain ⟨i0, hi, hz0, hz1, hz2⟩ := info_parts info31
  have HI : Hid (Tryd.prog.info? 31 = some i0 ∧ i0.zero = some (.int .u64 0) ∧ i0.size = 1 ∧ i0.bytes = 8) := ⟨hi, hz0, hz1, hz2⟩
  clear hi hz0 hz1 hz2
  have H1 : Hid (Calls Tryd.prog 9 #[.string s, .string ⟨#[102, 111, 114, 109, 97, 116, 115, 32]⟩] w fun e w' => e = .returned (.bool true) ∧ w' = w) := by
    refine (has_walk s ⟨#[102, 111, 114, 109, 97, 116, 115, 32]⟩ w (by omega) (by decide)).mono ?_
    rintro e w' ⟨rfl, rfl⟩
    exact ⟨by rw [ht, pre_append], rfl⟩
  have HT : Hid (s.data.toList.drop 8 = body R) := by show _ = _; rw [ht]; rfl
  have HR : Hid (∀ x ∈ R, x < 4294967296) := hR
  have h8 : 8 ≤ s.size := by
    have h1 := congrArg List.length ht
    simp at h1; omega
  clear ht hR
  go_enter Tryd.func7, Tryd.ntmps7
  go_wp2_with fail
  refine H1.out.mono ?_
  clear H1
  rintro e w1 ⟨rfl, hw1⟩
  subst w1
  go_wp2_with fail
  go_loopw [5, 7, 8] (fun pos v sa wr => ∃ (k p : Nat) (a : Option Addr) (cap : Nat) (b : Bool), pos = .int .i64 p ∧ v = .slice a k cap ∧ sa = .bool b ∧ k < R.length ∧ p ≤ s.size ∧ Hid (s.data.toList.drop p = body (R.drop k)) ∧ Hid (b = true ↔ k + 1 = R.length ∧ 2 ≤ R.length) ∧ Hid (wr.ownsRow w.heap.size 31 1 (.slice a k cap) k (ncells R k)) ∧ Hid (Below w.heap.size w wr)) (fun pos _ _ _ => s.size - (intOf pos).toNat)
  case atStart => exact ⟨0, 8, none, 0, false, rfl, rfl, rfl, by omega, h8, HT, ⟨fun h => by (cases h), fun h => by omega⟩, World.ownsRow_nil _ _ _ _, Below.refl _ _⟩
  case round =>
    obtain ⟨k, p, a, cap, b, rfl, rfl, rfl, hk, hp, HD, HS, HO, HW⟩ := hrel
    obtain ⟨x, r, L, D, V, hdrop, hlen, hx, hN, hchr, hrest, hpl⟩ := num_at s p k R hk HR.out HD.out
    have HDR : Hid (R.drop k = x :: r) := hdrop
    have HN : Hid (Num x L D V) := hN
    have HC : Hid (∀ q, p ≤ q → q < p + L → ∃ hq : q < s.size, s[q].toNat = D (q - p)) := hchr
    have HRE : Hid (s.data.toList.drop (p + L) = glue r ++ body r) := hrest
    have hL1 : 1 ≤ L := hN.pos
    have hL10 : L ≤ 10 := hN.le
    clear hdrop hN hchr hrest HD
    go_wp2_with fail
    go_loop [5, 10] (fun pos v => ∃ q : Nat, p ≤ q ∧ q ≤ p + L ∧ pos = .int .i64 q ∧ v = .int .u64 (V (q - p))) (fun pos _ => p + L - (intOf pos).toNat)
    case atStart => exact ⟨p, Nat.le_refl _, by omega, rfl, by rw [Nat.sub_self, HN.out.v0]; rfl⟩
    case round =>
      obtain ⟨q, hq1, hq2, rfl, rfl⟩ := hrel
      by_cases hlt : q < p + L
      · obtain ⟨hqs, hc⟩ := HC.out q hq1 hlt
        have hdg := HN.out.dig (q - p) (by omega)
        have hst := HN.out.step (q - p) (by omega)
        have hbd := HN.out.bd (q - p + 1) (by omega)
        rw [hst] at hbd
        rw [show q - p + 1 = q + 1 - p by omega] at hst
        generalize hcD : D (q - p) = c at hc hdg hst hbd
        generalize hvV : V (q - p) = v at *
        obtain ⟨d, rfl⟩ : ∃ d, c = 48 + d := ⟨c - 48, by omega⟩
        have hd9 : d ≤ 9 := by omega
        have HST : Hid (V (q + 1 - p) = v * 10 + d) := by show _ = _; rw [hst]; omega
        have hvb : v * 10 + d < 4294967296 := by omega
        clear hst hbd hdg hcD hvV
        go_wp2
        go_round
        case rel => exact ⟨q + 1, by omega, by omega, by go_num, by rw [HST.out]; go_num⟩
        case measure => simp [intOf]; omega
      · obtain rfl : q = p + L := by omega
        clear hlt hq1 hq2
        obtain ⟨hps, hc0⟩ := HC.out p (Nat.le_refl _) (by omega)
        rw [Nat.sub_self] at hc0
        have hz : (L ≤ 1 ∧ (((s[p].toNat : Nat) : Int) == 48) = true) ∨ (((s[p].toNat : Nat) : Int) == 48) = false := by
          by_cases h48 : D 0 = 48
          · exact .inl ⟨by rw [HN.out.lead h48]; exact Nat.le_refl _, by rw [hc0, h48]; rfl⟩
          · exact .inr (by rw [beq_eq_false_iff_ne, hc0]; omega)
        rw [show V (p + L - p) = x from by rw [Nat.add_sub_cancel_left]; exact HN.out.last]
        clear HC hc0 HN
        cases r with
        | nil =>
          have hend := end_of s (p + L) HRE.out hpl
          have hend2 : s.size ≤ p + L := by omega
          have hkn : R.length = k + 1 := by simp at hlen; omega
          have hb : b = true := HS.out.2 ⟨by omega, hn2⟩
          subst hb
          clear hend HS HRE hlen
          rcases hz with ⟨hL, hz⟩ | hz
          all_goals
            go_wp2_with (at_builtin; refine wpList_append_own _ rfl (.tmp 59) (.tmp 61) 28 rfl w.heap.size 31 i0 (.int .u64 0) 1 8 Tryd.underlying28 HI.out.1 HI.out.2.1 HI.out.2.2.1 HI.out.2.2.2 rfl (by decide) _ k _ rfl (HO.out.alloc _) ⟨wr.heap.size, 0, none⟩ 1 1 [.int .u64 x] rfl rfl (by intro t u ht; match t, ht with | 0, ht => simp at ht; subst ht; simp [Addr.add]) (by intro u hu; simp at hu; subst hu; rfl) (by unfold maxLen; omega) (by omega) (by have := HW.out.size; simp; omega) ?_)
            intro v' w1 hown' hgrow hnil
            have HO2 : Hid (w1.ownsRow w.heap.size 31 1 v' (k + 1) (ncells R (k + 1))) := by rw [ncells_succ R k x _ HDR.out]; exact hown'
            have HW2 : Hid (Below w.heap.size w w1) := (HW.out.alloc HW.out.size _).grown hgrow (by have := HW.out.size; simp; omega) (fun j hj => own_block HO.out j hj)
            obtain ⟨a1, cap1, rfl⟩ := own_shape hown'
            clear hown' hgrow hnil HO HW
            go_wp2
            go_ret3
            exact parsed_mk hkn (by omega) HO2.out HW2.out
        | cons y r1 =>
          have hb : b = false := by
            cases b
            · rfl
            · exfalso
              have h1 := (HS.out.1 rfl).1
              simp at hlen; omega
          subst hb
          have hk1 : k + 1 < R.length := by simp at hlen; omega
          cases r1 with
          | nil =>
            have hkn : k + 2 = R.length := by simp at hlen; omega
            obtain ⟨hqs, hcq⟩ := next_byte s (p + L) 32 _ HRE.out
            have hcq2 : ((s[p + L].toNat : Nat) : Int) < 48 := by rw [hcq]; decide
            have HNO : Hid (∀ W, Calls Tryd.prog 9 #[.string (s.extract (p + L) s.size), .string ⟨#[44, 32]⟩] W fun e w' => e = .returned (.bool false) ∧ w' = W) := fun W => has_no s ⟨#[44, 32]⟩ (p + L) 32 44 _ [32] W hs (by decide) HRE.out rfl (by decide)
            have HYES : Hid (∀ W, Calls Tryd.prog 9 #[.string (s.extract (p + L) s.size), .string ⟨#[32, 97, 110, 100, 32]⟩] W fun e w' => e = .returned (.bool true) ∧ w' = W) := fun W => has_yes s ⟨#[32, 97, 110, 100, 32]⟩ (p + L) _ W hs (by decide) HRE.out
            have HD2 : Hid (s.data.toList.drop (p + L + 5) = body (R.drop (k + 1))) := by
              show _ = _
              rw [drop_more HRE.out (p + L + 5) rfl, drop_tail HDR.out]
            have hp5 : p + L + 5 ≤ s.size := room_of s HRE.out hpl
            clear hcq HS HRE hlen
            rcases hz with ⟨hL, hz⟩ | hz
            all_goals
              go_wp2_with (at_builtin; refine wpList_append_own _ rfl (.tmp 59) (.tmp 61) 28 rfl w.heap.size 31 i0 (.int .u64 0) 1 8 Tryd.underlying28 HI.out.1 HI.out.2.1 HI.out.2.2.1 HI.out.2.2.2 rfl (by decide) _ k _ rfl (HO.out.alloc _) ⟨wr.heap.size, 0, none⟩ 1 1 [.int .u64 x] rfl rfl (by intro t u ht; match t, ht with | 0, ht => simp at ht; subst ht; simp [Addr.add]) (by intro u hu; simp at hu; subst hu; rfl) (by unfold maxLen; omega) (by omega) (by have := HW.out.size; simp; omega) ?_)
              intro v' w1 hown' hgrow hnil
              have HO2 : Hid (w1.ownsRow w.heap.size 31 1 v' (k + 1) (ncells R (k + 1))) := by rw [ncells_succ R k x _ HDR.out]; exact hown'
              have HW2 : Hid (Below w.heap.size w w1) := (HW.out.alloc HW.out.size _).grown hgrow (by have := HW.out.size; simp; omega) (fun j hj => own_block HO.out j hj)
              obtain ⟨a1, cap1, rfl⟩ := own_shape hown'
              clear hown' hgrow hnil HO HW
              go_wp2_with fail
              refine (HNO.out _).mono ?_
              rintro e w2 ⟨rfl, hw2⟩
              subst w2
              go_wp2_with fail
              refine (HYES.out _).mono ?_
              rintro e w2 ⟨rfl, hw2⟩
              subst w2
              go_wp2
              go_roundw
              case rel => exact ⟨k + 1, p + L + 5, a1, cap1, true, by go_num, rfl, rfl, hk1, hp5, HD2, ⟨fun _ => ⟨by omega, hn2⟩, fun _ => rfl⟩, HO2, HW2⟩
              case measure => simp [intOf]; omega
          | cons z r2 =>
            have hkn : k + 2 < R.length := by simp at hlen; omega
            obtain ⟨hqs, hcq⟩ := next_byte s (p + L) 44 _ HRE.out
            have hcq2 : ((s[p + L].toNat : Nat) : Int) < 48 := by rw [hcq]; decide
            have HYES : Hid (∀ W, Calls Tryd.prog 9 #[.string (s.extract (p + L) s.size), .string ⟨#[44, 32]⟩] W fun e w' => e = .returned (.bool true) ∧ w' = W) := fun W => has_yes s ⟨#[44, 32]⟩ (p + L) _ W hs (by decide) HRE.out
            have HD2 : Hid (s.data.toList.drop (p + L + 2) = body (R.drop (k + 1))) := by
              show _ = _
              rw [drop_more HRE.out (p + L + 2) rfl, drop_tail HDR.out]
            have hp5 : p + L + 2 ≤ s.size := room_of s HRE.out hpl
            clear hcq HS HRE hlen
            rcases hz with ⟨hL, hz⟩ | hz
            all_goals
              go_wp2_with (at_builtin; refine wpList_append_own _ rfl (.tmp 59) (.tmp 61) 28 rfl w.heap.size 31 i0 (.int .u64 0) 1 8 Tryd.underlying28 HI.out.1 HI.out.2.1 HI.out.2.2.1 HI.out.2.2.2 rfl (by decide) _ k _ rfl (HO.out.alloc _) ⟨wr.heap.size, 0, none⟩ 1 1 [.int .u64 x] rfl rfl (by intro t u ht; match t, ht with | 0, ht => simp at ht; subst ht; simp [Addr.add]) (by intro u hu; simp at hu; subst hu; rfl) (by unfold maxLen; omega) (by omega) (by have := HW.out.size; simp; omega) ?_)
              intro v' w1 hown' hgrow hnil
              have HO2 : Hid (w1.ownsRow w.heap.size 31 1 v' (k + 1) (ncells R (k + 1))) := by rw [ncells_succ R k x _ HDR.out]; exact hown'
              have HW2 : Hid (Below w.heap.size w w1) := (HW.out.alloc HW.out.size _).grown hgrow (by have := HW.out.size; simp; omega) (fun j hj => own_block HO.out j hj)
              obtain ⟨a1, cap1, rfl⟩ := own_shape hown'
              clear hown' hgrow hnil HO HW
              go_wp2_with fail
              refine (HYES.out _).mono ?_
              rintro e w2 ⟨rfl, hw2⟩
              subst w2
              go_wp2
              go_roundw
              case rel => exact ⟨k + 1, p + L + 2, a1, cap1, false, by go_num, rfl, rfl, hk1, hp5, HD2, ⟨fun h => by (cases h), fun h => by omega⟩, HO2, HW2⟩
              case measure => simp [intOf]; omega

theorem parsed_mk1 {w w1 : World} {R : List Nat} {k cap : Nat} {a : Option Addr} (hk : R.length = k + 1) (hk1 : R.length = 1) (ho : w1.ownsRow w.heap.size 31 1 (.slice a (k + 1) cap) (k + 1) (ncells R (k + 1))) (hw : Below w.heap.size w w1) :
    Parsed w w1 R (.returned (.tuple #[.slice a (k + 1) cap, .bool false, .bool true])) := by
  refine ⟨a, cap, ?_, by rw [hk]; exact ho, hw⟩
  rw [hk, decide_eq_false (by omega)]

set_option maxRecDepth 100000 in
set_option maxHeartbeats 8000000 in
theorem parse_one (s : ByteArray) (R : List Nat) (w : World) (hn1 : R.length = 1) (hR : ∀ x ∈ R, x < 4294967296) (hs : s.size ≤ 4000000)
    (ht : s.data.toList = [102, 111, 114, 109, 97, 116, 32] ++ body R) :
    Calls Tryd.prog 7 #[.string s] w fun e w' => Parsed w w' R e := by
  obtain ⟨i0, hi, hz0, hz1, hz2⟩ := info_parts info31
  have HI : Hid (Tryd.prog.info? 31 = some i0 ∧ i0.zero = some (.int .u64 0) ∧ i0.size = 1 ∧ i0.bytes = 8) := ⟨hi, hz0, hz1, hz2⟩
  clear hi hz0 hz1 hz2
  have H0 : Hid (Calls Tryd.prog 9 #[.string s, .string ⟨#[102, 111, 114, 109, 97, 116, 115, 32]⟩] w fun e w' => e = .returned (.bool false) ∧ w' = w) := by
    refine (has_walk s ⟨#[102, 111, 114, 109, 97, 116, 115, 32]⟩ w (by omega) (by decide)).mono ?_
    rintro e w' ⟨rfl, rfl⟩
    exact ⟨by rw [ht]; rfl, rfl⟩
  have H1 : Hid (Calls Tryd.prog 9 #[.string s, .string ⟨#[102, 111, 114, 109, 97, 116, 32]⟩] w fun e w' => e = .returned (.bool true) ∧ w' = w) := by
    refine (has_walk s ⟨#[102, 111, 114, 109, 97, 116, 32]⟩ w (by omega) (by decide)).mono ?_
    rintro e w' ⟨rfl, rfl⟩
    exact ⟨by rw [ht, pre_append], rfl⟩
  have HT : Hid (s.data.toList.drop 7 = body R) := by show _ = _; rw [ht]; rfl
  have HR : Hid (∀ x ∈ R, x < 4294967296) := hR
  have h8 : 7 ≤ s.size := by
    have h1 := congrArg List.length ht
    simp at h1; omega
  clear ht hR
  have hn : R.length ≤ 65536 := by omega
  have HN1 : Hid (R.length = 1) := hn1
  have hle1 : R.length ≤ 1 := by omega
  clear hn1
  go_enter Tryd.func7, Tryd.ntmps7
  go_wp2_with fail
  refine H0.out.mono ?_
  clear H0
  rintro e w1 ⟨rfl, hw1⟩
  subst w1
  go_wp2_with fail
  refine H1.out.mono ?_
  clear H1
  rintro e w1 ⟨rfl, hw1⟩
  subst w1
  go_wp2_with fail
  go_loopw [5, 7, 8] (fun pos v sa wr => ∃ (k p : Nat) (a : Option Addr) (cap : Nat) (b : Bool), pos = .int .i64 p ∧ v = .slice a k cap ∧ sa = .bool b ∧ k < R.length ∧ p ≤ s.size ∧ Hid (s.data.toList.drop p = body (R.drop k)) ∧ Hid (b = true ↔ k + 1 = R.length ∧ 2 ≤ R.length) ∧ Hid (wr.ownsRow w.heap.size 31 1 (.slice a k cap) k (ncells R k)) ∧ Hid (Below w.heap.size w wr)) (fun pos _ _ _ => s.size - (intOf pos).toNat)
  case atStart => exact ⟨0, 7, none, 0, false, rfl, rfl, rfl, by rw [HN1.out]; omega, h8, HT, ⟨fun h => by (cases h), fun h => by omega⟩, World.ownsRow_nil _ _ _ _, Below.refl _ _⟩
  case round =>
    obtain ⟨k, p, a, cap, b, rfl, rfl, rfl, hk, hp, HD, HS, HO, HW⟩ := hrel
    obtain ⟨x, r, L, D, V, hdrop, hlen, hx, hN, hchr, hrest, hpl⟩ := num_at s p k R hk HR.out HD.out
    have HDR : Hid (R.drop k = x :: r) := hdrop
    have HN : Hid (Num x L D V) := hN
    have HC : Hid (∀ q, p ≤ q → q < p + L → ∃ hq : q < s.size, s[q].toNat = D (q - p)) := hchr
    have HRE : Hid (s.data.toList.drop (p + L) = glue r ++ body r) := hrest
    have hL1 : 1 ≤ L := hN.pos
    have hL10 : L ≤ 10 := hN.le
    clear hdrop hN hchr hrest HD
    go_wp2_with fail
    go_loop [5, 10] (fun pos v => ∃ q : Nat, p ≤ q ∧ q ≤ p + L ∧ pos = .int .i64 q ∧ v = .int .u64 (V (q - p))) (fun pos _ => p + L - (intOf pos).toNat)
    case atStart => exact ⟨p, Nat.le_refl _, by omega, rfl, by rw [Nat.sub_self, HN.out.v0]; rfl⟩
    case round =>
      obtain ⟨q, hq1, hq2, rfl, rfl⟩ := hrel
      by_cases hlt : q < p + L
      · obtain ⟨hqs, hc⟩ := HC.out q hq1 hlt
        have hdg := HN.out.dig (q - p) (by omega)
        have hst := HN.out.step (q - p) (by omega)
        have hbd := HN.out.bd (q - p + 1) (by omega)
        rw [hst] at hbd
        rw [show q - p + 1 = q + 1 - p by omega] at hst
        generalize hcD : D (q - p) = c at hc hdg hst hbd
        generalize hvV : V (q - p) = v at *
        obtain ⟨d, rfl⟩ : ∃ d, c = 48 + d := ⟨c - 48, by omega⟩
        have hd9 : d ≤ 9 := by omega
        have HST : Hid (V (q + 1 - p) = v * 10 + d) := by show _ = _; rw [hst]; omega
        have hvb : v * 10 + d < 4294967296 := by omega
        clear hst hbd hdg hcD hvV
        go_wp2
        go_round
        case rel => exact ⟨q + 1, by omega, by omega, by go_num, by rw [HST.out]; go_num⟩
        case measure => simp [intOf]; omega
      · obtain rfl : q = p + L := by omega
        clear hlt hq1 hq2
        obtain ⟨hps, hc0⟩ := HC.out p (Nat.le_refl _) (by omega)
        rw [Nat.sub_self] at hc0
        have hz : (L ≤ 1 ∧ (((s[p].toNat : Nat) : Int) == 48) = true) ∨ (((s[p].toNat : Nat) : Int) == 48) = false := by
          by_cases h48 : D 0 = 48
          · exact .inl ⟨by rw [HN.out.lead h48]; exact Nat.le_refl _, by rw [hc0, h48]; rfl⟩
          · exact .inr (by rw [beq_eq_false_iff_ne, hc0]; omega)
        rw [show V (p + L - p) = x from by rw [Nat.add_sub_cancel_left]; exact HN.out.last]
        clear HC hc0 HN
        cases r with
        | nil =>
          have hend := end_of s (p + L) HRE.out hpl
          have hend2 : s.size ≤ p + L := by omega
          have hkn : R.length = k + 1 := by simp at hlen; omega
          have hb : b = false := by
            cases b
            · rfl
            · exact absurd (HS.out.1 rfl).2 (by omega)
          subst hb
          have hk0 : k ≤ 0 := by omega
          clear hend HS HRE hlen
          rcases hz with ⟨hL, hz⟩ | hz
          all_goals
            go_wp2_with (at_builtin; refine wpList_append_own _ rfl (.tmp 59) (.tmp 61) 28 rfl w.heap.size 31 i0 (.int .u64 0) 1 8 Tryd.underlying28 HI.out.1 HI.out.2.1 HI.out.2.2.1 HI.out.2.2.2 rfl (by decide) _ k _ rfl (HO.out.alloc _) ⟨wr.heap.size, 0, none⟩ 1 1 [.int .u64 x] rfl rfl (by intro t u ht; match t, ht with | 0, ht => simp at ht; subst ht; simp [Addr.add]) (by intro u hu; simp at hu; subst hu; rfl) (by unfold maxLen; omega) (by omega) (by have := HW.out.size; simp; omega) ?_)
            intro v' w1 hown' hgrow hnil
            have HO2 : Hid (w1.ownsRow w.heap.size 31 1 v' (k + 1) (ncells R (k + 1))) := by rw [ncells_succ R k x _ HDR.out]; exact hown'
            have HW2 : Hid (Below w.heap.size w w1) := (HW.out.alloc HW.out.size _).grown hgrow (by have := HW.out.size; simp; omega) (fun j hj => own_block HO.out j hj)
            obtain ⟨a1, cap1, rfl⟩ := own_shape hown'
            clear hown' hgrow hnil HO HW
            go_wp2
            go_ret3
            exact parsed_mk1 hkn (by omega) HO2.out HW2.out
        | cons y r1 => exact absurd hlen (by simp; omega)
end Go.Proofs.Qxb6603248aDoor
