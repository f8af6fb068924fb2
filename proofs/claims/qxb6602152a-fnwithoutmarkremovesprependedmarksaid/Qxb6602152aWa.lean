/-
  Views of rows of bytes; zzBytes_.. (4), zzMarkBytes (5), zzSameBytes (7).
-/
import Derived.Test.Qxb6602152aRows
import Derived.Test.Qxb6602152aShelf
import Derived.WalkKit
import Derived.WalkSmall
import Derived.Below
import Derived.OwnWalk
import Derived.Deep.DeepFit
import Derived.Deep.QuietTactic
import Derived.BigQuiet
import Derived.Laws.CopyOwn
import Derived.Lib.ConvBytes
import Derived.Lib.AtoiErrMem
namespace Go.Proofs.Qxb6602152a
open Go.RowKit
set_option linter.unusedVariables false

/-- The slice's first n cells hold the bytes X 0, X 1, .. -/
def Bys (w : World) (a : Option Addr) (n : Nat) (X : Nat → Int) : Prop :=
  ∀ i, i < n → ∃ b off, a = some ⟨b, off, none⟩ ∧ w.cell? ⟨b, off + i, none⟩ = some (.int .u8 (X i))

/-- w' is w behind some draws. -/
def Drawn (w w' : World) : Prop := ∃ m, w' = w.drewN m
theorem Drawn.refl (w : World) : Drawn w w := ⟨0, rfl⟩
theorem Drawn.mk (w : World) (m : Nat) : Drawn w (w.drewN m) := ⟨m, rfl⟩
theorem Drawn.mk2 (w : World) (m k : Nat) : Drawn w ((w.drewN m).drewN k) := ⟨m + k, by simp⟩

theorem block_lt {w : World} {b o : Nat} {v : Value} (h : w.cell? ⟨b, o, none⟩ = some v) : b < w.heap.size := by
  rcases Nat.lt_or_ge b w.heap.size with h' | h'
  · exact h'
  · simp [World.cell?, Array.getElem?_eq_none h'] at h

theorem Bys.below {w w' : World} {a : Option Addr} {n B : Nat} {X : Nat → Int} (h : Bys w a n X) (hb : Below B w w') (hB : w.heap.size ≤ B) : Bys w' a n X := by
  intro i hi
  obtain ⟨b, o, rfl, hc⟩ := h i hi
  exact ⟨b, o, rfl, (hb.cell (p := ⟨b, o + i, none⟩) (by have := block_lt hc; show b < B; omega)).trans hc⟩

theorem Bys.cell {w : World} {b n : Nat} {X : Nat → Int} (h : Bys w (some ⟨b, 0, none⟩) n X) (i : Nat) (hi : i < n) : w.cell? ⟨b, i, none⟩ = some (.int .u8 (X i)) := by
  obtain ⟨b', o, e, hc⟩ := h i hi
  cases e
  simpa using hc

/-- How long the mark m is, and its bytes. -/
def lm (m : Nat) : Nat := if m = 2 then 3 else 2
def mk (m i : Nat) : Int :=
  if m = 0 then (if i = 0 then 255 else 254) else if m = 1 then (if i = 0 then 254 else 255) else (if i = 0 then 239 else if i = 1 then 187 else 191)

theorem lm_bd (m : Nat) : 2 ≤ lm m ∧ lm m ≤ 3 := by unfold lm; split <;> omega

/-- The ending is the mark m in new memory. -/
def Marked (w w' : World) (m : Nat) (e : Ending) : Prop :=
  ∃ b, e = .returned (.slice (some ⟨b, 0, none⟩) (lm m) (lm m)) ∧ Bys w' (some ⟨b, 0, none⟩) (lm m) (mk m) ∧ Below w.heap.size w w'

theorem mark_walk (m : Nat) (hm : m < 3) (w : World) : Calls Try.prog 5 #[.int .i64 m] w fun e w' => Marked w w' m e := by
  obtain rfl | rfl | rfl : m = 0 ∨ m = 1 ∨ m = 2 := by omega
  · clear hm
    go_enter Try.func5, Try.ntmps5
    go_wp2
    go_ret
    refine ⟨_, rfl, fun i hi => ⟨_, 0, rfl, ?_⟩, (Below.refl _ _).alloc (Nat.le_refl _) _⟩
    obtain rfl | rfl : i = 0 ∨ i = 1 := by simp [lm] at hi; omega
    all_goals (rw [World.cell?_alloc_at (hn := by simp)]; rfl)
  · clear hm
    go_enter Try.func5, Try.ntmps5
    go_wp2
    go_ret
    refine ⟨_, rfl, fun i hi => ⟨_, 0, rfl, ?_⟩, (Below.refl _ _).alloc (Nat.le_refl _) _⟩
    obtain rfl | rfl : i = 0 ∨ i = 1 := by simp [lm] at hi; omega
    all_goals (rw [World.cell?_alloc_at (hn := by simp)]; rfl)
  · clear hm
    go_enter Try.func5, Try.ntmps5
    go_wp2
    go_ret
    refine ⟨_, rfl, fun i hi => ⟨_, 0, rfl, ?_⟩, (Below.refl _ _).alloc (Nat.le_refl _) _⟩
    obtain rfl | rfl | rfl : i = 0 ∨ i = 1 ∨ i = 2 := by simp [lm] at hi; omega
    all_goals (rw [World.cell?_alloc_at (hn := by simp)]; rfl)

def SomeBool (e : Ending) : Prop := ∃ b : Bool, e = .returned (.bool b)
theorem SomeBool.mk (b : Bool) : SomeBool (.returned (.bool b)) := ⟨b, rfl⟩

theorem bytes_walk (a : Option Addr) (n c : Nat) (w : World) (hn : n ≤ 9223372036854775807) :
    Calls Try.prog 4 #[.slice a n c] w fun e w' => SomeBool e ∧ w' = w := by
  go_enter Try.func4, Try.ntmps4
  go_wp2
  all_goals (go_ret; exact ⟨SomeBool.mk _, rfl⟩)

set_option maxHeartbeats 1000000 in
theorem same_walk (a1 a2 : Option Addr) (n c1 c2 : Nat) (X Y : Nat → Int) (w : World) (hv1 : Bys w a1 n X) (hv2 : Bys w a2 n Y) (hn : n ≤ 9223372036854775807) (he : ∀ i, i < n → X i = Y i) :
    Calls Try.prog 7 #[.slice a1 n c1, .slice a2 n c2] w fun e w' => e = .returned (.bool true) ∧ Drawn w w' := by
  have HV1 : Hid (Bys w a1 n X) := hv1
  have HV2 : Hid (Bys w a2 n X) := fun i hi => by
    obtain ⟨b, o, e, h⟩ := hv2 i hi
    exact ⟨b, o, e, by rw [h, he i hi]⟩
  clear hv1 hv2 he
  go_enter Try.func7, Try.ntmps7
  go_wp2
  go_loopw [5] (fun i wr => ∃ k m : Nat, k ≤ n ∧ wr = w.drewN m ∧ i = .int .i64 k) (fun i _ => n - (intOf i).toNat)
  case atStart => exact ⟨0, 0, Nat.zero_le _, rfl, rfl⟩
  case round =>
    obtain ⟨k, m, hk, rfl, rfl⟩ := hrel
    by_cases hlt : k < n
    · obtain ⟨b, off, rfl, hc⟩ := HV1.out k hlt
      obtain ⟨b', off', rfl, hc'⟩ := HV2.out k hlt
      generalize X k = x at hc hc'
      have hlti : (k : Int) < (n : Int) := by omega
      have hk0 : (0 : Int) ≤ (k : Int) := by omega
      go_wp2
      go_quiet (fail)
      go_wp2
      go_roundw
      case rel => exact ⟨k + 1, m + nq, by omega, by simp, by go_num⟩
      case measure => simp [intOf]; omega
    · go_wp2
      go_ret
      exact ⟨rfl, Drawn.mk _ _⟩
end Go.Proofs.Qxb6602152a
