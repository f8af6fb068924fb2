/-
  The size guards: zzb1Bytes (14), zzb1Small (7), zzBytes_.. (6).
-/
import Derived.Test.Qxb6602119aWa
namespace Go.Proofs.Qxb6602119a
open Go.RowKit

/-- The ending is some bool. -/
def SomeBool (e : Ending) : Prop := ∃ b : Bool, e = .returned (.bool b)
theorem SomeBool.mk (b : Bool) : SomeBool (.returned (.bool b)) := ⟨b, rfl⟩

/-- The ending is some int of a small size. -/
def SmallInt (e : Ending) : Prop := ∃ t : Int, 0 ≤ t ∧ t ≤ 4000000 ∧ e = .returned (.int .i64 t)
theorem SmallInt.mk (t : Int) (h0 : 0 ≤ t) (h1 : t ≤ 4000000) : SmallInt (.returned (.int .i64 t)) := ⟨t, h0, h1, rfl⟩

set_option maxHeartbeats 1000000 in
theorem b1bytes_walk (a : Option Addr) (n c : Nat) (X : Nat → ByteArray) (w : World) (hv : Strs w a n X) (hn : n ≤ 9223372036854775807) :
    Calls Try.prog 14 #[.slice a n c] w fun e w' => SmallInt e ∧ w' = w := by
  have HV : Hid (Strs w a n X) := hv
  clear hv
  go_enter Try.func14, Try.ntmps14
  go_wp2
  go_loop [3, 4] (fun s i => ∃ (k : Nat) (t : Int), k ≤ n ∧ 0 ≤ t ∧ t ≤ 1048576 ∧ i = .int .i64 k ∧ s = .int .i64 t) (fun _ i => n - (intOf i).toNat)
  case atStart => exact ⟨0, 0, Nat.zero_le _, by omega, by omega, rfl, rfl⟩
  case round =>
    obtain ⟨k, t, hk, ht0, ht1, rfl, rfl⟩ := hrel
    by_cases hlt : k < n
    · obtain ⟨b, off, rfl, hc⟩ := HV.out k hlt
      generalize hx : X k = x at hc
      clear hx
      go_wp2
      · go_ret
        exact ⟨SmallInt.mk _ (by omega) (by omega), rfl⟩
      · go_ret
        exact ⟨SmallInt.mk _ (by omega) (by omega), rfl⟩
      · go_round
        case rel => exact ⟨k + 1, _, by omega, by omega, by omega, by go_num, rfl⟩
        case measure => simp [intOf]; omega
    · go_wp2
      go_ret
      exact ⟨SmallInt.mk _ (by omega) (by omega), rfl⟩

/-- The guard lets by only what is short. -/
def SmallPost (n1 n2 n3 : Nat) (e : Ending) : Prop := ∃ b : Bool, e = .returned (.bool b) ∧ (b = true → n1 ≤ 4096 ∧ n2 ≤ 4096 ∧ n3 ≤ 4096)
theorem SmallPost.no (n1 n2 n3 : Nat) : SmallPost n1 n2 n3 (.returned (.bool false)) := ⟨false, rfl, fun h => by cases h⟩
theorem SmallPost.yes {n1 n2 n3 : Nat} (h : n1 ≤ 4096 ∧ n2 ≤ 4096 ∧ n3 ≤ 4096) : SmallPost n1 n2 n3 (.returned (.bool true)) := ⟨true, rfl, fun _ => h⟩

set_option maxHeartbeats 1000000 in
theorem small_walk (a1 a2 a3 : Option Addr) (n1 c1 n2 c2 n3 c3 : Nat) (X Y Z : Nat → ByteArray) (w : World) (hv1 : Strs w a1 n1 X) (hv2 : Strs w a2 n2 Y) (hv3 : Strs w a3 n3 Z)
    (hn1 : n1 ≤ 9223372036854775807) (hn2 : n2 ≤ 9223372036854775807) (hn3 : n3 ≤ 9223372036854775807) :
    Calls Try.prog 7 #[.slice a1 n1 c1, .slice a2 n2 c2, .slice a3 n3 c3] w fun e w' => SmallPost n1 n2 n3 e ∧ w' = w := by
  have H1 : Hid (Calls Try.prog 14 #[.slice a1 n1 c1] w fun e w' => SmallInt e ∧ w' = w) := b1bytes_walk a1 n1 c1 X w hv1 hn1
  have H2 : Hid (Calls Try.prog 14 #[.slice a2 n2 c2] w fun e w' => SmallInt e ∧ w' = w) := b1bytes_walk a2 n2 c2 Y w hv2 hn2
  have H3 : Hid (Calls Try.prog 14 #[.slice a3 n3 c3] w fun e w' => SmallInt e ∧ w' = w) := b1bytes_walk a3 n3 c3 Z w hv3 hn3
  clear hv1 hv2 hv3
  go_enter Try.func7, Try.ntmps7
  go_wp2_with fail
  refine H1.out.mono ?_
  rintro e w1 ⟨⟨t1, h10, h11, rfl⟩, hw1⟩
  subst w1
  go_wp2_with fail
  refine H2.out.mono ?_
  rintro e w1 ⟨⟨t2, h20, h21, rfl⟩, hw1⟩
  subst w1
  go_wp2_with fail
  refine H3.out.mono ?_
  rintro e w1 ⟨⟨t3, h30, h31, rfl⟩, hw1⟩
  subst w1
  clear H1 H2 H3
  go_wp2
  all_goals first
    | (go_ret; exact ⟨SmallPost.no _ _ _, rfl⟩)
    | (go_ret; exact ⟨SmallPost.yes (by omega), rfl⟩)

set_option maxHeartbeats 4000000 in
theorem bytes_walk (a1 a2 a3 : Option Addr) (n1 c1 n2 c2 n3 c3 : Nat) (X Y Z : Nat → ByteArray) (w : World) (hv1 : Strs w a1 n1 X) (hv2 : Strs w a2 n2 Y) (hv3 : Strs w a3 n3 Z)
    (hn1 : n1 ≤ 9223372036854775807) (hn2 : n2 ≤ 9223372036854775807) (hn3 : n3 ≤ 9223372036854775807) :
    Calls Try.prog 6 #[.slice a1 n1 c1, .slice a2 n2 c2, .slice a3 n3 c3] w fun e w' => SomeBool e ∧ w' = w := by
  have HV1 : Hid (Strs w a1 n1 X) := hv1
  have HV2 : Hid (Strs w a2 n2 Y) := hv2
  have HV3 : Hid (Strs w a3 n3 Z) := hv3
  clear hv1 hv2 hv3
  go_enter Try.func6, Try.ntmps6
  go_wp2
  · go_ret; exact ⟨SomeBool.mk _, rfl⟩
  go_loop [7, 8] (fun s i => ∃ (k : Nat) (t : Int), k ≤ n1 ∧ 0 ≤ t ∧ t ≤ 1048576 ∧ i = .int .i64 k ∧ s = .int .i64 t) (fun _ i => n1 - (intOf i).toNat)
  case atStart => exact ⟨0, n1, Nat.zero_le _, by omega, by omega, rfl, rfl⟩
  case round =>
    obtain ⟨k, t, hk, ht0, ht1, rfl, rfl⟩ := hrel
    by_cases hlt : k < n1
    · obtain ⟨b, off, rfl, hc⟩ := HV1.out k hlt
      generalize hx : X k = x at hc
      clear hx
      go_wp2
      · go_ret; exact ⟨SomeBool.mk _, rfl⟩
      · go_ret; exact ⟨SomeBool.mk _, rfl⟩
      · go_round
        case rel => exact ⟨k + 1, _, by omega, by omega, by omega, by go_num, rfl⟩
        case measure => simp [intOf]; omega
    · go_wp2
      · go_ret; exact ⟨SomeBool.mk _, rfl⟩
      · go_ret; exact ⟨SomeBool.mk _, rfl⟩
      go_loop [7, 9] (fun s i => ∃ (k : Nat) (t : Int), k ≤ n2 ∧ 0 ≤ t ∧ t ≤ 1048576 ∧ i = .int .i64 k ∧ s = .int .i64 t) (fun _ i => n2 - (intOf i).toNat)
      case atStart => exact ⟨0, _, Nat.zero_le _, by omega, by omega, rfl, rfl⟩
      case round =>
        clear hlt hk ht0 ht1
        obtain ⟨k2, t2, hk, ht0, ht1, rfl, rfl⟩ := hrel
        by_cases hlt : k2 < n2
        · obtain ⟨b, off, rfl, hc⟩ := HV2.out k2 hlt
          generalize hx : Y k2 = x at hc
          clear hx
          go_wp2
          · go_ret; exact ⟨SomeBool.mk _, rfl⟩
          · go_ret; exact ⟨SomeBool.mk _, rfl⟩
          · go_round
            case rel => exact ⟨k2 + 1, _, by omega, by omega, by omega, by go_num, rfl⟩
            case measure => simp [intOf]; omega
        · go_wp2
          · go_ret; exact ⟨SomeBool.mk _, rfl⟩
          · go_ret; exact ⟨SomeBool.mk _, rfl⟩
          go_loop [7, 10] (fun s i => ∃ (k : Nat) (t : Int), k ≤ n3 ∧ 0 ≤ t ∧ t ≤ 1048576 ∧ i = .int .i64 k ∧ s = .int .i64 t) (fun _ i => n3 - (intOf i).toNat)
          case atStart => exact ⟨0, _, Nat.zero_le _, by omega, by omega, rfl, rfl⟩
          case round =>
            clear hlt hk ht0 ht1
            obtain ⟨k3, t3, hk, ht0, ht1, rfl, rfl⟩ := hrel
            by_cases hlt : k3 < n3
            · obtain ⟨b, off, rfl, hc⟩ := HV3.out k3 hlt
              generalize hx : Z k3 = x at hc
              clear hx
              go_wp2
              · go_ret; exact ⟨SomeBool.mk _, rfl⟩
              · go_ret; exact ⟨SomeBool.mk _, rfl⟩
              · go_round
                case rel => exact ⟨k3 + 1, _, by omega, by omega, by omega, by go_num, rfl⟩
                case measure => simp [intOf]; omega
            · go_wp2
              go_ret; exact ⟨SomeBool.mk _, rfl⟩
end Go.Proofs.Qxb6602119a
