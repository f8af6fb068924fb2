/-
  The shelf's contracts for bytes.CutPrefix and bytes.TrimPrefix at this dump (as the kit's tools print them).
-/
import Derived.Shelf.Bytes.Small
import Derived.Test.Qxb6602152aProg
namespace Go.Proofs
open Go.Shelf
def Try.laysnb139_ren : Go.Shelf.Ren := ⟨fun | 139 => 12 | 116 => 11 | 115 => 13 | n => n, fun | 37 => 22 | 4 => 4 | 3 => 3 | 9 => 9 | 5 => 5 | n => n, fun | n => n⟩
theorem Try.laysnb139 : Go.Proofs.Lays.nb139 Try.prog Try.laysnb139_ren := {
  mixed := by kernel_rfl
  f115 := Try.func13.trans (congrArg some (by kernel_rfl))
  f116 := Try.func11.trans (congrArg some (by kernel_rfl))
  f139 := Try.func12.trans (congrArg some (by kernel_rfl))
  t3 := Try.underlying3
  a3 := Try.isAgg3
  z3 := Try.sizeOf3
  v3 := Try.zeroValue3
  t4 := Try.underlying4
  a4 := Try.isAgg4
  z4 := Try.sizeOf4
  v4 := Try.zeroValue4
  t9 := Try.underlying9
  a9 := Try.isAgg9
  z9 := Try.sizeOf9
  v9 := Try.zeroValue9
  t37 := Try.underlying22
  a37 := Try.isAgg22
  z37 := Try.sizeOf22
  v37 := Try.zeroValue22
  t5 := Try.underlying5
  a5 := Try.isAgg5
  z5 := Try.sizeOf5
  v5 := Try.zeroValue5 }
def Try.laysnb141_ren : Go.Shelf.Ren := ⟨fun | 141 => 9 | 116 => 11 | 115 => 13 | n => n, fun | 37 => 22 | 4 => 4 | 3 => 3 | 9 => 9 | 5 => 5 | n => n, fun | n => n⟩
theorem Try.laysnb141 : Go.Proofs.Lays.nb141 Try.prog Try.laysnb141_ren := {
  mixed := by kernel_rfl
  f115 := Try.func13.trans (congrArg some (by kernel_rfl))
  f116 := Try.func11.trans (congrArg some (by kernel_rfl))
  f141 := Try.func9.trans (congrArg some (by kernel_rfl))
  t3 := Try.underlying3
  a3 := Try.isAgg3
  z3 := Try.sizeOf3
  v3 := Try.zeroValue3
  t4 := Try.underlying4
  a4 := Try.isAgg4
  z4 := Try.sizeOf4
  v4 := Try.zeroValue4
  t9 := Try.underlying9
  a9 := Try.isAgg9
  z9 := Try.sizeOf9
  v9 := Try.zeroValue9
  t37 := Try.underlying22
  a37 := Try.isAgg22
  z37 := Try.sizeOf22
  v37 := Try.zeroValue22
  t5 := Try.underlying5
  a5 := Try.isAgg5
  z5 := Try.sizeOf5
  v5 := Try.zeroValue5 }
theorem Try.bytes_TrimPrefix (b1 o1 n c b2 o2 m d : Nat) (xs ys : List Int) (w : World) (hx : xs.length = n) (hy : ys.length = m) (hnc : n ≤ c) (hc1 : ∀ i, i < n → w.cell? ⟨b1, o1 + i, none⟩ = some (.int .u8 (xs.getD i 0))) (hc2 : ∀ i, i < m → w.cell? ⟨b2, o2 + i, none⟩ = some (.int .u8 (ys.getD i 0))) :
    Calls Try.prog 12 #[.slice (some ⟨b1, o1, none⟩) n c, .slice (some ⟨b2, o2, none⟩) m d] w fun e w' => e = .returned (Lib.bytesTrimPrefix b1 o1 n c xs ys) ∧ w' = w := Any.bytes_TrimPrefix Try.laysnb139 b1 o1 n c b2 o2 m d xs ys w hx hy hnc hc1 hc2
theorem Try.bytes_CutPrefix (b1 o1 n c b2 o2 m d : Nat) (xs ys : List Int) (w : World) (hx : xs.length = n) (hy : ys.length = m) (hnc : n ≤ c) (hc1 : ∀ i, i < n → w.cell? ⟨b1, o1 + i, none⟩ = some (.int .u8 (xs.getD i 0))) (hc2 : ∀ i, i < m → w.cell? ⟨b2, o2 + i, none⟩ = some (.int .u8 (ys.getD i 0))) :
    Calls Try.prog 9 #[.slice (some ⟨b1, o1, none⟩) n c, .slice (some ⟨b2, o2, none⟩) m d] w fun e w' => e = .returned (.tuple #[Lib.bytesTrimPrefix b1 o1 n c xs ys, .bool (Lib.hasPrefix (Lib.bytesOf xs) (Lib.bytesOf ys))]) ∧ w' = w := Any.bytes_CutPrefix Try.laysnb141 b1 o1 n c b2 o2 m d xs ys w hx hy hnc hc1 hc2
end Go.Proofs
