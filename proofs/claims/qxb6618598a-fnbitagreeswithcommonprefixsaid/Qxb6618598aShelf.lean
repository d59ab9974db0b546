/-
  THE SHELF CONTRACTS for math/bits Len8 and LeadingZeros8 at this dump, in plain words (written by the kit tools lay-shelf and lay-plain).
-/
import Derived.Shelf.Small.Bits
import Derived.Test.Qxb6618598aProg
namespace Go.Proofs
open Go.Shelf
def Try.lays126_ren : Go.Shelf.Ren := ⟨fun | 126 => 13 | n => n, fun | 5 => 5 | 3 => 3 | 9 => 9 | n => n, fun | n => n⟩
theorem Try.lays126 : Go.Proofs.Lays.n126 Try.prog Try.lays126_ren := {
  mixed := by kernel_rfl
  f126 := Try.func13.trans (congrArg some (by kernel_rfl))
  t3 := Try.underlying3
  a3 := Try.isAgg3
  z3 := Try.sizeOf3
  v3 := Try.zeroValue3
  t5 := Try.underlying5
  a5 := Try.isAgg5
  z5 := Try.sizeOf5
  v5 := Try.zeroValue5
  t9 := Try.underlying9
  a9 := Try.isAgg9
  z9 := Try.sizeOf9
  v9 := Try.zeroValue9 }
theorem Try.bits_Len8 (x : Int) (w : World) (h0 : 0 ≤ x) (h1 : x ≤ 255) :
    Calls Try.prog 13 #[.int .u8 x] w fun e w' => e = .returned (.int .i64 (Lib.bitLen x.toNat)) ∧ w' = w := Any.bits_Len8 Try.lays126 x w h0 h1
def Try.lays131_ren : Go.Shelf.Ren := ⟨fun | 131 => 12 | 126 => 13 | n => n, fun | 5 => 5 | 3 => 3 | 9 => 9 | n => n, fun | n => n⟩
theorem Try.lays131 : Go.Proofs.Lays.n131 Try.prog Try.lays131_ren := {
  mixed := by kernel_rfl
  f126 := Try.func13.trans (congrArg some (by kernel_rfl))
  f131 := Try.func12.trans (congrArg some (by kernel_rfl))
  t3 := Try.underlying3
  a3 := Try.isAgg3
  z3 := Try.sizeOf3
  v3 := Try.zeroValue3
  t5 := Try.underlying5
  a5 := Try.isAgg5
  z5 := Try.sizeOf5
  v5 := Try.zeroValue5
  t9 := Try.underlying9
  a9 := Try.isAgg9
  z9 := Try.sizeOf9
  v9 := Try.zeroValue9 }
theorem Try.bits_LeadingZeros8 (x : Int) (w : World) (h0 : 0 ≤ x) (h1 : x ≤ 255) :
    Calls Try.prog 12 #[.int .u8 x] w fun e w' => e = .returned (.int .i64 (8 - (Lib.bitLen x.toNat : Int))) ∧ w' = w := Any.bits_LeadingZeros8 Try.lays131 x w h0 h1
end Go.Proofs
