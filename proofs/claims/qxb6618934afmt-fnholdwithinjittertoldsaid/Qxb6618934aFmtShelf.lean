/-
  The shelf's contract of math/bits.Mul64 at this dump (laid by the kit's tool).
-/
import Derived.Shelf.Bits.Mul64
import Derived.Test.Qxb6618934aFmtProg
namespace Go.Proofs
open Go.Shelf
def Tryf.lays264_ren : Go.Shelf.Ren := ⟨fun | 264 => 38 | n => n, fun | 53 => 40 | 46 => 71 | n => n, fun | n => n⟩
theorem Tryf.lays264 : Go.Proofs.Lays.n264 Tryf.prog Tryf.lays264_ren := {
  mixed := by kernel_rfl
  f264 := Tryf.func38.trans (congrArg some (by kernel_rfl))
  t46 := Tryf.underlying71
  a46 := Tryf.isAgg71
  z46 := Tryf.sizeOf71
  v46 := Tryf.zeroValue71
  t53 := Tryf.underlying40
  a53 := Tryf.isAgg40
  z53 := Tryf.sizeOf40
  v53 := Tryf.zeroValue40 }
open Go.RowKit Go.Lib in
theorem Tryf.bits_Mul64 (x y : Nat) (hx : x < 18446744073709551616) (hy : y < 18446744073709551616) (w : World) :
    Calls Tryf.prog 38 #[.int .u64 x, .int .u64 y] w fun e w' => e = .returned (.tuple #[.int .u64 ((x * y / 18446744073709551616 : Nat) : Int), .int .u64 ((x * y % 18446744073709551616 : Nat) : Int)]) ∧ w' = w := Any.bits_Mul64 Tryf.lays264 x y hx hy w
end Go.Proofs
