/-
  No cell of these rows narrows 'for every input' (looked for: loops, veiled, ifaces, maps, wideKeys, modest, calm, conditions, laid).
  DERIVED. THE GIVEN ROWS OF THIS SEAT. 2 by the template 'for every input the law returns true; each argument reads behind the call as it read before'; 0 by the template 'total and deterministic' (their statements: Qxb6618966aTotals.lean).
  GIVEN WITH THE SEED: the statements are not yours to turn. If you find one false, say at which input.
  Laid BY PROGRAM, IN A SANDBOX (cutbox-rows.mjs): the forced cells as the released guide's own fill.sh prints them over the translation 89d8d12c237935df… (all of the seat's roots in one cut). By AI agents, Wed Nov 11 2026. No macro, syntax, notation, axiom, sorry.
-/
import Derived.Test.Qxb6618966aChecked
import GoSem.Claim
import GoSem.ClaimJoined
import GoSem.ClaimMapViews
import Derived.JoinedTies
import Derived.KernelRfl
namespace Go.Proofs.Qxb6618966a
/- THE CELL 'sum', in the pinned program and in every row, IS THE sha256 OF THE DUMP (.gsa) THAT Qxb6618966aProg.lean LOADS. Nothing in Lean hashes anything: it is a label: what it is worth is what the hold of that sum in a sandbox is worth. -/
noncomputable def Try.pinned : Pinned := { name := "qxb6618966a", sum := "89d8d12c237935df0e50d615c1f5d67a09c7bc24a5d29b44de73948675296fe8", checked := Try.checked }
namespace Rows
def none {H : Type} : Left H := { results := [], args := [] }

/-- 'zzlaws_root_b1.FnBufferChargeFamilyShift': WHATEVER THE INPUT: true; the input reads as it did. -/
def fnBufferChargeFamilyShiftSpec : ChangeSpec := { name := "fnBufferChargeFamilyShift", fn := fun _ => fun
  | [d] => { results := [.lit (.bool true)], args := [d] }
  | _ => none }
def fnBufferChargeFamilyShiftRow : OpenClaim := { program := "qxb6618966a", sum := "89d8d12c237935df0e50d615c1f5d67a09c7bc24a5d29b44de73948675296fe8", func := "example.com/sandwire/sandwire/zzlaws_root_b1.FnBufferChargeFamilyShift", spec := "fnBufferChargeFamilyShift", apart := false }
def FnBufferChargeFamilyShiftSaid : Prop := fnBufferChargeFamilyShiftRow.holds Try.pinned (OpenSpec.ofChange fnBufferChargeFamilyShiftSpec)

/-- ITS FALSE NEIGHBOUR: 'it returns false'. Refute it at one input. -/
def fnBufferChargeFamilyShiftWrong : ChangeSpec := { name := "fnBufferChargeFamilyShift", fn := fun _ => fun
  | [d] => { results := [.lit (.bool false)], args := [d] }
  | _ => none }
def FnBufferChargeFamilyShiftWrongFalsely : Prop := fnBufferChargeFamilyShiftRow.holds Try.pinned (OpenSpec.ofChange fnBufferChargeFamilyShiftWrong)

/-- 'zzlaws_root_b1.FnBufferChargeByteForByte': WHATEVER THE INPUT: true; the input reads as it did. -/
def fnBufferChargeByteForByteSpec : ChangeSpec := { name := "fnBufferChargeByteForByte", fn := fun _ => fun
  | [d1, d2, d3] => { results := [.lit (.bool true)], args := [d1, d2, d3] }
  | _ => none }
def fnBufferChargeByteForByteRow : OpenClaim := { program := "qxb6618966a", sum := "89d8d12c237935df0e50d615c1f5d67a09c7bc24a5d29b44de73948675296fe8", func := "example.com/sandwire/sandwire/zzlaws_root_b1.FnBufferChargeByteForByte", spec := "fnBufferChargeByteForByte", apart := false }
def FnBufferChargeByteForByteSaid : Prop := fnBufferChargeByteForByteRow.holds Try.pinned (OpenSpec.ofChange fnBufferChargeByteForByteSpec)

/-- ITS FALSE NEIGHBOUR: 'it returns false'. Refute it at one input. -/
def fnBufferChargeByteForByteWrong : ChangeSpec := { name := "fnBufferChargeByteForByte", fn := fun _ => fun
  | [d1, d2, d3] => { results := [.lit (.bool false)], args := [d1, d2, d3] }
  | _ => none }
def FnBufferChargeByteForByteWrongFalsely : Prop := fnBufferChargeByteForByteRow.holds Try.pinned (OpenSpec.ofChange fnBufferChargeByteForByteWrong)

end Rows
end Go.Proofs.Qxb6618966a
