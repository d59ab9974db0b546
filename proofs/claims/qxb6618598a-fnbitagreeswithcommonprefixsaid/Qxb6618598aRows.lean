/-
  No cell of these rows narrows 'for every input' (looked for: loops, veiled, ifaces, maps, wideKeys, modest, calm, conditions, laid).
  DERIVED. THE GIVEN ROWS OF THIS SEAT. 2 by the template 'for every input the law returns true; each argument reads behind the call as it read before'; 0 by the template 'total and deterministic' (their statements: Qxb6618598aTotals.lean).
  GIVEN WITH THE SEED: the statements are not yours to turn. If you find one false, say at which input.
  Laid BY PROGRAM, IN A SANDBOX (cutbox-rows.mjs): the forced cells as the released guide's own fill.sh prints them over the translation 51afcdd61e5ef570… (all of the seat's roots in one cut). By AI agents, Wed Nov 11 2026. No macro, syntax, notation, axiom, sorry.
-/
import Derived.Test.Qxb6618598aChecked
import GoSem.Claim
import GoSem.ClaimJoined
import GoSem.ClaimMapViews
import Derived.JoinedTies
import Derived.KernelRfl
namespace Go.Proofs.Qxb6618598a
/- THE CELL 'sum', in the pinned program and in every row, IS THE sha256 OF THE DUMP (.gsa) THAT Qxb6618598aProg.lean LOADS. Nothing in Lean hashes anything: it is a label: what it is worth is what the hold of that sum in a sandbox is worth. -/
noncomputable def Try.pinned : Pinned := { name := "qxb6618598a", sum := "51afcdd61e5ef570f41b89e5a71f394a5e76a88bcae7276899422e6b852aa316", checked := Try.checked }
namespace Rows
def none {H : Type} : Left H := { results := [], args := [] }

/-- 'zzlaws_root_b1.FnBitSeesExactlyTheFlippedBit': WHATEVER THE INPUT: true; the input reads as it did. -/
def fnBitSeesExactlyTheFlippedBitSpec : ChangeSpec := { name := "fnBitSeesExactlyTheFlippedBit", fn := fun _ => fun
  | [d1, d2] => { results := [.lit (.bool true)], args := [d1, d2] }
  | _ => none }
def fnBitSeesExactlyTheFlippedBitRow : OpenClaim := { program := "qxb6618598a", sum := "51afcdd61e5ef570f41b89e5a71f394a5e76a88bcae7276899422e6b852aa316", func := "example.com/xorlane/xorlane/zzlaws_root_b1.FnBitSeesExactlyTheFlippedBit", spec := "fnBitSeesExactlyTheFlippedBit", apart := false }
def FnBitSeesExactlyTheFlippedBitSaid : Prop := fnBitSeesExactlyTheFlippedBitRow.holds Try.pinned (OpenSpec.ofChange fnBitSeesExactlyTheFlippedBitSpec)

/-- ITS FALSE NEIGHBOUR: 'it returns false'. Refute it at one input. -/
def fnBitSeesExactlyTheFlippedBitWrong : ChangeSpec := { name := "fnBitSeesExactlyTheFlippedBit", fn := fun _ => fun
  | [d1, d2] => { results := [.lit (.bool false)], args := [d1, d2] }
  | _ => none }
def FnBitSeesExactlyTheFlippedBitWrongFalsely : Prop := fnBitSeesExactlyTheFlippedBitRow.holds Try.pinned (OpenSpec.ofChange fnBitSeesExactlyTheFlippedBitWrong)

/-- 'zzlaws_root_b1.FnBitAgreesWithCommonPrefix': WHATEVER THE INPUT: true; the input reads as it did. -/
def fnBitAgreesWithCommonPrefixSpec : ChangeSpec := { name := "fnBitAgreesWithCommonPrefix", fn := fun _ => fun
  | [d1, d2] => { results := [.lit (.bool true)], args := [d1, d2] }
  | _ => none }
def fnBitAgreesWithCommonPrefixRow : OpenClaim := { program := "qxb6618598a", sum := "51afcdd61e5ef570f41b89e5a71f394a5e76a88bcae7276899422e6b852aa316", func := "example.com/xorlane/xorlane/zzlaws_root_b1.FnBitAgreesWithCommonPrefix", spec := "fnBitAgreesWithCommonPrefix", apart := false }
def FnBitAgreesWithCommonPrefixSaid : Prop := fnBitAgreesWithCommonPrefixRow.holds Try.pinned (OpenSpec.ofChange fnBitAgreesWithCommonPrefixSpec)

/-- ITS FALSE NEIGHBOUR: 'it returns false'. Refute it at one input. -/
def fnBitAgreesWithCommonPrefixWrong : ChangeSpec := { name := "fnBitAgreesWithCommonPrefix", fn := fun _ => fun
  | [d1, d2] => { results := [.lit (.bool false)], args := [d1, d2] }
  | _ => none }
def FnBitAgreesWithCommonPrefixWrongFalsely : Prop := fnBitAgreesWithCommonPrefixRow.holds Try.pinned (OpenSpec.ofChange fnBitAgreesWithCommonPrefixWrong)

end Rows
end Go.Proofs.Qxb6618598a
