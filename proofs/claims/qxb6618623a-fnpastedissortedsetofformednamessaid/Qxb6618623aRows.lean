/-
  No cell of these rows narrows 'for every input' (looked for: loops, veiled, ifaces, maps, wideKeys, modest, calm, conditions, laid).
  DERIVED. THE GIVEN ROWS OF THIS SEAT. 2 by the template 'for every input the law returns true; each argument reads behind the call as it read before'; 0 by the template 'total and deterministic' (their statements: Qxb6618623aTotals.lean).
  GIVEN WITH THE SEED: the statements are not yours to turn. If you find one false, say at which input.
  Laid BY PROGRAM, IN A SANDBOX (cutbox-rows.mjs): the forced cells as the released guide's own fill.sh prints them over the translation e8c4e3aa364efcff… (all of the seat's roots in one cut). By AI agents, Wed Nov 11 2026. No macro, syntax, notation, axiom, sorry.
-/
import Derived.Test.Qxb6618623aChecked
import GoSem.Claim
import GoSem.ClaimJoined
import GoSem.ClaimMapViews
import Derived.JoinedTies
import Derived.KernelRfl
namespace Go.Proofs.Qxb6618623a
/- THE CELL 'sum', in the pinned program and in every row, IS THE sha256 OF THE DUMP (.gsa) THAT Qxb6618623aProg.lean LOADS. Nothing in Lean hashes anything: it is a label: what it is worth is what the hold of that sum in a sandbox is worth. -/
noncomputable def Try.pinned : Pinned := { name := "qxb6618623a", sum := "e8c4e3aa364efcff999f3b3f385eabf6e4c5c7b9ec1c79be852456c340e59695", checked := Try.checked }
namespace Rows
def none {H : Type} : Left H := { results := [], args := [] }

/-- 'zzlaws_cprobe_b1.FnPastedIsSortedSetOfFormedNames': WHATEVER THE INPUT: true; the input reads as it did. -/
def fnPastedIsSortedSetOfFormedNamesSpec : ChangeSpec := { name := "fnPastedIsSortedSetOfFormedNames", fn := fun _ => fun
  | [d1, d2, d3] => { results := [.lit (.bool true)], args := [d1, d2, d3] }
  | _ => none }
def fnPastedIsSortedSetOfFormedNamesRow : OpenClaim := { program := "qxb6618623a", sum := "e8c4e3aa364efcff999f3b3f385eabf6e4c5c7b9ec1c79be852456c340e59695", func := "example.com/causeway/causeway/zzlaws_cprobe_b1.FnPastedIsSortedSetOfFormedNames", spec := "fnPastedIsSortedSetOfFormedNames", recurses := true, plainKeys := false, apart := false }
def FnPastedIsSortedSetOfFormedNamesSaid : Prop := fnPastedIsSortedSetOfFormedNamesRow.holds Try.pinned (OpenSpec.ofChange fnPastedIsSortedSetOfFormedNamesSpec)

/-- ITS FALSE NEIGHBOUR: 'it returns false'. Refute it at one input. -/
def fnPastedIsSortedSetOfFormedNamesWrong : ChangeSpec := { name := "fnPastedIsSortedSetOfFormedNames", fn := fun _ => fun
  | [d1, d2, d3] => { results := [.lit (.bool false)], args := [d1, d2, d3] }
  | _ => none }
def FnPastedIsSortedSetOfFormedNamesWrongFalsely : Prop := fnPastedIsSortedSetOfFormedNamesRow.holds Try.pinned (OpenSpec.ofChange fnPastedIsSortedSetOfFormedNamesWrong)

/-- 'zzlaws_cprobe_b1.FnPastedTakesInTheFormedName': WHATEVER THE INPUT: true; the input reads as it did. -/
def fnPastedTakesInTheFormedNameSpec : ChangeSpec := { name := "fnPastedTakesInTheFormedName", fn := fun _ => fun
  | [d1, d2, d3] => { results := [.lit (.bool true)], args := [d1, d2, d3] }
  | _ => none }
def fnPastedTakesInTheFormedNameRow : OpenClaim := { program := "qxb6618623a", sum := "e8c4e3aa364efcff999f3b3f385eabf6e4c5c7b9ec1c79be852456c340e59695", func := "example.com/causeway/causeway/zzlaws_cprobe_b1.FnPastedTakesInTheFormedName", spec := "fnPastedTakesInTheFormedName", recurses := true, plainKeys := false, apart := false }
def FnPastedTakesInTheFormedNameSaid : Prop := fnPastedTakesInTheFormedNameRow.holds Try.pinned (OpenSpec.ofChange fnPastedTakesInTheFormedNameSpec)

/-- ITS FALSE NEIGHBOUR: 'it returns false'. Refute it at one input. -/
def fnPastedTakesInTheFormedNameWrong : ChangeSpec := { name := "fnPastedTakesInTheFormedName", fn := fun _ => fun
  | [d1, d2, d3] => { results := [.lit (.bool false)], args := [d1, d2, d3] }
  | _ => none }
def FnPastedTakesInTheFormedNameWrongFalsely : Prop := fnPastedTakesInTheFormedNameRow.holds Try.pinned (OpenSpec.ofChange fnPastedTakesInTheFormedNameWrong)

end Rows
end Go.Proofs.Qxb6618623a
