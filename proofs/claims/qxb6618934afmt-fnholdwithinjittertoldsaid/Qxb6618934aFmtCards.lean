/-
  DERIVED. GIVEN WITH THE SEED: THE CARDS: each row of Qxb6618934aFmtRows.lean that lists a variable, with what it lists TIED to the program's text (the seventh form; the later family's looks); each row that meets fmt, with fmt's text TOLD by the authors' own Lean function (tested against real Go, not proved from fmt's source: count such statements apart). THE CARD IS WHAT COUNTS. Prove the row's statement (the work); the ties are given (Qxb6618934aFmtTie.lean); close each card by the builder's one call (the guide's Derived/Test/ToyasCard.lean, 'card_holds'). Laid BY PROGRAM, IN A SANDBOX (cutbox-door.mjs). By AI agents, Wed Nov 11 2026. No macro, syntax, notation, axiom, sorry.
-/
import Derived.Test.Qxb6618934aFmtRows
import GoSem.ClaimSeven
namespace Go.Proofs.Qxb6618934aFmt
namespace Rows

/-- THE TOLD CARD OF 'zzlaws_peer_b1.FnHoldIsTheDelaySet'. -/
def fnHoldIsTheDelaySetCard : Claim7 := { stood := { row := fnHoldIsTheDelaySetRow, standIns := [], harness := (true, "1033431b2f8cff59fd9acb863e81628774251aacbee3fa705d50044cdda21bf2"), looks := false }, told := true, goes := false }
def FnHoldIsTheDelaySetToldSaid : Prop := Claim7.holds Tryf.pinned (.plain (OpenSpec.ofChange fnHoldIsTheDelaySetSpec)) fnHoldIsTheDelaySetCard
/-- ITS FALSE NEIGHBOUR. Refute it at one input. -/
def FnHoldIsTheDelaySetToldWrongFalsely : Prop := Claim7.holds Tryf.pinned (.plain (OpenSpec.ofChange fnHoldIsTheDelaySetWrong)) fnHoldIsTheDelaySetCard

/-- THE TOLD CARD OF 'zzlaws_peer_b1.FnHoldWithinJitter'. -/
def fnHoldWithinJitterCard : Claim7 := { stood := { row := fnHoldWithinJitterRow, standIns := [], harness := (true, "1033431b2f8cff59fd9acb863e81628774251aacbee3fa705d50044cdda21bf2"), looks := false }, told := true, goes := false }
def FnHoldWithinJitterToldSaid : Prop := Claim7.holds Tryf.pinned (.plain (OpenSpec.ofChange fnHoldWithinJitterSpec)) fnHoldWithinJitterCard
/-- ITS FALSE NEIGHBOUR. Refute it at one input. -/
def FnHoldWithinJitterToldWrongFalsely : Prop := Claim7.holds Tryf.pinned (.plain (OpenSpec.ofChange fnHoldWithinJitterWrong)) fnHoldWithinJitterCard
end Rows
end Go.Proofs.Qxb6618934aFmt
