/-
  No cell of these rows narrows 'for every input' (looked for: loops, veiled, ifaces, maps, wideKeys, modest, calm, conditions, laid).
  DERIVED. THE GIVEN ROWS OF THIS SEAT. 2 by the template 'for every input the law returns true; each argument reads behind the call as it read before'; 0 by the template 'total and deterministic' (their statements: Qxb6618934aFmtTotals.lean).
  GIVEN WITH THE SEED: the statements are not yours to turn. If you find one false, say at which input.
  Laid BY PROGRAM, IN A SANDBOX (cutbox-rows.mjs): the forced cells as the released guide's own fill.sh prints them over the translation f98ff123dd7d4393… (all of the seat's roots in one cut). By AI agents, Wed Nov 11 2026. No macro, syntax, notation, axiom, sorry.
-/
import Derived.Test.Qxb6618934aFmtChecked
import GoSem.Claim
import GoSem.ClaimJoined
import GoSem.ClaimMapViews
import Derived.JoinedTies
import Derived.KernelRfl
namespace Go.Proofs.Qxb6618934aFmt
/- THE CELL 'sum', in the pinned program and in every row, IS THE sha256 OF THE DUMP (.gsa) THAT Qxb6618934aFmtProg.lean LOADS. Nothing in Lean hashes anything: it is a label: what it is worth is what the hold of that sum in a sandbox is worth. -/
noncomputable def Tryf.pinned : Pinned := { name := "qxb6618934afmt", sum := "f98ff123dd7d4393841bf01421e9addd2aaa5abf85fd6870c22f27602bd504b3", checked := Tryf.checked }
namespace Rows
def none {H : Type} : Left H := { results := [], args := [] }

/-- 'zzlaws_peer_b1.FnHoldIsTheDelaySet': WHATEVER THE INPUT: true; the input reads as it did. -/
def fnHoldIsTheDelaySetSpec : ChangeSpec := { name := "fnHoldIsTheDelaySet", fn := fun _ => fun
  | [d1, d2, d3] => { results := [.lit (.bool true)], args := [d1, d2, d3] }
  | _ => none }
def fnHoldIsTheDelaySetRow : OpenClaim := { program := "qxb6618934afmt", sum := "f98ff123dd7d4393841bf01421e9addd2aaa5abf85fd6870c22f27602bd504b3", func := "example.com/epochwright/epochwright/zzlaws_peer_b1.FnHoldIsTheDelaySet", spec := "fnHoldIsTheDelaySet", stops := ["fmt.Sprintf"], inPlace := ["fmt.Sprintf", "(*internal/sync.Mutex).Lock", "internal/race.Disable", "sync/atomic.CompareAndSwapInt32", "internal/race.Enable", "internal/race.Acquire", "(*internal/sync.Mutex).lockSlow", "internal/sync.runtime_canSpin", "internal/sync.runtime_doSpin", "internal/sync.throw", "internal/sync.runtime_nanotime", "internal/sync.runtime_SemacquireMutex", "sync/atomic.AddInt32", "(*internal/sync.Mutex).Unlock", "internal/race.ReleaseMerge", "(*internal/sync.Mutex).unlockSlow", "internal/sync.fatal", "internal/sync.runtime_Semrelease"], unfollowed := true, recurses := true, plainKeys := false, apart := false }
/-- NO THEOREM (fmt's text is open here; it may be false): for the released tool's asking of the row's closed facts alone. THE STATEMENT IS 'FnHoldIsTheDelaySetToldSaid' (Qxb6618934aFmtCards.lean). -/
def FnHoldIsTheDelaySetFormAsk : Prop := fnHoldIsTheDelaySetRow.holds Tryf.pinned (OpenSpec.ofChange fnHoldIsTheDelaySetSpec)

/-- ITS FALSE NEIGHBOUR: 'it returns false'. Refute it at one input. -/
def fnHoldIsTheDelaySetWrong : ChangeSpec := { name := "fnHoldIsTheDelaySet", fn := fun _ => fun
  | [d1, d2, d3] => { results := [.lit (.bool false)], args := [d1, d2, d3] }
  | _ => none }
def FnHoldIsTheDelaySetWrongFormAsk : Prop := fnHoldIsTheDelaySetRow.holds Tryf.pinned (OpenSpec.ofChange fnHoldIsTheDelaySetWrong)

/-- 'zzlaws_peer_b1.FnHoldWithinJitter': WHATEVER THE INPUT: true; the input reads as it did. -/
def fnHoldWithinJitterSpec : ChangeSpec := { name := "fnHoldWithinJitter", fn := fun _ => fun
  | [d1, d2, d3, d4] => { results := [.lit (.bool true)], args := [d1, d2, d3, d4] }
  | _ => none }
def fnHoldWithinJitterRow : OpenClaim := { program := "qxb6618934afmt", sum := "f98ff123dd7d4393841bf01421e9addd2aaa5abf85fd6870c22f27602bd504b3", func := "example.com/epochwright/epochwright/zzlaws_peer_b1.FnHoldWithinJitter", spec := "fnHoldWithinJitter", stops := ["fmt.Sprintf"], inPlace := ["fmt.Sprintf", "(*internal/sync.Mutex).Lock", "internal/race.Disable", "sync/atomic.CompareAndSwapInt32", "internal/race.Enable", "internal/race.Acquire", "(*internal/sync.Mutex).lockSlow", "internal/sync.runtime_canSpin", "internal/sync.runtime_doSpin", "internal/sync.throw", "internal/sync.runtime_nanotime", "internal/sync.runtime_SemacquireMutex", "sync/atomic.AddInt32", "(*internal/sync.Mutex).Unlock", "internal/race.ReleaseMerge", "(*internal/sync.Mutex).unlockSlow", "internal/sync.fatal", "internal/sync.runtime_Semrelease"], unfollowed := true, recurses := true, plainKeys := false, apart := false }
/-- NO THEOREM (fmt's text is open here; it may be false): for the released tool's asking of the row's closed facts alone. THE STATEMENT IS 'FnHoldWithinJitterToldSaid' (Qxb6618934aFmtCards.lean). -/
def FnHoldWithinJitterFormAsk : Prop := fnHoldWithinJitterRow.holds Tryf.pinned (OpenSpec.ofChange fnHoldWithinJitterSpec)

/-- ITS FALSE NEIGHBOUR: 'it returns false'. Refute it at one input. -/
def fnHoldWithinJitterWrong : ChangeSpec := { name := "fnHoldWithinJitter", fn := fun _ => fun
  | [d1, d2, d3, d4] => { results := [.lit (.bool false)], args := [d1, d2, d3, d4] }
  | _ => none }
def FnHoldWithinJitterWrongFormAsk : Prop := fnHoldWithinJitterRow.holds Tryf.pinned (OpenSpec.ofChange fnHoldWithinJitterWrong)

end Rows
end Go.Proofs.Qxb6618934aFmt
