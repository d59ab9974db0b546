/-
  THE WALK of (paste).forms.
-/
import Derived.Test.Qxb6618623aRows
import Derived.Test.Qxb6618623aShelf
import Derived.Test.Qxb6618623aPlain
import Derived.WalkKit
import Derived.WalkSpells
import Derived.ProofKit
import Derived.OpenShut
import Derived.Deep.QuietTactic
import Derived.BigQuiet
import Derived.Sort.EncStr
namespace Go.Proofs.Qxb6618623a
open Go.RowKit Plain

theorem pre_l (x p : Str) (w : World) : Calls Try.prog 16 #[encStr x, encStr p] w fun e w' => e = .returned (.bool (Lib.hasPrefix x p)) ∧ w' = w := by
  have := Try.strings_HasPrefix ⟨x.toArray⟩ ⟨p.toArray⟩ w
  simpa using this
theorem suf_l (x p : Str) (hx : x.length ≤ maxLen) (w : World) : Calls Try.prog 17 #[encStr x, encStr p] w fun e w' => e = .returned (.bool (Lib.hasSuffix x p)) ∧ w' = w := by
  have := Try.strings_HasSuffix ⟨x.toArray⟩ ⟨p.toArray⟩ w (by unfold maxLen at hx; show (x.toArray).size ≤ _; simpa using hx)
  simpa using this

set_option maxHeartbeats 400000 in
theorem forms_any (p s x : Str) (hx : x.length ≤ maxLen) (w : World) :
    Calls Try.prog 14 #[.agg #[encStr p, encStr s], encStr x] w fun e w' => e = .returned (.bool (formed p s x)) ∧ w' = w.alloc (.cells #[encStr p, encStr s] 64) := by
  unfold formed
  by_cases h : Lib.hasPrefix x p = true
  · go_enter Try.func14, Try.ntmps14
    go_wp2_with (first | (go_at_call 16; refine (pre_l x p _).mono ?_; rintro e w' ⟨rfl, rfl⟩) | (go_at_call 17; refine (suf_l x s hx _).mono ?_; rintro e w' ⟨rfl, rfl⟩))
    go_ret
    exact ⟨by simp [h], rfl⟩
  · have h' : Lib.hasPrefix x p = false := by simpa using h
    go_enter Try.func14, Try.ntmps14
    go_wp2_with (first | (go_at_call 16; refine (pre_l x p _).mono ?_; rintro e w' ⟨rfl, rfl⟩) | (go_at_call 17; refine (suf_l x s hx _).mono ?_; rintro e w' ⟨rfl, rfl⟩))
    go_ret
    exact ⟨by simp [h'], rfl⟩
end Go.Proofs.Qxb6618623a
