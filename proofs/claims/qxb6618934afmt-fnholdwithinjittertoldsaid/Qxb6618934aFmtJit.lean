/-
  Int64N walked.
-/
import Derived.Test.Qxb6618934aFmtUint
import Derived.Test.Qxb6618934aFmtHold
set_option linter.unusedSimpArgs false
set_option linter.unusedVariables false
namespace Go.Proofs.Qxb6618934aFmt
open Go.RowKit Go.Maps

set_option maxHeartbeats 4000000 in
set_option maxRecDepth 20000 in
theorem int64n_any {W : World} {D p s : Nat} (n : Nat) (hn : 0 < n) (hn2 : n < 9223372036854775808) (hD : D ≠ p) (hr : W.heap[D]? = some (.cells #[.iface 38 (.pointer (some ⟨p, 0, none⟩))] 57 (0, 0))) (hp : State W p s) (hs : s < 340282366920938463463374607431768211456) :
    Calls Tryf.prog 19 #[.pointer (some ⟨D, 0, none⟩), .int .i64 (n : Int)] W fun e w' => ∃ r : Nat, e = .returned (.int .i64 (r : Int)) ∧ r < n ∧ ∃ s' : Nat, State w' p s' ∧ s' < 340282366920938463463374607431768211456 ∧ Stepped p W w' := by
  have hc := hid (uint64n_any n hn hn2 hD hr hp hs)
  clear hr hp hs
  go_enter Tryf.func19, Tryf.ntmps19
  go_wp2_with fail
  refine hc.out.mono ?_
  rintro e w' ⟨r, rfl, hr, s', hS, hs', hT⟩
  have hr2 : r < 9223372036854775808 := by omega
  replace hr := hid hr
  replace hS := hid hS
  replace hs' := hid hs'
  replace hT := hid hT
  go_wp2_with fail
  go_ret
  exact ⟨r, rfl, hr.out, s', hS.out, hs'.out, hT.out⟩

theorem int64n_int {W : World} {D p s : Nat} (m : Int) (hn : 0 < m) (hn2 : m < 9223372036854775808) (hD : D ≠ p) (hr : W.heap[D]? = some (.cells #[.iface 38 (.pointer (some ⟨p, 0, none⟩))] 57 (0, 0))) (hp : State W p s) (hs : s < 340282366920938463463374607431768211456) :
    Calls Tryf.prog 19 #[.pointer (some ⟨D, 0, none⟩), .int .i64 m] W fun e w' => ∃ q : Int, e = .returned (.int .i64 q) ∧ 0 ≤ q ∧ q < m ∧ ∃ s' : Nat, State w' p s' ∧ s' < 340282366920938463463374607431768211456 ∧ Stepped p W w' := by
  obtain ⟨n, rfl⟩ : ∃ n : Nat, m = (n : Int) := ⟨m.toNat, by omega⟩
  refine (int64n_any n (by omega) (by omega) hD hr hp hs).mono fun e w' ⟨r, he, hr, hx⟩ => ⟨r, he, Int.natCast_nonneg _, by omega, hx⟩

end Go.Proofs.Qxb6618934aFmt
