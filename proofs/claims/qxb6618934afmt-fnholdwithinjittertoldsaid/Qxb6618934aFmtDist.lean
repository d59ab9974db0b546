/-
  How many steps it is to the state whose draw is 1.
-/
import Derived.Test.Qxb6618934aFmtDraw
set_option linter.unusedVariables false
namespace Go.Proofs.Qxb6618934aFmt
open Go.RowKit Go.Maps

theorem least {P : Nat → Prop} : ∀ n, P n → ∃ m, P m ∧ ∀ k, P k → m ≤ k := by
  intro n
  induction n using Nat.strongRecOn with
  | ind n ih =>
    intro hn
    by_cases h : ∃ m, m < n ∧ P m
    · obtain ⟨m, hm, hp⟩ := h
      exact ih m hm hp
    · refine ⟨n, hn, fun k hk => ?_⟩
      apply Nat.le_of_not_lt
      exact fun hlt => h ⟨k, hlt, hk⟩
theorem iter_zero (f : Nat → Nat) (s : Nat) : Pcg.iter f 0 s = s := rfl
theorem iter_succ (f : Nat → Nat) (n s : Nat) : Pcg.iter f (n + 1) s = Pcg.iter f n (f s) := rfl
theorem nearest (s : Nat) (hs : s < 340282366920938463463374607431768211456) : ∃ m, Pcg.iter Pcg.nx m s = Pcg.good ∧ ∀ k, Pcg.iter Pcg.nx k s = Pcg.good → m ≤ k := by
  obtain ⟨n, hn⟩ := Pcg.good_reached s hs
  exact least (P := fun n => Pcg.iter Pcg.nx n s = Pcg.good) n hn
/-- There is a number for each state that goes down at every step but the good one. -/
theorem dist_there : ∃ dist : Nat → Nat, ∀ s, s < 340282366920938463463374607431768211456 → s ≠ Pcg.good → dist (Pcg.nx s) < dist s := by
  have hall : ∀ s, ∃ m, s < 340282366920938463463374607431768211456 → Pcg.iter Pcg.nx m s = Pcg.good ∧ ∀ k, Pcg.iter Pcg.nx k s = Pcg.good → m ≤ k := fun s => by
    by_cases h : s < 340282366920938463463374607431768211456
    · obtain ⟨m, hm⟩ := nearest s h
      exact ⟨m, fun _ => hm⟩
    · exact ⟨0, fun h' => absurd h' h⟩
  refine ⟨fun s => Classical.choose (hall s), fun s hs hne => ?_⟩
  have h1 := (Classical.choose_spec (hall s) hs).1
  have h2 := (Classical.choose_spec (hall (Pcg.nx s)) (Pcg.nx_lt s)).2
  show Classical.choose (hall (Pcg.nx s)) < Classical.choose (hall s)
  generalize Classical.choose (hall s) = a at h1
  generalize Classical.choose (hall (Pcg.nx s)) = b at h2
  cases a with
  | zero =>
    rw [iter_zero] at h1
    exact absurd h1 hne
  | succ n =>
    rw [iter_succ] at h1
    exact Nat.lt_succ_of_le (h2 n h1)
/-- The state that lies in block p. -/
def stateOf (W : World) (p : Nat) : Nat := match W.heap[p]? with
  | some (.cells a _ _) => (intOf (a.getD 0 undef)).toNat * 18446744073709551616 + (intOf (a.getD 1 undef)).toNat
  | _ => 0
theorem stateOf_eq {W : World} {p s : Nat} (h : State W p s) : stateOf W p = s := by
  unfold State at h
  unfold stateOf
  rw [h]
  simp only [Array.getD]
  simp [intOf]
  omega
end Go.Proofs.Qxb6618934aFmt
