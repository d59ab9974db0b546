/-
  uint64n and Int64N walked.
-/
import Derived.Test.Qxb6618934aFmtDist
import Derived.Laws.Bits64b
set_option linter.unusedSimpArgs false
set_option linter.unusedVariables false
namespace Go.Proofs.Qxb6618934aFmt
open Go.RowKit Go.Maps

theorem and_small (x n : Nat) (hx : x < 18446744073709551616) (hn : 0 < n) (hn2 : n < 9223372036854775808) : ∃ r : Nat, bits BinOp.and IntKind.u64 (x : Int) ((n : Int) - 1) = (r : Int) ∧ r < n := by
  have e : (n : Int) - 1 = ((n - 1 : Nat) : Int) := by omega
  rw [e, bits_and_u64_nat x (n - 1) hx (by omega)]
  refine ⟨_, rfl, ?_⟩
  have := @Nat.and_le_right x (n - 1)
  omega
theorem high_small (x n : Nat) (hx : x < 18446744073709551616) (hn : 0 < n) : x * n / 18446744073709551616 < n := by
  rw [Nat.div_lt_iff_lt_mul (by decide), Nat.mul_comm n]
  exact Nat.mul_lt_mul_of_pos_right hx hn

set_option maxHeartbeats 4000000 in
set_option maxRecDepth 20000 in
theorem uint64n_any {W : World} {D p s : Nat} (n : Nat) (hn : 0 < n) (hn2 : n < 9223372036854775808) (hD : D ≠ p) (hr : W.heap[D]? = some (.cells #[.iface 38 (.pointer (some ⟨p, 0, none⟩))] 57 (0, 0))) (hp : State W p s) (hs : s < 340282366920938463463374607431768211456) :
    Calls Tryf.prog 28 #[.pointer (some ⟨D, 0, none⟩), .int .u64 (n : Int)] W fun e w' => ∃ r : Nat, e = .returned (.int .u64 (r : Int)) ∧ r < n ∧ ∃ s' : Nat, State w' p s' ∧ s' < 340282366920938463463374607431768211456 ∧ Stepped p W w' := by
  obtain ⟨dist, hdist⟩ := dist_there
  replace hdist := hid hdist
  have hc := hid (randUint64_any hr hp hs)
  replace hr := hid hr
  replace hp := hid hp
  replace hs := hid hs
  go_enter Tryf.func28, Tryf.ntmps28
  go_wp2_with fail
  · refine hc.out.mono ?_
    rintro e w' ⟨rfl, hS, hT⟩
    obtain ⟨r, hr1, hr2⟩ := and_small (draw (Pcg.nx s)) n (draw_lt _) hn hn2
    replace hS := hid hS
    replace hT := hid hT
    replace hr2 := hid hr2
    clear hc hr hp hs
    go_wp2_with fail
    go_ret
    exact ⟨r, rfl, hr2.out, Pcg.nx s, hS.out, Pcg.nx_lt s, hT.out⟩
  · refine hc.out.mono ?_
    rintro e w' ⟨rfl, hS, hT⟩
    have hlt1 := draw_lt (Pcg.nx s)
    have hs1 := hid (Pcg.nx_lt s)
    replace hS := hid hS
    replace hT := hid hT
    clear hc hp hs
    generalize Pcg.nx s = s1 at *
    have hm := hid (Tryf.bits_Mul64 (draw s1) n hlt1 (by omega) w')
    have hsm := hid (high_small (draw s1) n hlt1 hn)
    clear hlt1
    go_wp2_with (go_at_call 38; refine hm.out.mono ?_; rintro e w'' ⟨rfl, rfl⟩; generalize hq : draw s1 * n / 18446744073709551616 = q at hsm ⊢; generalize hz : draw s1 * n % 18446744073709551616 = z; replace hq := hid hq; replace hz := hid hz)
    · have hTn : (IntKind.u64.wrap (-↑n)).tmod ↑n < (n : Int) := Int.tmod_lt_of_pos _ (by omega)
      generalize (IntKind.u64.wrap (-↑n)).tmod ↑n = T at *
      replace hTn := hid hTn
      generalize decide (z < n) = bb
      clear hm
      go_loopw [5, 6] (fun h l wr => ∃ (s' q z : Nat), Hid (s' < 340282366920938463463374607431768211456) ∧ Hid (State wr p s') ∧ Hid (Stepped p W wr) ∧ h = .int .u64 (q : Int) ∧ l = .int .u64 (z : Int) ∧ Hid (draw s' * n % 18446744073709551616 = z) ∧ Hid (q < n)) (fun _ _ wr => dist (stateOf wr p))
      case atStart => exact ⟨s1, q, z, hs1, hS, hT, rfl, rfl, hz, hsm⟩
      case round =>
        clear hs1 hS hT hz hsm hq
        obtain ⟨s', q, z, hs1, hS, hT, rfl, rfl, hz, hsm⟩ := hrel
        by_cases hlt : (z : Int) < T
        · have hne : s' ≠ Pcg.good := by
            intro e
            rw [e] at hz
            have h1 := hz.out
            rw [draw_good, Nat.one_mul] at h1
            have h2 := hTn.out
            omega
          have hdec := hid (hdist.out s' hs1.out hne)
          have hrr := (hT.out.block D hD).trans hr.out
          have hc2 := hid (randUint64_any hrr hS.out hs1.out)
          have hlt1 := draw_lt (Pcg.nx s')
          have hm2 : Hid (∀ w, Calls Tryf.prog 38 #[.int .u64 ((draw (Pcg.nx s') : Nat) : Int), .int .u64 (n : Int)] w fun e w' => e = .returned (.tuple #[.int .u64 ((draw (Pcg.nx s') * n / 18446744073709551616 : Nat) : Int), .int .u64 ((draw (Pcg.nx s') * n % 18446744073709551616 : Nat) : Int)]) ∧ w' = w) := fun w => Tryf.bits_Mul64 (draw (Pcg.nx s')) n hlt1 (by omega) w
          have hsm2 := hid (high_small (draw (Pcg.nx s')) n hlt1 hn)
          clear hlt1 hrr
          go_wp2_with fail
          refine hc2.out.mono ?_
          rintro e w2 ⟨rfl, hS2, hT2⟩
          have hT3 := hid (hT.out.trans hT2)
          replace hS2 := hid hS2
          clear hT2 hc2
          go_wp2_with (go_at_call 38; refine (hm2.out _).mono ?_; rintro e w'' ⟨rfl, rfl⟩; generalize hq2 : draw (Pcg.nx s') * n / 18446744073709551616 = q2 at hsm2 ⊢; generalize hz2 : draw (Pcg.nx s') * n % 18446744073709551616 = z2; replace hq2 := hid hq2; replace hz2 := hid hz2)
          go_roundw
          case rel => exact ⟨Pcg.nx s', q2, z2, Pcg.nx_lt s', hS2, hT3, rfl, rfl, hz2, hsm2⟩
          case measure =>
            rw [stateOf_eq hS.out, stateOf_eq hS2.out]
            exact hdec.out
        · go_wp2_with fail
          go_ret
          exact ⟨q, rfl, hsm.out, s', hS.out, hs1.out, hT.out⟩
    · go_ret
      exact ⟨q, rfl, hsm.out, s1, hS.out, hs1.out, hT.out⟩
end Go.Proofs.Qxb6618934aFmt
