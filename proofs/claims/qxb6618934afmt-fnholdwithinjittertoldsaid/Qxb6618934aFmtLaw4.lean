/-
  THE LAW's WALK: FnHoldWithinJitter.
-/
import Derived.Test.Qxb6618934aFmtHoldJ
import Derived.Test.Qxb6618934aFmtLaw3
set_option linter.unusedSimpArgs false
set_option linter.unusedVariables false
namespace Go.Proofs.Qxb6618934aFmt
open Go.RowKit Go.Maps

set_option maxHeartbeats 1600000 in
set_option maxRecDepth 20000 in
theorem zzholdJ_any {w W : World} {s : Nat} {a b : ByteArray} {d j : Int} (hNs : NetJ w W a b d j s) (x y : ByteArray) (hd : 0 ≤ d) (hj : 1 ≤ j) (hj2 : j ≤ 4611686018427387903) (hdj : d ≤ 9223372036854775807 - j) (hl : linkOf a b d j x y = link d j) :
    Calls Tryf.prog 9 #[.pointer (some ⟨w.heap.size + 6, 0, none⟩), .string x, .string y] W fun e w' => ∃ h : Int, e = .returned (.int .i64 h) ∧ Within d j h ∧ ∃ s' : Nat, NetJ w w' a b d j s' := by
  have hc := hid (holdJ_any hNs x y hd hj hj2 hdj hl)
  clear hNs hl hd hj hj2 hdj
  generalize w.heap.size + 6 = R at *
  go_enter Tryf.func9, Tryf.ntmps9
  go_wp2_with fail
  refine hc.out.mono ?_
  rintro e w' ⟨h, rfl, hW, s', hN⟩
  replace hW := hid hW
  replace hN := hid hN
  clear hc
  go_wp2_with fail
  go_ret
  exact ⟨h, rfl, hW.out, s', hN.out⟩

set_option maxHeartbeats 4000000 in
set_option maxRecDepth 20000 in
theorem bytes4_any (x y : ByteArray) (hx : x.size ≤ maxLen) (hy : y.size ≤ maxLen) (d j : Int) (w : World) :
    Calls Tryf.prog 10 #[.string x, .string y, .int .i64 d, .int .i64 j] w fun e w' => SomeBool e ∧ w' = w := by
  unfold maxLen at hx hy
  go_enter Tryf.func10, Tryf.ntmps10
  go_wp2
  all_goals go_ret; exact ⟨⟨_, rfl⟩, rfl⟩

theorem first_state {w W : World} {x y : ByteArray} {d j : Int} (h : Net w W #[{ key := pair x y, val := link d j, born := 0 }] 1 1 2) : NetJ w W x y d j 18446744073709551618 :=
  ⟨by decide, h⟩

set_option maxHeartbeats 4000000 in
set_option maxRecDepth 20000 in
theorem law4_any (x y : ByteArray) (hx : x.size ≤ maxLen) (hy : y.size ≤ maxLen) (d j : Int) (w : World) :
    Calls Tryf.prog 4 #[.string x, .string y, .int .i64 d, .int .i64 j] w fun e w' => e = .returned (.bool true) ∧ Below w.heap.size w w' := by
  have hby := hid (bytes4_any x y hx hy d j w)
  unfold maxLen at hx hy
  go_enter Tryf.func4, Tryf.ntmps4
  go_wp2_with (first
    | (go_at_call 10; refine hby.out.mono ?_; rintro e w' ⟨⟨b1, rfl⟩, rfl⟩)
    | fail)
  all_goals try (go_ret; exact ⟨rfl, Below.refl _ _⟩)
  have hd : 0 ≤ d := by omega
  have hj : 1 ≤ j := by omega
  have hj2 : j ≤ 4611686018427387903 := by omega
  have hdj : d ≤ 9223372036854775807 - j := by omega
  clear hby hx hy
  refine (new_any w').mono ?_
  rintro e w1 ⟨rfl, hN1⟩
  replace hN1 := hid hN1
  go_wp2_with fail
  refine (zzlink_any d j w1).mono ?_
  rintro e w2 ⟨rfl, hB2⟩
  have hN2 := hid (hN1.out.kept hB2)
  clear hN1 hB2
  go_wp2_with fail
  refine (setLink_any hN2.out x y d j hd (by omega)).mono ?_
  rintro e w3 ⟨rfl, hN3⟩
  have hN4 := hid (first_state hN3)
  clear hN2 hN3
  have hcall : Hid (∀ W s, NetJ w' W x y d j s → Calls Tryf.prog 9 #[.pointer (some ⟨w'.heap.size + 6, 0, none⟩), .string x, .string y] W fun e w'' => ∃ h : Int, e = .returned (.int .i64 h) ∧ Within d j h ∧ ∃ s' : Nat, NetJ w' w'' x y d j s') := fun W s hN =>
    zzholdJ_any hN x y hd hj hj2 hdj (link_same x y d j)
  by_cases hneg : d - j < 0
  · have hneg' := hid hneg
    go_wp2_with fail
    rename_i g6 g5 g4 g3 g2 g1 g0 K0 a0
    have hback : Hid (∀ W s, NetJ w' W x y d j s → x.toList ≠ y.toList → Calls Tryf.prog 9 #[.pointer (some ⟨w'.heap.size + 6, 0, none⟩), .string y, .string x] W fun e w'' => e = .returned (.int .i64 0) ∧ Below W.heap.size W w'') := fun W s hN hxy =>
      zzhold0_any hN.2 y x 0 (Int.le_refl _) (link_ne hxy d j)
    clear g6 g5 g4 g3 g2 g1 g0 hd hj hj2 hdj hneg
    go_loopw [12, 13] (fun i h wr => ∃ k s : Nat, k ≤ 4 ∧ i = .int .i64 (k : Int) ∧ Hid (NetJ w' wr x y d j s)) (fun i _ _ => 4 - (intOf i).toNat)
    case atStart => exact ⟨0, _, Nat.zero_le _, rfl, hN4⟩
    case round =>
      clear hN4
      obtain ⟨k, s, hk, rfl, hN⟩ := hrel
      by_cases hlt : k < 4
      · have hlt' : (k : Int) < 4 := by omega
        clear hk
        go_wp2_with fail
        refine (hcall.out _ _ hN.out).mono ?_
        rintro e w5 ⟨h, rfl, hW, s', hN5⟩
        have q1 : decide (h < 0) = false := by have := hW.1; have := hW.2.1; simp; omega
        have q2 : decide (d + j < h) = false := by have := hW.2.2; simp; omega
        replace hN5 := hid hN5
        clear hN hW
        go_wp2_with fail
        go_roundw
        case rel => exact ⟨k + 1, s', by omega, by go_num, hN5⟩
        case measure => simp [intOf]; omega
      · have hke : k = 4 := by omega
        subst hke
        clear hlt hk
        by_cases hxy : x.toList = y.toList
        · have hq : (x.toList == y.toList) = true := by simpa using hxy
          replace hxy := hid hxy
          go_wp2_with fail
          go_ret
          exact ⟨rfl, hN.out.2.below⟩
        · have hq : (x.toList == y.toList) = false := by simpa using hxy
          have hb := hid (hback.out _ _ hN.out hxy)
          replace hxy := hid hxy
          go_wp2_with fail
          refine hb.out.mono ?_
          rintro e w6 ⟨rfl, hB6⟩
          have hB7 := hid (hN.out.2.kept hB6).below
          clear hb hB6
          go_wp2_with fail
          go_ret
          exact ⟨rfl, hB7.out⟩
  · have hneg' := hid hneg
    go_wp2_with fail
    rename_i g6 g5 g4 g3 g2 g1 g0 K0 a0
    have hback : Hid (∀ W s, NetJ w' W x y d j s → x.toList ≠ y.toList → Calls Tryf.prog 9 #[.pointer (some ⟨w'.heap.size + 6, 0, none⟩), .string y, .string x] W fun e w'' => e = .returned (.int .i64 0) ∧ Below W.heap.size W w'') := fun W s hN hxy =>
      zzhold0_any hN.2 y x 0 (Int.le_refl _) (link_ne hxy d j)
    clear g6 g5 g4 g3 g2 g1 g0 hd hj hj2 hdj hneg
    go_loopw [12, 13] (fun i h wr => ∃ k s : Nat, k ≤ 4 ∧ i = .int .i64 (k : Int) ∧ Hid (NetJ w' wr x y d j s)) (fun i _ _ => 4 - (intOf i).toNat)
    case atStart => exact ⟨0, _, Nat.zero_le _, rfl, hN4⟩
    case round =>
      clear hN4
      obtain ⟨k, s, hk, rfl, hN⟩ := hrel
      by_cases hlt : k < 4
      · have hlt' : (k : Int) < 4 := by omega
        clear hk
        go_wp2_with fail
        refine (hcall.out _ _ hN.out).mono ?_
        rintro e w5 ⟨h, rfl, hW, s', hN5⟩
        have q1 : decide (h < d - j) = false := by have := hW.1; have := hW.2.1; simp; omega
        have q2 : decide (d + j < h) = false := by have := hW.2.2; simp; omega
        replace hN5 := hid hN5
        clear hN hW
        go_wp2_with fail
        go_roundw
        case rel => exact ⟨k + 1, s', by omega, by go_num, hN5⟩
        case measure => simp [intOf]; omega
      · have hke : k = 4 := by omega
        subst hke
        clear hlt hk
        by_cases hxy : x.toList = y.toList
        · have hq : (x.toList == y.toList) = true := by simpa using hxy
          replace hxy := hid hxy
          go_wp2_with fail
          go_ret
          exact ⟨rfl, hN.out.2.below⟩
        · have hq : (x.toList == y.toList) = false := by simpa using hxy
          have hb := hid (hback.out _ _ hN.out hxy)
          replace hxy := hid hxy
          go_wp2_with fail
          refine hb.out.mono ?_
          rintro e w6 ⟨rfl, hB6⟩
          have hB7 := hid (hN.out.2.kept hB6).below
          clear hb hB6
          go_wp2_with fail
          go_ret
          exact ⟨rfl, hB7.out⟩
end Go.Proofs.Qxb6618934aFmt
