/-
  THE LAW's WALK: FnHoldIsTheDelaySet.
-/
import Derived.Test.Qxb6618934aFmtHold
set_option linter.unusedSimpArgs false
set_option linter.unusedVariables false
namespace Go.Proofs.Qxb6618934aFmt
open Go.RowKit Go.Maps
open Go.MuLone

theorem link_same (x y : ByteArray) (d j : Int) : linkOf x y d j x y = link d j := by simp [linkOf]
theorem link_eq {x y : ByteArray} (h : x.toList = y.toList) (d j : Int) : linkOf x y d j y x = link d j := by simp [linkOf, h]
theorem link_ne {x y : ByteArray} (h : x.toList ≠ y.toList) (d j : Int) : linkOf x y d j y x = link 0 0 := by
  simp only [linkOf]
  rw [if_neg]
  simp [Ne.symm h]

set_option maxHeartbeats 4000000 in
set_option maxRecDepth 20000 in
theorem law3_any (x y : ByteArray) (hx : x.size ≤ maxLen) (hy : y.size ≤ maxLen) (d : Int) (w : World) :
    Calls Tryf.prog 3 #[.string x, .string y, .int .i64 d] w fun e w' => e = .returned (.bool true) ∧ Below w.heap.size w w' := by
  have hby := hid (bytes_any x y hx hy d w)
  unfold maxLen at hx hy
  go_enter Tryf.func3, Tryf.ntmps3
  go_wp2_with (first
    | (go_at_call 5; refine hby.out.mono ?_; rintro e w' ⟨⟨b1, rfl⟩, rfl⟩)
    | fail)
  all_goals try (go_ret; exact ⟨rfl, Below.refl _ _⟩)
  have hd : 0 ≤ d := by omega
  clear hby hx hy
  refine (new_any w').mono ?_
  rintro e w1 ⟨rfl, hN1⟩
  replace hN1 := hid hN1
  go_wp2_with fail
  refine (zzlink_any d 0 w1).mono ?_
  rintro e w2 ⟨rfl, hB2⟩
  have hN2 := hid (hN1.out.kept hB2)
  clear hN1 hB2
  go_wp2_with fail
  refine (setLink_any hN2.out x y d 0 hd (Int.le_refl _)).mono ?_
  rintro e w3 ⟨rfl, hN3⟩
  replace hN3 := hid hN3
  clear hN2
  go_wp2_with fail
  refine (zzhold0_any hN3.out x y d hd (link_same x y d 0)).mono ?_
  rintro e w4 ⟨rfl, hB4⟩
  have hN4 := hid (hN3.out.kept hB4)
  clear hN3 hB4
  go_wp2_with fail
  by_cases hxy : x.toList = y.toList
  · have hc := hid (zzhold0_any hN4.out y x d hd (link_eq hxy d 0))
    have hq : (x.toList == y.toList) = true := by simpa using hxy
    replace hxy := hid hxy
    refine hc.out.mono ?_
    rintro e w5 ⟨rfl, hB5⟩
    have hN5 := hid (hN4.out.kept hB5)
    clear hN4 hB5 hc
    go_wp2_with fail
    refine (zzhold0_any hN5.out x y d hd (link_same x y d 0)).mono ?_
    rintro e w6 ⟨rfl, hB6⟩
    have hN6 := hid (hN5.out.kept hB6)
    clear hN5 hB6
    go_wp2_with fail
    go_ret
    exact ⟨rfl, hN6.out.below⟩
  · have hc := hid (zzhold0_any hN4.out y x 0 (Int.le_refl _) (link_ne hxy d 0))
    have hq : (x.toList == y.toList) = false := by simpa using hxy
    replace hxy := hid hxy
    refine hc.out.mono ?_
    rintro e w5 ⟨rfl, hB5⟩
    have hN5 := hid (hN4.out.kept hB5)
    clear hN4 hB5 hc
    go_wp2_with fail
    refine (zzhold0_any hN5.out x y d hd (link_same x y d 0)).mono ?_
    rintro e w6 ⟨rfl, hB6⟩
    have hN6 := hid (hN5.out.kept hB6)
    clear hN5 hB6
    go_wp2_with fail
    go_ret
    exact ⟨rfl, hN6.out.below⟩
end Go.Proofs.Qxb6618934aFmt
