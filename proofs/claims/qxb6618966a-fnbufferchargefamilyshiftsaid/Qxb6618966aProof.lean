/-
  THE STATEMENT FnBufferChargeFamilyShiftSaid, PROVED (over the given shell).
-/
import Derived.Test.Qxb6618966aRows
import Derived.Test.Qxb6618966aWalks
import Derived.WalkKit
import Derived.ProofKit
import Derived.OpenShut
import Derived.ShutString
namespace Go.Proofs.Qxb6618966a.fnBufferChargeFamilyShift
open Go.ChangeShapes Go.WideShapes Go.ChangeAt Go.RowKit
open Go.ChangeMaps (open_string shut_string)
set_option linter.unusedVariables false      -- a walk need not use every 'w<i>' (that an integer argument fits its kind)

theorem own : ownKnob Try.prog.godebug = none := by kernel_rfl

/-! ### STEP 1: THE WALK: the Go text returns true -/
set_option maxHeartbeats 400000 in
theorem walk_in (p : Nat) (hp : p ≤ 65488) (h1 : p < 15992) (w : World) :
    Calls Try.prog 3 #[.int .i64 p] w fun e w' => e = .returned (.bool true) ∧ Grown w w' := by
  have e6 : piece 48 p 24 = head (p + 72) + 256 := by
    unfold piece
    rw [if_pos (by omega), show 48 + p + 24 = p + 72 by omega]
  have e4 : piece 28 (p + 13) 31 = head (p + 72) + 256 := by
    unfold piece
    rw [if_pos (by omega), show 28 + (p + 13) + 31 = p + 72 by omega]
  have hb := head_bd (p + 72)
  have c6 : ∀ W : World, Calls Try.prog 5 #[.int .i64 p, .int .u8 1] W fun e w' => e = .returned (.int .i64 ((head (p + 72) : Int) + 256)) ∧ w' = W := fun W => by
    have := zz6 p hp W
    rw [e6] at this
    simpa using this
  have c4 : ∀ W : World, Calls Try.prog 5 #[.int .i64 ((p : Int) + 13), .int .u8 0] W fun e w' => e = .returned (.int .i64 ((head (p + 72) : Int) + 256)) ∧ w' = W := fun W => by
    have := zz4 (p + 13) (by omega) W
    rw [e4] at this
    simpa using this
  have cl : ∀ W : World, Calls Try.prog 6 #[.int .i64 (head (p + 72) : Int), .int .i64 ((p : Int) + 72)] W fun e w' => e = .returned (.bool true) ∧ w' = W := fun W => by
    have := least_any (p + 72) (by omega) W
    simpa using this
  replace c6 : Hid _ := c6
  replace c4 : Hid _ := c4
  replace cl : Hid _ := cl
  have g0 : ¬ ((p : Int) < 0) := by omega
  have g1 : ¬ ((65488 : Int) < p) := by omega
  have g2 : (p : Int) < 15992 := by omega
  clear e6 e4
  generalize hH : head (p + 72) = H at *
  have hb1 : (576 : Int) ≤ H := by omega
  have hb2 : (H : Int) ≤ 16384 := by omega
  clear hb hH hp h1
  go_enter Try.func3, Try.ntmps3
  go_wp2_with fail
  refine (c6.out _).mono ?_
  rintro e w' ⟨rfl, rfl⟩
  go_wp2_with fail
  refine (c4.out _).mono ?_
  rintro e w' ⟨rfl, rfl⟩
  have g3 : (H : Int) + 256 - 256 = H := by omega
  go_wp2_with fail
  refine (cl.out _).mono ?_
  rintro e w' ⟨rfl, rfl⟩
  go_wp2
  go_ret
  exact ⟨rfl, Grown.refl _⟩

set_option maxHeartbeats 400000 in
theorem walk_paged (p : Nat) (hp : p ≤ 65488) (h1 : 15992 ≤ p) (w : World) :
    Calls Try.prog 3 #[.int .i64 p] w fun e w' => e = .returned (.bool true) ∧ Grown w w' := by
  have e6 : piece 48 p 24 = 832 + p := by
    unfold piece
    rw [if_neg (by omega)]
  have e4 : piece 28 (p + 13) 31 = 832 + p + 13 := by
    unfold piece
    rw [if_neg (by omega)]
    omega
  have c6 : ∀ W : World, Calls Try.prog 5 #[.int .i64 p, .int .u8 1] W fun e w' => e = .returned (.int .i64 (832 + (p : Int))) ∧ w' = W := fun W => by
    have := zz6 p hp W
    rw [e6] at this
    simpa using this
  have c4 : ∀ W : World, Calls Try.prog 5 #[.int .i64 ((p : Int) + 13), .int .u8 0] W fun e w' => e = .returned (.int .i64 (832 + (p : Int) + 13)) ∧ w' = W := fun W => by
    have := zz4 (p + 13) (by omega) W
    rw [e4] at this
    simpa using this
  have cl : ∀ W : World, Calls Try.prog 6 #[.int .i64 576, .int .i64 72] W fun e w' => e = .returned (.bool true) ∧ w' = W := fun W => least_576 72 (by omega) W
  have hq1 : (0 : Int) ≤ 832 + (p : Int) := by omega
  have hq2 : 832 + (p : Int) ≤ (p : Int) + 832 := by omega
  have hq3 : (832 + (p : Int)) - 256 - p = 576 := by omega
  have hq4 : (256 : Int) + p ≤ 832 + (p : Int) := by omega
  generalize 832 + (p : Int) = q at c6 c4 hq1 hq2 hq3 hq4
  replace hq3 : Hid _ := hq3
  replace c6 : Hid _ := c6
  replace c4 : Hid _ := c4
  replace cl : Hid _ := cl
  have g0 : ¬ ((p : Int) < 0) := by omega
  have g1 : ¬ ((65488 : Int) < p) := by omega
  have g2 : ¬ ((p : Int) < 15992) := by omega
  clear e6 e4
  have hb2 : (p : Int) ≤ 65488 := by omega
  clear hp h1
  generalize (p : Int) = x at *
  go_enter Try.func3, Try.ntmps3
  go_wp2_with fail
  refine (c6.out _).mono ?_
  rintro e w' ⟨rfl, rfl⟩
  go_wp2_with fail
  refine (c4.out _).mono ?_
  rintro e w' ⟨rfl, rfl⟩
  have g3 := hq3.out
  go_wp2_with fail
  refine (cl.out _).mono ?_
  rintro e w' ⟨rfl, rfl⟩
  go_wp2
  go_ret
  exact ⟨rfl, Grown.refl _⟩

set_option maxHeartbeats 400000 in
theorem walk_out (a0 : Int) (h : a0 < 0 ∨ 65488 < a0) (w : World) :
    Calls Try.prog 3 #[.int .i64 a0] w fun e w' => e = .returned (.bool true) ∧ Grown w w' := by
  rcases h with h | h
  · go_enter Try.func3, Try.ntmps3
    go_wp2_with fail
    go_ret
    exact ⟨rfl, Grown.refl _⟩
  · have h0 : ¬ a0 < 0 := by omega
    go_enter Try.func3, Try.ntmps3
    go_wp2_with fail
    go_ret
    exact ⟨rfl, Grown.refl _⟩

theorem walk (a0 : Int) (w0 : (Lit.int .i64 a0).wf = true) (w : World) :
    Calls Try.prog 3 #[.int .i64 a0] w fun e w' => e = .returned (.bool true) ∧ Grown w w' := by
  by_cases h : a0 < 0 ∨ 65488 < a0
  · exact walk_out a0 h w
  · obtain ⟨p, rfl⟩ := Int.eq_ofNat_of_zero_le (show 0 ≤ a0 by omega)
    by_cases h1 : p < 15992
    · exact walk_in p (by omega) h1 w
    · exact walk_paged p (by omega) (by omega) w

/-! ### THE ROW's STEP: WRITTEN OUT: LEAVE IT -/
set_option maxRecDepth 100000 in
theorem lifted (os : Os) (started : os.Started) (H : Type) (enc : TypeId × Value → H) :
    ReturnsInHanded {} Try.checked os 3 .any (Rows.fnBufferChargeFamilyShiftSpec.pre6 enc Try.prog Try.f3 Rows.fnBufferChargeFamilyShiftRow.domain false) (Rows.fnBufferChargeFamilyShiftSpec.post enc Try.prog Try.f3 false true false false) := by
  refine returnsInHanded_of_change (C := Try.checked) own started (by kernel_rfl) Try.func3
    (ChangeSpec.witness6 (enc := enc) (C := Try.checked) false ⟨#[], #[.int .i64 0], []⟩ 8 (by kernel_rfl) (by kernel_rfl) (by kernel_rfl) (by kernel_rfl)) ?_
  intro W base args ds gs before hval0 hW hcnd _
  have hval : ∀ (j : Nat) t v, Try.f3.params[j]? = some t → args[j]? = some v → Value.okWide Try.prog W .any base t v := hval0
  have hW' := hW
  obtain ⟨p, q, hA0, hV, rfl, hfz, hnd⟩ := hW
  have hA : DataW.TrodAll enc Try.prog W 0 (fun _ => true) true Try.f3.params.toList args.toList ds p := hA0
  rw [Try.params3] at hA hval
  obtain ⟨v0, vs0, d0, ds0, p0, q0, hargs, rfl, rfl, h0, r0⟩ := trodAll_cons hA
  obtain ⟨rfl, rfl, rfl⟩ := trodAll_nil r0
  obtain rfl : args = #[v0] := by cases args; simp_all
  obtain ⟨rfl, rfl⟩ := trodVars_none hV
  obtain ⟨a0, rfl, rfl, rfl, w0⟩ := open_int Try.underlying3 (hval 0 3 v0 rfl rfl) h0
  clear hA0 hval0
  simp only [List.append_nil] at hW'
  refine (walk a0 w0 W).mono fun e W' ⟨he, hg⟩ => ?_
  subst he
  exact ⟨_, rfl, post_of_same (pa := []) (pv := []) hW' (fun _ _ _ => (trodAll_cons_mk (shut_bool Try.underlying4 _) trodAll_mk0)) (fun sp _ => (trodAll_cons_mk (shut_int Try.underlying3 w0) trodAll_mk0)) (fun _ _ => rfl) rfl
    (hg.frame _) hg.2.1 (ok_one (by kernel_rfl) rfl (okWide_bool_mk Try.underlying4 _))⟩

theorem over : Rows.fnBufferChargeFamilyShiftRow.holds Try.pinned (OpenSpec.ofChange Rows.fnBufferChargeFamilyShiftSpec) :=
  OpenClaim.holds_of_wide 3 Try.f3 rfl rfl rfl rfl rfl rfl rfl ⟨rfl, rfl, rfl, rfl, rfl⟩ rfl rfl rfl rfl rfl (by kernel_rfl) Try.func3 (by kernel_rfl)
    (of_decide_eq_true (by kernel_rfl)) (by unfold Func.isWrapper; first | (rw [if_pos (by decide +kernel)]; kernel_rfl) | (rw [if_neg (by decide +kernel)]; exact ⟨rfl, rfl⟩))
    (fun os started H enc _ => lifted os started H enc)

/-- ████ THE STATEMENT ████ -/
theorem proved : Rows.FnBufferChargeFamilyShiftSaid :=
  over
end Go.Proofs.Qxb6618966a.fnBufferChargeFamilyShift
namespace Go.Proofs.Qxb6618966a
theorem bufferChargeFamilyShift : Rows.FnBufferChargeFamilyShiftSaid := fnBufferChargeFamilyShift.proved
end Go.Proofs.Qxb6618966a
