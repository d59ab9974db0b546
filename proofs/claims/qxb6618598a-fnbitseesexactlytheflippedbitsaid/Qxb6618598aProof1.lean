/-
  THE STATEMENT FnBitSeesExactlyTheFlippedBitSaid, PROVED.
-/
import Derived.Test.Qxb6618598aLaw1
import Derived.Test.Qxb6618598aOpen
namespace Go.Proofs.Qxb6618598a
open Go.ChangeShapes Go.WideShapes Go.ChangeAt Go.RowKit Plain

set_option maxHeartbeats 400000 in
theorem law1_out (xs : List Nat) (i : Int) (hi : i < 0 ∨ 160 ≤ i) (w : World) :
    Calls Try.prog 3 #[.agg (cs xs), .int .i64 i] w fun e w' => e = .returned (.bool true) ∧ Kp w w' := by
  rcases hi with hi | hi
  · go_enter Try.func3, Try.ntmps3
    go_wp2
    go_ret
    exact ⟨rfl, (Kp.refl _).alloc _ _⟩
  · have h0 : ¬ i < 0 := by omega
    go_enter Try.func3, Try.ntmps3
    go_wp2
    go_ret
    exact ⟨rfl, (Kp.refl _).alloc _ _⟩

theorem law1_any (xs : List Nat) (hl : xs.length = 20) (hx : ∀ x ∈ xs, x < 256) (i : Int) (w : World) :
    Calls Try.prog 3 #[.agg (cs xs), .int .i64 i] w fun e w' => e = .returned (.bool true) ∧ Kp w w' := by
  by_cases h : i < 0 ∨ 160 ≤ i
  · exact law1_out xs i h w
  · obtain ⟨n, rfl⟩ := Int.eq_ofNat_of_zero_le (show 0 ≤ i by omega)
    exact law1_in xs hl hx n (by omega) w

set_option maxRecDepth 100000 in
theorem law1_lifted (os : Os) (started : os.Started) (H : Type) (enc : TypeId × Value → H) :
    ReturnsInHanded {} Try.checked os 3 .any (Rows.fnBitSeesExactlyTheFlippedBitSpec.pre6 enc Try.prog Try.f3 Rows.fnBitSeesExactlyTheFlippedBitRow.domain false) (Rows.fnBitSeesExactlyTheFlippedBitSpec.post enc Try.prog Try.f3 false true false false) := by
  refine returnsInHanded_of_change (C := Try.checked) Try.own started (by kernel_rfl) Try.func3
    (ChangeSpec.witness6 (enc := enc) (C := Try.checked) false ⟨#[], #[.agg #[.int .u8 0, .int .u8 0, .int .u8 0, .int .u8 0, .int .u8 0, .int .u8 0, .int .u8 0, .int .u8 0, .int .u8 0, .int .u8 0, .int .u8 0, .int .u8 0, .int .u8 0, .int .u8 0, .int .u8 0, .int .u8 0, .int .u8 0, .int .u8 0, .int .u8 0, .int .u8 0], .int .i64 0], []⟩ 8 (by kernel_rfl) (by kernel_rfl) (by kernel_rfl) (by kernel_rfl)) ?_
  intro W base args ds gs before hval0 hW hcnd _
  have hval : ∀ (j : Nat) t v, Try.f3.params[j]? = some t → args[j]? = some v → Value.okWide Try.prog W .any base t v := hval0
  have hW' := hW
  obtain ⟨p, q, hA0, hV, rfl, hfz, hnd⟩ := hW
  have hA : DataW.TrodAll enc Try.prog W 0 (fun _ => true) true Try.f3.params.toList args.toList ds p := hA0
  rw [Try.params3] at hA hval
  obtain ⟨v0, vs0, d0, ds0, p0, q0, hargs, rfl, rfl, h0, r0⟩ := trodAll_cons hA
  obtain ⟨v1, vs1, d1, ds1, p1, q1, rfl, rfl, rfl, h1, r1⟩ := trodAll_cons r0
  obtain ⟨rfl, rfl, rfl⟩ := trodAll_nil r1
  obtain rfl : args = #[v0, v1] := by cases args; simp_all
  obtain ⟨rfl, rfl⟩ := trodVars_none hV
  obtain ⟨xs, rfl, rfl, hl, hx⟩ := open_arr (hval 0 22 v0 rfl rfl) h0
  obtain ⟨i, rfl, rfl, rfl, w1⟩ := open_int Try.underlying3 (hval 1 3 v1 rfl rfl) h1
  clear hA0 hval0
  simp only [List.append_nil] at hW'
  refine (law1_any xs hl hx i W).mono fun e W' ⟨he, hg⟩ => ?_
  subst he
  exact ⟨_, rfl, post_of_same (pa := []) (pv := []) hW' (fun _ _ _ => (trodAll_cons_mk (shut_bool Try.underlying4 _) trodAll_mk0)) (fun sp _ => (trodAll_cons_mk (shut_arr h0 sp) (trodAll_cons_mk (shut_int Try.underlying3 w1) trodAll_mk0))) (fun _ _ => rfl) rfl
    (hg.below.frame _) hg.fz (ok_one (by kernel_rfl) rfl (okWide_bool_mk Try.underlying4 _))⟩

/-- ████ THE STATEMENT ████ -/
theorem bitSeesExactlyTheFlippedBit : Rows.FnBitSeesExactlyTheFlippedBitSaid :=
  OpenClaim.holds_of_wide 3 Try.f3 rfl rfl rfl rfl rfl rfl rfl ⟨rfl, rfl, rfl, rfl, rfl⟩ rfl rfl rfl rfl rfl (by kernel_rfl) Try.func3 (by kernel_rfl)
    (of_decide_eq_true (by kernel_rfl)) (by unfold Func.isWrapper; first | (rw [if_pos (by decide +kernel)]; kernel_rfl) | (rw [if_neg (by decide +kernel)]; exact ⟨rfl, rfl⟩))
    (fun os started H enc _ => law1_lifted os started H enc)
#print axioms bitSeesExactlyTheFlippedBit
end Go.Proofs.Qxb6618598a
