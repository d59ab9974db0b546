/-
  THE WALKS, part three: commonPrefix.
-/
import Derived.Test.Qxb6618598aWalks
import Derived.Test.Qxb6618598aShelf
namespace Go.Proofs.Qxb6618598a
open Go.RowKit Plain

theorem bitLen_len8_all : ∀ n : Fin 256, Lib.bitLen n.val = len8 n.val := by decide +kernel
theorem lead_any (x : Nat) (hx : x < 256) (w : World) :
    Calls Try.prog 12 #[.int .u8 x] w fun e w' => e = .returned (.int .i64 (8 - (len8 x : Int))) ∧ w' = w := by
  have h := Try.bits_LeadingZeros8 (x : Int) w (by omega) (by omega)
  rw [Int.toNat_natCast, bitLen_len8_all ⟨x, hx⟩] at h
  exact h

theorem xor_bytes (xs ys : List Nat) (hx : ∀ x ∈ xs, x < 256) (hy : ∀ y ∈ ys, y < 256) (k : Nat) :
    bits BinOp.xor IntKind.u8 (byt xs k : Int) (byt ys k : Int) = ((byt xs k ^^^ byt ys k : Nat) : Int) := u8_xor_nat _ _ (byt_lt xs hx k) (byt_lt ys hy k)

theorem eq_of_xor {a b : Nat} (h : a ^^^ b = 0) : a = b := by
  refine Nat.eq_of_testBit_eq fun i => ?_
  have := Nat.testBit_xor a b i
  rw [h, Nat.zero_testBit] at this
  cases h1 : a.testBit i <;> cases h2 : b.testBit i <;> simp_all

set_option maxHeartbeats 400000 in
theorem common_any (xs ys : List Nat) (hl : xs.length = 20) (hm : ys.length = 20) (hx : ∀ x ∈ xs, x < 256) (hy : ∀ y ∈ ys, y < 256) (w : World) :
    Calls Try.prog 11 #[.agg (cs xs), .agg (cs ys)] w fun e w' => ∃ p : Nat, e = .returned (.int .i64 p) ∧ First xs ys p ∧ Kp w w' := by
  go_enter Try.func11, Try.ntmps11
  go_wp2
  go_loopw [7] (fun i wr => ∃ k : Nat, k ≤ 20 ∧ i = .int .i64 k ∧ Hid (∀ m, m < k → byt xs m = byt ys m) ∧ ∃ n, wr = ((w.alloc (.cells (cs xs) 23)).alloc (.cells (cs ys) 23)).drewN n) (fun i _ => 20 - (intOf i).toNat)
  case atStart => exact ⟨0, Nat.zero_le _, rfl, (fun m h => absurd h (by omega)), 0, rfl⟩
  case round =>
    obtain ⟨k, hk, rfl, hb, n, rfl⟩ := hrel
    by_cases hlt : k < 20
    · have hc := cs_get xs k (by omega)
      have hd := cs_get ys k (by omega)
      have HX := xor_bytes xs ys hx hy k
      have hlt2 : byt xs k ^^^ byt ys k < 256 := Nat.xor_lt_two_pow (n := 8) (byt_lt xs hx k) (byt_lt ys hy k)
      go_wp2
      go_quiet (fail)
      by_cases h0 : byt xs k ^^^ byt ys k = 0
      · have HE : Hid (byt xs k = byt ys k) := eq_of_xor h0
        have h0' : ((byt xs k ^^^ byt ys k : Nat) : Int) = 0 := by omega
        go_wp2
        go_roundw
        case rel =>
          refine ⟨k + 1, by omega, by go_num, ?_, _, rfl⟩
          intro m hm
          by_cases e : m = k
          · subst e; exact HE.out
          · exact hb.out m (by omega)
        case measure => simp [intOf]; omega
      · have hl8 := (len_at _ hlt2 h0).2.1
        have HF := first_at xs ys hx hy k hlt hb.out h0
        replace HF : Hid _ := HF
        go_wp2_with (go_at_call 12; refine (lead_any _ hlt2 _).mono ?_; rintro e w' ⟨rfl, rfl⟩)
        go_ret
        refine ⟨k * 8 + (8 - len8 (byt xs k ^^^ byt ys k)), ?_, HF.out, (((Kp.refl _).alloc _ _).alloc _ _).drewN _⟩
        show Ending.returned (Value.int _ _) = _
        congr 2
        omega
    · have : k = 20 := by omega
      subst this
      go_wp2
      go_ret
      exact ⟨160, rfl, first_end xs ys hb.out, (((Kp.refl _).alloc _ _).alloc _ _).drewN _⟩

set_option maxHeartbeats 400000 in
theorem zzcommon_any (xs ys : List Nat) (hl : xs.length = 20) (hm : ys.length = 20) (hx : ∀ x ∈ xs, x < 256) (hy : ∀ y ∈ ys, y < 256) (w : World) :
    Calls Try.prog 8 #[.agg (cs xs), .agg (cs ys)] w fun e w' => ∃ p : Nat, e = .returned (.int .i64 p) ∧ First xs ys p ∧ Kp w w' := by
  have HX := info_cs xs hl
  have HY := info_cs ys hm
  go_enter Try.func8, Try.ntmps8
  go_wp2_with (first
    | (refine wpList_load_row rfl 23 _ rfl w.heap.size rfl 23 (cs xs) (0, 0) (.array 20 5) (by exact heap_alloc2_old _ _ _) Try.underlying23 rfl HX.out.2 ?_)
    | (refine wpList_load_row rfl 23 _ rfl (w.heap.size + 1) rfl 23 (cs ys) (0, 0) (.array 20 5) (by exact heap_alloc2_new _ _ _) Try.underlying23 rfl HY.out.2 ?_)
    | (go_at_call 11; refine (common_any xs ys hl hm hx hy _).mono ?_; rintro e w' ⟨p, rfl, hp, hk⟩))
  go_ret
  exact ⟨p, rfl, hp, (((Kp.refl _).alloc _ _).alloc _ _).trans hk⟩
end Go.Proofs.Qxb6618598a
