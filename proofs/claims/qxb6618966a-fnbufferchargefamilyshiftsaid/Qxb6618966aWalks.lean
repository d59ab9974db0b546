/-
  THE WALKS of the seat: headCharge and all above it.
-/
import Derived.Test.Qxb6618966aRows
import Derived.Test.Qxb6618966aShelf
import Derived.WalkKit
import Derived.WalkSpells
import Derived.ProofKit
import Derived.OpenShut
namespace Go.Proofs.Qxb6618966a
open Go.RowKit

theorem bitLen_range (k x : Nat) (h1 : 2 ^ k ≤ x) (h2 : x < 2 ^ (k + 1)) (h3 : x < 18446744073709551616) : Lib.bitLen x = k + 1 := by
  rw [Lib.bitLen_shift k x h1 h3]
  have : x / 2 ^ k = 1 := by
    rw [Nat.div_eq_iff (Nat.two_pow_pos k)]
    rw [Nat.pow_succ] at h2
    omega
  rw [this]
  rfl

/-- x &^ 63. -/
theorem mask63 (n : Nat) (h : n < 1048576) : n &&& (18446744073709551615 - 63) = n / 64 * 64 := by
  refine Nat.eq_of_testBit_eq fun i => ?_
  rw [show (18446744073709551615 - 63 : Nat) = (2 ^ 58 - 1) * 2 ^ 6 by decide, show n / 64 * 64 = n / 2 ^ 6 * 2 ^ 6 by rfl]
  rw [Nat.testBit_and, Nat.testBit_mul_two_pow, Nat.testBit_mul_two_pow, Nat.testBit_div_two_pow, Nat.testBit_two_pow_sub_one]
  by_cases hi : 6 ≤ i
  · by_cases hj : i < 64
    · simp [hi, show i - 6 < 58 by omega, show i - 6 + 6 = i by omega]
    · have : n.testBit i = false := Nat.testBit_lt_two_pow (Nat.lt_of_lt_of_le (show n < 2 ^ 20 by omega) (Nat.pow_le_pow_right (by decide) (by omega)))
      simp [this, show i - 6 + 6 = i by omega]
  · simp [hi]
theorem andNot63 (n : Nat) (h : n < 1048576) : bits BinOp.andNot IntKind.i64 (n : Int) 63 = ((n / 64 * 64 : Nat) : Int) := by
  have h0 : n &&& (18446744073709551615 - 63) ≤ n := Nat.and_le_left
  have e0 := mask63 n h
  show IntKind.i64.wrap ((BitVec.ofInt 64 (n : Int) &&& ~~~BitVec.ofInt 64 ((63 : Nat) : Int)).toNat : Int) = _
  rw [BitVec.toNat_and, BitVec.toNat_not, ofInt_u64 n (by omega), ofInt_u64 63 (by omega), IntKind.wrap_i64]
  rw [show 2 ^ 64 - 1 - 63 = 18446744073709551615 - 63 by decide, e0]
  omega

/-- What a head of that many bytes is rounded up to. -/
def up (b : Nat) : Nat := (b + 63) / 64 * 64
theorem andNot_up (b : Nat) (hb : b ≤ 16064) : bits BinOp.andNot IntKind.i64 ((b : Int) + 64 - 1) 63 = (up b : Int) := by
  rw [show ((b : Int) + 64 - 1) = ((b + 63 : Nat) : Int) by omega, andNot63 _ (by omega)]
  rfl

set_option maxHeartbeats 400000 in
theorem head_small (b : Nat) (hb : b ≤ 256) (w : World) :
    Calls Try.prog 10 #[.int .i64 b] w fun e w' => e = .returned (.int .i64 832) ∧ w' = w := by
  have hA := andNot_up b (by omega)
  have hu : up b ≤ 256 := by unfold up; omega
  have h4 : (up b : Int) + 320 ≤ 576 := by omega
  go_enter Try.func10, Try.ntmps10
  go_wp2
  go_ret
  exact ⟨rfl, rfl⟩

set_option maxHeartbeats 1000000 in
theorem head_at (b k : Nat) (hb : b ≤ 16064) (hk : k = 9 ∨ k = 10 ∨ k = 11 ∨ k = 12 ∨ k = 13) (h1 : 2 ^ k < up b + 320) (h2 : up b + 320 ≤ 2 ^ (k + 1)) (h3 : 576 < up b + 320) (w : World) :
    Calls Try.prog 10 #[.int .i64 b] w fun e w' => e = .returned (.int .i64 ((2 ^ (k + 1) + 256 : Nat) : Int)) ∧ w' = w := by
  have hA := andNot_up b hb
  have hu : up b ≤ 16064 := by unfold up; omega
  have hL := bitLen_range k (up b + 319) (by omega) (by omega) (by omega)
  replace hL : Hid _ := hL
  have h4 : ¬ ((up b : Int) + 320 ≤ 576) := by omega
  have hLen : ∀ W : World, Calls Try.prog 11 #[.int .u64 ((up b : Int) + 320 - 1)] W fun e w' => e = .returned (.int .i64 ((k + 1 : Nat) : Int)) ∧ w' = W := by
    intro W
    have := Try.bits_Len ((up b : Int) + 320 - 1) W (by omega) (by omega)
    rw [show ((up b : Int) + 320 - 1).toNat = up b + 319 by omega, hL.out] at this
    exact this
  replace hLen : Hid _ := hLen
  clear hL
  rcases hk with rfl | rfl | rfl | rfl | rfl
  all_goals
    go_enter Try.func10, Try.ntmps10
    go_wp2_with (go_at_call 11; refine (hLen.out _).mono ?_; rintro e w' ⟨rfl, rfl⟩)
    go_ret
    exact ⟨rfl, rfl⟩

/-! ### the six sizes of a head -/
/-- The head that holds b bytes. -/
def head (b : Nat) : Nat := if b ≤ 256 then 576 else if b ≤ 704 then 1024 else if b ≤ 1728 then 2048 else if b ≤ 3776 then 4096 else if b ≤ 7872 then 8192 else 16384
theorem head_any (b : Nat) (hb : b ≤ 16064) (w : World) :
    Calls Try.prog 10 #[.int .i64 b] w fun e w' => e = .returned (.int .i64 ((head b + 256 : Nat) : Int)) ∧ w' = w := by
  unfold head
  by_cases c1 : b ≤ 256
  · rw [if_pos c1]; exact head_small b c1 w
  rw [if_neg c1]
  by_cases c2 : b ≤ 704
  · rw [if_pos c2]; exact head_at b 9 hb (by omega) (by unfold up; omega) (by unfold up; omega) (by unfold up; omega) w
  rw [if_neg c2]
  by_cases c3 : b ≤ 1728
  · rw [if_pos c3]; exact head_at b 10 hb (by omega) (by unfold up; omega) (by unfold up; omega) (by unfold up; omega) w
  rw [if_neg c3]
  by_cases c4 : b ≤ 3776
  · rw [if_pos c4]; exact head_at b 11 hb (by omega) (by unfold up; omega) (by unfold up; omega) (by unfold up; omega) w
  rw [if_neg c4]
  by_cases c5 : b ≤ 7872
  · rw [if_pos c5]; exact head_at b 12 hb (by omega) (by unfold up; omega) (by unfold up; omega) (by unfold up; omega) w
  rw [if_neg c5]
  exact head_at b 13 hb (by omega) (by unfold up; omega) (by unfold up; omega) (by unfold up; omega) w
theorem head_bd (b : Nat) : 576 ≤ head b ∧ head b ≤ 16384 := by unfold head; repeat' split
                                                                all_goals omega

/-! ### pieceCharge, bufferCharge -/
set_option maxHeartbeats 400000 in
theorem piece_in (h d r : Nat) (hlt : h + d + r < 16064) (w : World) :
    Calls Try.prog 9 #[.int .i64 h, .int .i64 d, .int .i64 r] w fun e w' => e = .returned (.int .i64 ((head (h + d + r) + 256 : Nat) : Int)) ∧ w' = w := by
  have hc : ∀ W : World, Calls Try.prog 10 #[.int .i64 ((h : Int) + d + r)] W fun e w' => e = .returned (.int .i64 ((head (h + d + r) + 256 : Nat) : Int)) ∧ w' = W := fun W => by
    have := head_any (h + d + r) (by omega) W
    simpa using this
  replace hc : Hid _ := hc
  have h1 : (h : Int) + d + r < 16064 := by omega
  go_enter Try.func9, Try.ntmps9
  go_wp2_with (go_at_call 10; refine (hc.out _).mono ?_; rintro e w' ⟨rfl, rfl⟩)
  go_ret
  exact ⟨rfl, rfl⟩
set_option maxHeartbeats 400000 in
theorem piece_out (h d r : Nat) (hge : 16064 ≤ h + d + r) (hd : d ≤ 100000) (hs : h + r ≤ 256) (w : World) :
    Calls Try.prog 9 #[.int .i64 h, .int .i64 d, .int .i64 r] w fun e w' => e = .returned (.int .i64 ((832 + d : Nat) : Int)) ∧ w' = w := by
  have hc : ∀ W : World, Calls Try.prog 10 #[.int .i64 ((h : Int) + r)] W fun e w' => e = .returned (.int .i64 832) ∧ w' = W := fun W => by
    have := head_small (h + r) (by omega) W
    simpa using this
  replace hc : Hid _ := hc
  have h1 : ¬ ((h : Int) + d + r < 16064) := by omega
  go_enter Try.func9, Try.ntmps9
  go_wp2_with (go_at_call 10; refine (hc.out _).mono ?_; rintro e w' ⟨rfl, rfl⟩)
  go_ret
  exact ⟨by simp, rfl⟩

/-- What the kernel takes for a packet. -/
def piece (h d r : Nat) : Nat := if h + d + r < 16064 then head (h + d + r) + 256 else 832 + d
theorem piece_any (h d r : Nat) (hd : d ≤ 100000) (hs : h + r ≤ 256) (w : World) :
    Calls Try.prog 9 #[.int .i64 h, .int .i64 d, .int .i64 r] w fun e w' => e = .returned (.int .i64 ((piece h d r : Nat) : Int)) ∧ w' = w := by
  unfold piece
  by_cases c : h + d + r < 16064
  · rw [if_pos c]; exact piece_in h d r c w
  · rw [if_neg c]; exact piece_out h d r (by omega) hd hs w

theorem header6 (w : World) : Calls Try.prog 8 #[.int .u8 17, .int .u8 1] w fun e w' => e = .returned (.int .i64 48) ∧ w' = w := by
  go_enter Try.func8, Try.ntmps8
  go_wp2
  go_ret
  exact ⟨rfl, rfl⟩
theorem header4 (w : World) : Calls Try.prog 8 #[.int .u8 17, .int .u8 0] w fun e w' => e = .returned (.int .i64 28) ∧ w' = w := by
  go_enter Try.func8, Try.ntmps8
  go_wp2
  go_ret
  exact ⟨rfl, rfl⟩

set_option maxHeartbeats 400000 in
theorem charge6 (p : Nat) (hp : p ≤ 65488) (w : World) :
    Calls Try.prog 7 #[.int .i64 p, .int .u8 1] w fun e w' => e = .returned (.int .i64 ((piece 48 p 24 : Nat) : Int)) ∧ w' = w := by
  have hc := fun W : World => piece_any 48 p 24 (by omega) (by omega) W
  replace hc : Hid (∀ W : World, Calls Try.prog 9 #[.int .i64 48, .int .i64 p, .int .i64 24] W fun e w' => e = .returned (.int .i64 ((piece 48 p 24 : Nat) : Int)) ∧ w' = W) := hc
  have h1 : (48 : Int) + p ≤ 65536 := by omega
  go_enter Try.func7, Try.ntmps7
  go_wp2_with (first | (go_at_call 8; refine (header6 _).mono ?_; rintro e w' ⟨rfl, rfl⟩) | (go_at_call 9; refine (hc.out _).mono ?_; rintro e w' ⟨rfl, rfl⟩))
  go_ret
  exact ⟨rfl, rfl⟩
set_option maxHeartbeats 400000 in
theorem charge4 (p : Nat) (hp : p ≤ 65507) (w : World) :
    Calls Try.prog 7 #[.int .i64 p, .int .u8 0] w fun e w' => e = .returned (.int .i64 ((piece 28 p 31 : Nat) : Int)) ∧ w' = w := by
  have hc := fun W : World => piece_any 28 p 31 (by omega) (by omega) W
  replace hc : Hid (∀ W : World, Calls Try.prog 9 #[.int .i64 28, .int .i64 p, .int .i64 31] W fun e w' => e = .returned (.int .i64 ((piece 28 p 31 : Nat) : Int)) ∧ w' = W) := hc
  have h1 : (28 : Int) + p ≤ 65536 := by omega
  go_enter Try.func7, Try.ntmps7
  go_wp2_with (first | (go_at_call 8; refine (header4 _).mono ?_; rintro e w' ⟨rfl, rfl⟩) | (go_at_call 9; refine (hc.out _).mono ?_; rintro e w' ⟨rfl, rfl⟩))
  go_ret
  exact ⟨rfl, rfl⟩

/-! ### zzLeastHead -/
set_option maxHeartbeats 400000 in
theorem least_576 (b : Nat) (hb : b ≤ 256) (w : World) : Calls Try.prog 6 #[.int .i64 576, .int .i64 b] w fun e w' => e = .returned (.bool true) ∧ w' = w := by
  have h0 : ¬ ((576 : Int) < (b : Int) + 320) := by omega
  go_enter Try.func6, Try.ntmps6
  go_wp2
  go_ret
  exact ⟨rfl, rfl⟩
set_option maxHeartbeats 400000 in
/-- A power of two. -/
theorem least_pow (h b : Int) (hz : bits BinOp.and IntKind.i64 h (h - 1) = 0) (g5 : 1000 < h) (g6 : h < 20000) (g7 : 0 ≤ b) (g8 : b < 20000) (g0 : ¬ h < b + 320) (g1 : h / 2 < b + 320) (g2 : 576 < b + 320) (w : World) :
    Calls Try.prog 6 #[.int .i64 h, .int .i64 b] w fun e w' => e = .returned (.bool true) ∧ w' = w := by
  have g3 : (h == 576) = false := by simp; omega
  have g4 : ¬ (h < 576) := by omega
  have g9 : h.tdiv 2 = h / 2 := Int.tdiv_eq_ediv_of_nonneg (by omega)
  by_cases g : h / 2 < 576
  all_goals
    go_enter Try.func6, Try.ntmps6
    go_wp2
    go_ret
    exact ⟨rfl, rfl⟩
theorem least_any (b : Nat) (hb : b < 16064) (w : World) :
    Calls Try.prog 6 #[.int .i64 (head b : Nat), .int .i64 b] w fun e w' => e = .returned (.bool true) ∧ w' = w := by
  by_cases c1 : b ≤ 256
  · rw [show head b = 576 by simp [head, c1]]; exact least_576 b c1 w
  by_cases c2 : b ≤ 704
  · rw [show head b = 1024 by simp [head, c1, c2]]; exact least_pow 1024 b (by kernel_rfl) (by omega) (by omega) (by omega) (by omega) (by omega) (by omega) (by omega) w
  by_cases c3 : b ≤ 1728
  · rw [show head b = 2048 by simp [head, c1, c2, c3]]; exact least_pow 2048 b (by kernel_rfl) (by omega) (by omega) (by omega) (by omega) (by omega) (by omega) (by omega) w
  by_cases c4 : b ≤ 3776
  · rw [show head b = 4096 by simp [head, c1, c2, c3, c4]]; exact least_pow 4096 b (by kernel_rfl) (by omega) (by omega) (by omega) (by omega) (by omega) (by omega) (by omega) w
  by_cases c5 : b ≤ 7872
  · rw [show head b = 8192 by simp [head, c1, c2, c3, c4, c5]]; exact least_pow 8192 b (by kernel_rfl) (by omega) (by omega) (by omega) (by omega) (by omega) (by omega) (by omega) w
  rw [show head b = 16384 by simp [head, c1, c2, c3, c4, c5]]; exact least_pow 16384 b (by kernel_rfl) (by omega) (by omega) (by omega) (by omega) (by omega) (by omega) (by omega) w

/-! ### ZZBufferCharge -/
set_option maxHeartbeats 400000 in
theorem zz6 (p : Nat) (hp : p ≤ 65488) (w : World) :
    Calls Try.prog 5 #[.int .i64 p, .int .u8 1] w fun e w' => e = .returned (.int .i64 ((piece 48 p 24 : Nat) : Int)) ∧ w' = w := by
  go_enter Try.func5, Try.ntmps5
  go_wp2_with (go_at_call 7; refine (charge6 p hp _).mono ?_; rintro e w' ⟨rfl, rfl⟩)
  go_ret
  exact ⟨rfl, rfl⟩
set_option maxHeartbeats 400000 in
theorem zz4 (p : Nat) (hp : p ≤ 65507) (w : World) :
    Calls Try.prog 5 #[.int .i64 p, .int .u8 0] w fun e w' => e = .returned (.int .i64 ((piece 28 p 31 : Nat) : Int)) ∧ w' = w := by
  go_enter Try.func5, Try.ntmps5
  go_wp2_with (go_at_call 7; refine (charge4 p hp _).mono ?_; rintro e w' ⟨rfl, rfl⟩)
  go_ret
  exact ⟨rfl, rfl⟩
end Go.Proofs.Qxb6618966a
