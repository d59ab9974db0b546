/-
  THE PLAIN LAWS of the seat's two statements: bytes and bits of an array of twenty bytes. No Go in sight.
-/
import Derived.Laws.BitsAllLaws
namespace Go.Proofs.Qxb6618598a.Plain

/-- Byte k. -/
def byt (xs : List Nat) (k : Nat) : Nat := xs.getD k 0
/-- Bit i, counted from the most significant bit of the first byte. -/
def bitB (xs : List Nat) (i : Nat) : Bool := (byt xs (i / 8)).testBit (7 - i % 8)
/-- Bit i turned. -/
def flp (xs : List Nat) (i : Nat) : List Nat := xs.set (i / 8) (byt xs (i / 8) ^^^ 2 ^ (7 - i % 8))

theorem mask (r : Nat) (h : r < 8) : 128 / 2 ^ r = 2 ^ (7 - r) := by
  have : r = 0 ∨ r = 1 ∨ r = 2 ∨ r = 3 ∨ r = 4 ∨ r = 5 ∨ r = 6 ∨ r = 7 := by omega
  rcases this with rfl | rfl | rfl | rfl | rfl | rfl | rfl | rfl <;> rfl

theorem and_bit (b p : Nat) : (b &&& 2 ^ p != 0) = b.testBit p := by
  have hp : 0 < 2 ^ p := Nat.two_pow_pos p
  rw [Go.nat_bit, Nat.testBit_eq_decide_div_mod_eq]
  have : b / 2 ^ p % 2 = 0 ∨ b / 2 ^ p % 2 = 1 := by omega
  rcases this with h | h <;> simp [h]

theorem xor_lt (b p : Nat) (hb : b < 256) (hp : p < 8) : b ^^^ 2 ^ p < 256 :=
  Nat.xor_lt_two_pow (n := 8) hb (Nat.pow_lt_pow_right (by decide) hp)

theorem flp_length (xs : List Nat) (i : Nat) : (flp xs i).length = xs.length := by simp [flp]

theorem byt_lt (xs : List Nat) (h : ∀ x ∈ xs, x < 256) (k : Nat) : byt xs k < 256 := by
  unfold byt
  rw [List.getD_eq_getElem?_getD]
  cases e : xs[k]? with
  | none => decide
  | some v => exact h v (List.mem_of_getElem? e)

theorem flp_lt (xs : List Nat) (i : Nat) (h : ∀ x ∈ xs, x < 256) : ∀ x ∈ flp xs i, x < 256 := by
  intro x hx
  rcases List.mem_or_eq_of_mem_set hx with hx | rfl
  · exact h x hx
  · exact xor_lt _ _ (byt_lt xs h _) (by omega)

theorem byt_flp (xs : List Nat) (i k : Nat) (hi : i / 8 < xs.length) : byt (flp xs i) k = if i / 8 = k then byt xs k ^^^ 2 ^ (7 - i % 8) else byt xs k := by
  unfold flp
  by_cases h : i / 8 = k
  · subst h
    rw [if_pos rfl]
    simp [byt, List.getD_eq_getElem?_getD, hi]
  · simp [byt, List.getD_eq_getElem?_getD, h]

/-- The turned array reads as the old one, but at i. -/
theorem bit_flp (xs : List Nat) (hl : xs.length = 20) (i j : Nat) (hi : i < 160) : bitB (flp xs i) j = (bitB xs j != decide (j = i)) := by
  unfold bitB
  rw [byt_flp xs i (j / 8) (by omega)]
  by_cases h : i / 8 = j / 8
  · rw [if_pos h, Nat.testBit_xor, Nat.testBit_two_pow]
    by_cases e : j = i
    · subst e; simp
    · have : ¬ (7 - i % 8 = 7 - j % 8) := by omega
      simp [this, e]
  · rw [if_neg h]
    have : j ≠ i := by rintro rfl; exact h rfl
    simp [this]

/-! ### Counting -/
def one (b : Bool) : Nat := if b then 1 else 0
/-- The set bits of a byte. -/
def pop (v : Nat) : Nat := one (v.testBit 7) + one (v.testBit 6) + one (v.testBit 5) + one (v.testBit 4) + one (v.testBit 3) + one (v.testBit 2) + one (v.testBit 1) + one (v.testBit 0)
/-- The set bits among the first j positions. -/
def cnt (xs : List Nat) : Nat → Nat
  | 0 => 0
  | j + 1 => cnt xs j + one (bitB xs j)
/-- The set bits of the first k bytes. -/
def pops (xs : List Nat) : Nat → Nat
  | 0 => 0
  | k + 1 => pops xs k + pop (byt xs k)

theorem one_le (b : Bool) : one b ≤ 1 := by cases b <;> decide
theorem pop_le (v : Nat) : pop v ≤ 8 := by
  unfold pop
  have := one_le (v.testBit 7); have := one_le (v.testBit 6); have := one_le (v.testBit 5); have := one_le (v.testBit 4)
  have := one_le (v.testBit 3); have := one_le (v.testBit 2); have := one_le (v.testBit 1); have := one_le (v.testBit 0)
  omega
theorem cnt_le (xs : List Nat) : ∀ j, cnt xs j ≤ j
  | 0 => Nat.le_refl _
  | j + 1 => by have := cnt_le xs j; have := one_le (bitB xs j); unfold cnt; omega
theorem pops_le (xs : List Nat) : ∀ k, pops xs k ≤ 8 * k
  | 0 => Nat.le_refl _
  | k + 1 => by have := pops_le xs k; have := pop_le (byt xs k); unfold pops; omega

theorem bit_at (xs : List Nat) (k m : Nat) (h : m < 8) : bitB xs (8 * k + m) = (byt xs k).testBit (7 - m) := by
  unfold bitB
  rw [show (8 * k + m) / 8 = k by omega, show (8 * k + m) % 8 = m by omega]

theorem cnt_pops (xs : List Nat) : ∀ k, cnt xs (8 * k) = pops xs k
  | 0 => rfl
  | k + 1 => by
    have ih := cnt_pops xs k
    rw [show 8 * (k + 1) = 8 * k + 7 + 1 by omega]
    simp only [cnt]
    rw [ih, show bitB xs (8 * k) = bitB xs (8 * k + 0) from rfl, bit_at xs k 0 (by omega), bit_at xs k 1 (by omega), bit_at xs k 2 (by omega), bit_at xs k 3 (by omega), bit_at xs k 4 (by omega), bit_at xs k 5 (by omega), bit_at xs k 6 (by omega), bit_at xs k 7 (by omega)]
    simp only [pops, pop, Nat.sub_zero, Nat.sub_self, Nat.reduceSub]
    omega

/-- Kernighan's step. -/
theorem kern_all : ∀ v : Fin 256, v.val ≠ 0 → pop v.val = pop (v.val &&& (v.val - 1)) + 1 ∧ (v.val &&& (v.val - 1)) < v.val := by decide +kernel
theorem kern (v : Nat) (h : v < 256) (h0 : v ≠ 0) : pop v = pop (v &&& (v - 1)) + 1 ∧ (v &&& (v - 1)) < v := kern_all ⟨v, h⟩ h0
theorem pop_zero : pop 0 = 0 := by decide

/-! ### The first position that parts two arrays -/
/-- How long a byte is. -/
def len8 (x : Nat) : Nat := if x = 0 then 0 else x.log2 + 1
theorem len_all : ∀ x : Fin 256, x.val ≠ 0 → 1 ≤ len8 x.val ∧ len8 x.val ≤ 8 ∧ x.val.testBit (len8 x.val - 1) = true ∧ ∀ m : Fin 8, len8 x.val ≤ m.val → x.val.testBit m.val = false := by decide +kernel
theorem len_at (x : Nat) (h : x < 256) (h0 : x ≠ 0) : 1 ≤ len8 x ∧ len8 x ≤ 8 ∧ x.testBit (len8 x - 1) = true ∧ ∀ m, m < 8 → len8 x ≤ m → x.testBit m = false := by
  obtain ⟨a, b, c, d⟩ := len_all ⟨x, h⟩ h0
  exact ⟨a, b, c, fun m hm => d ⟨m, hm⟩⟩

/-- p is the first position at which the two part. -/
def First (xs ys : List Nat) (p : Nat) : Prop := p ≤ 160 ∧ (∀ j, j < p → bitB xs j = bitB ys j) ∧ (p < 160 → bitB xs p ≠ bitB ys p)

/-- The bytes before k are the same, byte k parts. -/
theorem first_at (xs ys : List Nat) (hx : ∀ x ∈ xs, x < 256) (hy : ∀ y ∈ ys, y < 256) (k : Nat) (hk : k < 20) (hb : ∀ m, m < k → byt xs m = byt ys m) (hne : byt xs k ^^^ byt ys k ≠ 0) :
    First xs ys (k * 8 + (8 - len8 (byt xs k ^^^ byt ys k))) := by
  have hlt : byt xs k ^^^ byt ys k < 256 := Nat.xor_lt_two_pow (n := 8) (byt_lt xs hx k) (byt_lt ys hy k)
  obtain ⟨l1, l2, l3, l4⟩ := len_at _ hlt hne
  generalize hL : len8 (byt xs k ^^^ byt ys k) = L at l1 l2 l3 l4 ⊢
  refine ⟨by omega, ?_, fun _ => ?_⟩
  · intro j hj
    by_cases h : j / 8 < k
    · unfold bitB; rw [hb _ h]
    · have e : j / 8 = k := by omega
      unfold bitB
      rw [e]
      have := l4 (7 - j % 8) (by omega) (by omega)
      rw [Nat.testBit_xor] at this
      cases h1 : (byt xs k).testBit (7 - j % 8) <;> cases h2 : (byt ys k).testBit (7 - j % 8) <;> simp_all
  · unfold bitB
    rw [show (k * 8 + (8 - L)) / 8 = k by omega, show 7 - (k * 8 + (8 - L)) % 8 = L - 1 by omega]
    rw [Nat.testBit_xor] at l3
    intro e
    rw [e] at l3
    simp at l3

theorem first_end (xs ys : List Nat) (hb : ∀ m, m < 20 → byt xs m = byt ys m) : First xs ys 160 :=
  ⟨Nat.le_refl _, fun j hj => by unfold bitB; rw [hb _ (by omega)], fun h => absurd h (by omega)⟩

theorem byt_ext (xs ys : List Nat) (hl : xs.length = 20) (hm : ys.length = 20) (h : ∀ m, m < 20 → byt xs m = byt ys m) : xs = ys := by
  apply List.ext_getElem (by omega)
  intro i h1 h2
  have := h i (by omega)
  simpa [byt, List.getD_eq_getElem?_getD, h1, h2] using this

/-- It is 160 just where the two are one. -/
theorem first_eq (xs ys : List Nat) (hl : xs.length = 20) (hm : ys.length = 20) (hx : ∀ x ∈ xs, x < 256) (hy : ∀ y ∈ ys, y < 256) (p : Nat) (h : First xs ys p) : (p = 160) ↔ xs = ys := by
  obtain ⟨h1, h2, h3⟩ := h
  constructor
  · rintro rfl
    refine byt_ext xs ys hl hm fun m hm => Nat.eq_of_testBit_eq fun i => ?_
    by_cases hi : i < 8
    · have := h2 (8 * m + (7 - i)) (by omega)
      rw [bit_at xs m (7 - i) (by omega), bit_at ys m (7 - i) (by omega), show 7 - (7 - i) = i by omega] at this
      exact this
    · have hp : 2 ^ 8 ≤ 2 ^ i := Nat.pow_le_pow_right (by decide) (by omega)
      rw [Nat.testBit_lt_two_pow (Nat.lt_of_lt_of_le (byt_lt xs hx m) hp), Nat.testBit_lt_two_pow (Nat.lt_of_lt_of_le (byt_lt ys hy m) hp)]
  · rintro rfl
    by_cases hp : p < 160
    · exact absurd rfl (h3 hp)
    · omega
end Go.Proofs.Qxb6618598a.Plain
