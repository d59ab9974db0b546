/-
  The 128-bit generator's state runs through every number: by halves.
-/
namespace Go.Proofs.Qxb6618934aFmt.Pcg

/-- k rounds of s ↦ a*s + c. -/
def iter (f : Nat → Nat) : Nat → Nat → Nat
  | 0, s => s
  | n + 1, s => iter f n (f s)
theorem iter_add (f : Nat → Nat) : ∀ (m n s : Nat), iter f (m + n) s = iter f n (iter f m s)
  | 0, n, s => by simp [iter]
  | m + 1, n, s => by rw [show m + 1 + n = (m + n) + 1 by omega, iter, iter, iter_add f m n]

theorem alg1 (q x y s : Nat) : (4 * q * x + 1) * ((4 * q * x + 1) * s + q * (2 * y + 1)) + q * (2 * y + 1) = (8 * q * (x + (q + q) * x * x) + 1) * s + (q + q) * (2 * (q * x * (2 * y + 1) + y) + 1) := by
  have f1 : 4 * q * x = 4 * (q * x) := Nat.mul_assoc _ _ _
  have f2 : q * ((q + q) * x * x) = 2 * ((q * x) * (q * x)) := by
    have : q * ((q + q) * x * x) = (q * x) * (q * x) + (q * x) * (q * x) := by
      simp only [Nat.mul_add, Nat.mul_comm, Nat.mul_left_comm]
    omega
  have f3 : q * (2 * (q * x * (2 * y + 1) + y) + 1) = 2 * ((q * x) * (q * (2 * y + 1))) + q * (2 * y + 1) := by
    have e : 2 * (q * x * (2 * y + 1) + y) + 1 = 2 * (q * x * (2 * y + 1)) + (2 * y + 1) := by omega
    rw [e, Nat.mul_add, Nat.mul_left_comm q 2, Nat.mul_left_comm q (q * x)]
  rw [f1, Nat.mul_assoc 8, Nat.mul_add q x, f2, Nat.add_mul q q, f3]
  generalize q * (2 * y + 1) = B
  generalize q * x = u
  have g1 : (4 * u + 1) * s = 4 * (u * s) + s := by rw [Nat.add_mul, Nat.mul_assoc, Nat.one_mul]
  have g2 : ∀ W, (4 * u + 1) * W = 4 * (u * W) + W := fun W => by rw [Nat.add_mul, Nat.mul_assoc, Nat.one_mul]
  have g3 : u * (4 * (u * s) + s + B) = 4 * (u * (u * s)) + u * s + u * B := by rw [Nat.mul_add, Nat.mul_add, Nat.mul_left_comm u 4]
  have g4 : (8 * (u + 2 * (u * u)) + 1) * s = 8 * (u * s) + 16 * (u * (u * s)) + s := by
    rw [Nat.add_mul, Nat.one_mul, Nat.mul_assoc 8, Nat.add_mul, Nat.mul_assoc 2, Nat.mul_assoc u u s]
    omega
  rw [g2 ((4 * u + 1) * s + B), g1, g3, g4]
  omega
theorem alg2 (q x y U r : Nat) : (4 * q * x + 1) * (q * U + r) + q * (2 * y + 1) = q * (U + 1 + 2 * (2 * x * (q * U + r) + y)) + r := by
  have h1 : (4 * q * x + 1) * (q * U + r) = 4 * (q * (x * (q * U + r))) + (q * U + r) := by rw [Nat.add_mul, Nat.one_mul, Nat.mul_assoc (4 * q), Nat.mul_assoc 4]
  have h2 : q * (U + 1 + 2 * (2 * x * (q * U + r) + y)) = q * U + q + (4 * (q * (x * (q * U + r))) + 2 * (q * y)) := by
    rw [Nat.mul_add, Nat.mul_add q U 1, Nat.mul_one, Nat.mul_left_comm q 2, Nat.mul_add q, Nat.mul_assoc 2 x, Nat.mul_left_comm q 2]
    omega
  have h3 : q * (2 * y + 1) = 2 * (q * y) + q := by rw [Nat.mul_add, Nat.mul_one, Nat.mul_left_comm]
  rw [h1, h2, h3]
  omega

/-- The 2^k-th iterate of s ↦ a*s + c (over all numbers) is s ↦ A*s + B with A ≡ 1 (mod 2^(k+2)) and B = 2^k * odd. -/
theorem power {a c : Nat} (ha : a % 4 = 1) (hc : c % 2 = 1) : ∀ k : Nat, ∃ x y : Nat, ∀ s, iter (fun s => a * s + c) (2 ^ k) s = (2 ^ (k + 2) * x + 1) * s + 2 ^ k * (2 * y + 1)
  | 0 => ⟨a / 4, c / 2, fun s => by
      simp only [iter]
      have h1 : a = 4 * (a / 4) + 1 := by omega
      have h2 : c = 2 * (c / 2) + 1 := by omega
      rw [show (2 : Nat) ^ (0 + 2) = 4 by rfl, show (2 : Nat) ^ 0 = 1 by rfl, Nat.one_mul, ← h1, ← h2]⟩
  | k + 1 => by
    obtain ⟨x, y, h⟩ := power ha hc k
    -- A = 4q x + 1, B = q (2y+1), q = 2^k ; A² = 8q (x + 2 q x²) + 1 ; (A+1) B = (4 q x + 2) q (2y+1) = 2q ((2 q x + 1)(2y+1))
    refine ⟨x + 2 ^ (k + 1) * x * x, 2 ^ k * x * (2 * y + 1) + y, fun s => ?_⟩
    rw [show 2 ^ (k + 1) = 2 ^ k + 2 ^ k by omega, iter_add, h, h]
    have e2 : (2 : Nat) ^ (k + 2) = 4 * 2 ^ k := by rw [Nat.pow_add]; omega
    have e3 : (2 : Nat) ^ (k + 1 + 2) = 8 * 2 ^ k := by rw [show k + 1 + 2 = k + 3 by omega, Nat.pow_add]; omega
    rw [e2, e3]
    generalize 2 ^ k = q
    exact alg1 q x y s

theorem iter_mod {a c M : Nat} : ∀ (n s : Nat), iter (fun s => (a * s + c) % M) n (s % M) % M = iter (fun s => a * s + c) n s % M
  | 0, s => by simp [iter]
  | n + 1, s => by
    simp only [iter]
    rw [show (a * (s % M) + c) % M = (a * s + c) % M by rw [Nat.add_mod, Nat.mul_mod, Nat.mod_mod, ← Nat.mul_mod, ← Nat.add_mod]]
    exact iter_mod n (a * s + c)

/-- From every number to every number, modulo every power of two. -/
theorem reach {a c : Nat} (ha : a % 4 = 1) (hc : c % 2 = 1) (s t : Nat) : ∀ k : Nat, ∃ n, iter (fun s => a * s + c) n s % 2 ^ k = t % 2 ^ k
  | 0 => ⟨0, by simp [Nat.mod_one]⟩
  | k + 1 => by
    obtain ⟨n, hn⟩ := reach ha hc s t k
    by_cases h : iter (fun s => a * s + c) n s % 2 ^ (k + 1) = t % 2 ^ (k + 1)
    · exact ⟨n, h⟩
    · obtain ⟨x, y, hp⟩ := power ha hc k
      refine ⟨n + 2 ^ k, ?_⟩
      rw [iter_add, hp]
      generalize iter (fun s => a * s + c) n s = u at *
      have e1 : (2 : Nat) ^ (k + 1) = 2 * 2 ^ k := by rw [Nat.pow_succ]; omega
      have e2 : (2 : Nat) ^ (k + 2) = 4 * 2 ^ k := by rw [Nat.pow_add]; omega
      rw [e1] at h ⊢
      rw [e2]
      have hq : 0 < 2 ^ k := Nat.two_pow_pos k
      generalize 2 ^ k = q at *
      -- u ≡ t mod q, not mod 2q
      have hu := Nat.div_add_mod u q
      have ht := Nat.div_add_mod t q
      rw [hn] at hu
      have hr : t % q < q := Nat.mod_lt _ hq
      generalize t % q = r at *
      generalize u / q = U at *
      generalize t / q = T at *
      subst hu ht
      have key : ∀ V : Nat, (q * V + r) % (2 * q) = q * (V % 2) + r := fun V => by
        have : q * V + r = (q * (V % 2) + r) + 2 * q * (V / 2) := by
          have hv := Nat.div_add_mod V 2
          calc q * V + r = q * (2 * (V / 2) + V % 2) + r := by rw [hv]
            _ = _ := by rw [Nat.mul_add]; rw [show q * (2 * (V / 2)) = 2 * q * (V / 2) by rw [← Nat.mul_assoc, Nat.mul_comm q 2]]; omega
        rw [this, Nat.add_mul_mod_self_left]
        apply Nat.mod_eq_of_lt
        have : q * (V % 2) ≤ q * 1 := Nat.mul_le_mul_left _ (by omega)
        omega
      rw [key, key] at h
      rw [show (4 * q * x + 1) * (q * U + r) + q * (2 * y + 1) = q * (U + 1 + 2 * (2 * x * (q * U + r) + y)) + r from alg2 q x y U r]
      rw [key, key]
      congr 2
      have h1 : U % 2 ≠ T % 2 := fun e => h (by rw [e])
      omega

theorem reach_mod {a c k : Nat} (ha : a % 4 = 1) (hc : c % 2 = 1) (s t : Nat) (hs : s < 2 ^ k) (ht : t < 2 ^ k) : ∃ n, iter (fun s => (a * s + c) % 2 ^ k) n s % 2 ^ k = t := by
  obtain ⟨n, hn⟩ := reach ha hc s t k
  refine ⟨n, ?_⟩
  have := iter_mod (a := a) (c := c) (M := 2 ^ k) n s
  rw [Nat.mod_eq_of_lt hs] at this
  rw [this, hn, Nat.mod_eq_of_lt ht]

/-- The generator's step: 128 bits. -/
def nx (s : Nat) : Nat := (47026247687942121848144207491837523525 * s + 117397592171526113268558934119004209487) % 340282366920938463463374607431768211456
theorem nx_lt (s : Nat) : nx s < 340282366920938463463374607431768211456 := Nat.mod_lt _ (by decide)
theorem nx_lo (hi lo : Nat) : nx (hi * 18446744073709551616 + lo) % 18446744073709551616 = (lo * 4865540595714422341 % 18446744073709551616 + 1442695040888963407) % 18446744073709551616 := by
  unfold nx
  omega
theorem nx_hi (hi lo : Nat) :
    nx (hi * 18446744073709551616 + lo) / 18446744073709551616 = ((lo * 4865540595714422341 / 18446744073709551616 + (hi * 4865540595714422341 + lo * 2549297995355413924)) % 18446744073709551616 + 6364136223846793005 + (lo * 4865540595714422341 % 18446744073709551616 + 1442695040888963407) / 18446744073709551616) % 18446744073709551616 := by
  unfold nx
  rw [show (340282366920938463463374607431768211456 : Nat) = 18446744073709551616 * 18446744073709551616 by decide, Nat.mod_mul_right_div_self]
  have e : 47026247687942121848144207491837523525 * (hi * 18446744073709551616 + lo) + 117397592171526113268558934119004209487 = 18446744073709551616 * (2549297995355413924 * hi * 18446744073709551616 + (lo * 4865540595714422341 / 18446744073709551616 + (hi * 4865540595714422341 + lo * 2549297995355413924)) + 6364136223846793005) + (lo * 4865540595714422341 % 18446744073709551616 + 1442695040888963407) := by
    omega
  rw [e, Nat.mul_add_div (by decide)]
  generalize lo * 4865540595714422341 / 18446744073709551616 + (hi * 4865540595714422341 + lo * 2549297995355413924) = X
  generalize (lo * 4865540595714422341 % 18446744073709551616 + 1442695040888963407) / 18446744073709551616 = Y
  omega
/-- The state whose draw is 1. -/
def good : Nat := 10053033840993720478 * 18446744073709551616
theorem reach_lit {f : Nat → Nat} {a c M : Nat} (k : Nat) (hM : 2 ^ k = M) (hf : ∀ s, f s = (a * s + c) % M) (ha : a % 4 = 1) (hc : c % 2 = 1) (s t : Nat) (hs : s < M) (ht : t < M) : ∃ n, iter f n s = t := by
  obtain rfl : f = fun s => (a * s + c) % M := funext hf
  subst hM
  obtain ⟨n, hn⟩ := reach_mod ha hc s t hs ht
  refine ⟨n, ?_⟩
  rw [← hn, Nat.mod_eq_of_lt]
  clear hn
  induction n generalizing s with
  | zero => exact hs
  | succ n ih => exact ih _ (Nat.mod_lt _ (Nat.two_pow_pos k))
theorem good_lt : good < 340282366920938463463374607431768211456 := by unfold good; omega
theorem p128 : 2 ^ 128 = 340282366920938463463374607431768211456 := by decide
theorem nx_eq (s : Nat) : nx s = (47026247687942121848144207491837523525 * s + 117397592171526113268558934119004209487) % 340282366920938463463374607431768211456 := by unfold nx; rfl
theorem good_reached (s : Nat) (hs : s < 340282366920938463463374607431768211456) : ∃ n, iter nx n s = good :=
  reach_lit 128 p128 nx_eq (by omega) (by omega) s good hs good_lt
#print axioms good_reached
end Go.Proofs.Qxb6618934aFmt.Pcg
