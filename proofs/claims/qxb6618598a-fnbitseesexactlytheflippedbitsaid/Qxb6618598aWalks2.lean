/-
  THE WALKS, part two: ZZflip, the bytes' count.
-/
import Derived.Test.Qxb6618598aWalks
namespace Go.Proofs.Qxb6618598a
open Go.RowKit Plain

set_option maxHeartbeats 400000 in
theorem zzflip_any (xs : List Nat) (hl : xs.length = 20) (hx : ∀ x ∈ xs, x < 256) (i : Nat) (hi : i < 160) (w : World) :
    Calls Try.prog 5 #[.agg (cs xs), .int .i64 i] w fun e w' => e = .returned (.agg (cs (flp xs i))) ∧ Kp w w' := by
  have HX := info_cs xs hl
  have HI := info_cs (flp xs i) (by rw [flp_length]; exact hl)
  go_enter Try.func5, Try.ntmps5
  go_wp2_with (first
    | (refine wpList_load_row rfl 23 _ rfl w.heap.size rfl 23 (cs xs) (0, 0) (.array 20 5) (by exact heap_alloc2_old _ _ _) Try.underlying23 rfl HX.out.2 ?_)
    | (go_at_call 9; refine (flip_any xs hl hx i hi _).mono ?_; rintro e w' ⟨rfl, hk⟩)
    | (refine wpList_store_row rfl 23 _ _ rfl (w.heap.size + 1) (cs (flp xs i)) rfl rfl 23 _ (hk.heap (by exact heap_alloc2_new _ _ _)) HI.out.2 (by rw [cs_size, flp_length, hl]; rfl) (cs_one _) ?_))
  refine bodyPost_ret (v := .agg (cs (flp xs i))) (results_cell_row Try.results5 _ _ (w.heap.size + 1) 23 (cs (flp xs i)) (0, 0) (.array 20 5) rfl (setRow_heap _ _ _ _ _ _ (hk.heap (by exact heap_alloc2_new _ _ _))) Try.underlying23 rfl HI.out.2) rfl ⟨rfl, ?_⟩
  exact ((((Kp.refl _).alloc _ _).alloc _ _).trans hk).setRow (by omega) _

theorem kern_and (m : Nat) (h : m < 256) (h0 : m ≠ 0) : bits BinOp.and IntKind.u8 (m : Int) ((m : Int) - 1) = ((m &&& (m - 1) : Nat) : Int) := by
  rw [show ((m : Int) - 1) = ((m - 1 : Nat) : Int) by omega, u8_and_nat _ _ h (by omega)]

set_option maxHeartbeats 400000 in
theorem pop_any (xs : List Nat) (hl : xs.length = 20) (hx : ∀ x ∈ xs, x < 256) (w : World) :
    Calls Try.prog 7 #[.agg (cs xs)] w fun e w' => e = .returned (.int .i64 (pops xs 20 : Nat)) ∧ Kp w w' := by
  go_enter Try.func7, Try.ntmps7
  go_wp2
  go_loop [3, 4] (fun c j => ∃ k : Nat, k ≤ 20 ∧ j = .int .i64 k ∧ c = .int .i64 (pops xs k : Nat)) (fun _ j => 20 - (intOf j).toNat)
  case atStart => exact ⟨0, Nat.zero_le _, rfl, rfl⟩
  case round =>
    obtain ⟨k, hk, rfl, rfl⟩ := hrel
    have hle := pops_le xs k
    by_cases hlt : k < 20
    · have hc := cs_get xs k (by omega)
      have hb := byt_lt xs hx k
      clear hx
      go_wp2
      go_loop [3, 5] (fun c v => ∃ n m : Nat, m < 256 ∧ v = .int .u8 m ∧ c = .int .i64 n ∧ n + pop m = pops xs k + pop (byt xs k)) (fun _ v => (intOf v).toNat)
      case atStart => exact ⟨pops xs k, byt xs k, hb, rfl, rfl, rfl⟩
      case round =>
        obtain ⟨n, m, hm, rfl, rfl, he⟩ := hrel
        replace he : Hid _ := he
        have hpl := pop_le (byt xs k)
        have hn : n ≤ 8 * k + 8 := by have := he.out; omega
        by_cases h0 : m = 0
        · subst h0
          go_wp2
          go_round
          case rel => exact ⟨k + 1, by omega, by go_num, by rw [show pops xs (k + 1) = n from by have := he.out; rw [pop_zero] at this; simp only [pops]; omega]⟩
          case measure => simp [intOf]; omega
        · have hka := kern_and m hm h0
          have hkn := kern m hm h0
          replace hka : Hid _ := hka
          obtain ⟨hk1, hk2⟩ := hkn
          replace hk1 : Hid _ := hk1
          go_wp2
          go_round
          case rel => exact ⟨n + 1, m &&& (m - 1), by omega, by rw [hka.out], by go_num, by have := he.out; have := hk1.out; omega⟩
          case measure => rw [hka.out]; simp [intOf]; omega
    · have : k = 20 := by omega
      subst this
      go_wp2
      go_ret
      exact ⟨rfl, (Kp.refl _).alloc _ _⟩
end Go.Proofs.Qxb6618598a
