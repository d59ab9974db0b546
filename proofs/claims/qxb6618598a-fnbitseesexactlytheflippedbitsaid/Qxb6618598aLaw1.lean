/-
  THE LAW's WALK: FnBitSeesExactlyTheFlippedBit.
-/
import Derived.Test.Qxb6618598aWalks2
namespace Go.Proofs.Qxb6618598a
open Go.RowKit Plain

theorem flp_test (xs : List Nat) (hl : xs.length = 20) (i k : Nat) (hi : i < 160) : (bitB (flp xs i) k == !(bitB xs k == ((k : Int) == (i : Int)))) = true := by
  rw [bit_flp xs hl i k hi]
  by_cases h : k = i
  · subst h; cases bitB xs k <;> simp
  · have : ¬ ((k : Int) = (i : Int)) := by omega
    cases bitB xs k <;> simp [h, this]

set_option maxHeartbeats 800000 in
set_option maxRecDepth 20000 in
theorem law1_in (xs : List Nat) (hl : xs.length = 20) (hx : ∀ x ∈ xs, x < 256) (i : Nat) (hi : i < 160) (w : World) :
    Calls Try.prog 3 #[.agg (cs xs), .int .i64 i] w fun e w' => e = .returned (.bool true) ∧ Kp w w' := by
  have HX := info_cs xs hl
  have HI := info_cs (flp xs i) (by rw [flp_length]; exact hl)
  go_enter Try.func3, Try.ntmps3
  go_wp2_with (first
    | (refine wpList_load_row rfl 22 _ rfl w.heap.size rfl 22 (cs xs) (0, 0) (.array 20 5) (by exact heap_alloc_new _ _) Try.underlying22 rfl HX.out.1 ?_)
    | (refine wpList_store_row rfl 23 _ _ rfl (w.heap.size + 1) (cs xs) rfl rfl 23 _ (by exact heap_alloc2_new _ _ _) HX.out.2 (by rw [cs_size, hl]; rfl) (cs_one _) ?_)
    | (refine wpList_load_row rfl 23 _ rfl (w.heap.size + 1) rfl 23 (cs xs) (0, 0) (.array 20 5) (setRow_heap _ _ _ _ _ _ (by exact heap_alloc2_new _ _ _)) Try.underlying23 rfl HX.out.2 ?_))
  refine (zzflip_any xs hl hx i hi _).mono ?_
  rintro e w1 ⟨rfl, hk1⟩
  go_wp2_with (refine wpList_store_row rfl 23 _ _ rfl w1.heap.size (cs (flp xs i)) rfl rfl 23 _ (by exact heap_alloc_new _ _) HI.out.2 (by rw [cs_size, flp_length, hl]; rfl) (cs_one _) ?_)
  -- THE WORLD AT THE LOOP's HEAD, UNDER A NAME
  have hK : Kp w ((w1.alloc (.cells #[Value.int IntKind.u8 0, Value.int IntKind.u8 0, Value.int IntKind.u8 0, Value.int IntKind.u8 0, Value.int IntKind.u8 0, Value.int IntKind.u8 0, Value.int IntKind.u8 0, Value.int IntKind.u8 0, Value.int IntKind.u8 0, Value.int IntKind.u8 0, Value.int IntKind.u8 0, Value.int IntKind.u8 0, Value.int IntKind.u8 0, Value.int IntKind.u8 0, Value.int IntKind.u8 0, Value.int IntKind.u8 0, Value.int IntKind.u8 0, Value.int IntKind.u8 0, Value.int IntKind.u8 0, Value.int IntKind.u8 0] 23)).setRow w1.heap.size (cs (flp xs i))) := by
    have hz := hk1.below.size
    simp only [setRow_size] at hz
    have hz' : w.heap.size ≤ w1.heap.size := Nat.le_trans (by show w.heap.size ≤ ((w.heap.push _).push _).size; simp; omega) hz
    exact (((((Kp.refl w).alloc _ _).alloc _ _).setRow (by omega) _).trans hk1 |>.alloc _ _).setRow hz' _
  have h6 : ((w1.alloc (.cells #[Value.int IntKind.u8 0, Value.int IntKind.u8 0, Value.int IntKind.u8 0, Value.int IntKind.u8 0, Value.int IntKind.u8 0, Value.int IntKind.u8 0, Value.int IntKind.u8 0, Value.int IntKind.u8 0, Value.int IntKind.u8 0, Value.int IntKind.u8 0, Value.int IntKind.u8 0, Value.int IntKind.u8 0, Value.int IntKind.u8 0, Value.int IntKind.u8 0, Value.int IntKind.u8 0, Value.int IntKind.u8 0, Value.int IntKind.u8 0, Value.int IntKind.u8 0, Value.int IntKind.u8 0, Value.int IntKind.u8 0] 23)).setRow w1.heap.size (cs (flp xs i))).heap[w1.heap.size]? = some (.cells (cs (flp xs i)) 23 (0, 0)) := setRow_heap _ _ _ _ _ _ (heap_alloc_new _ _)
  have hlast : ∀ {b : Nat} {o : Obj}, w1.heap[b]? = some o → ((w1.alloc (.cells #[Value.int IntKind.u8 0, Value.int IntKind.u8 0, Value.int IntKind.u8 0, Value.int IntKind.u8 0, Value.int IntKind.u8 0, Value.int IntKind.u8 0, Value.int IntKind.u8 0, Value.int IntKind.u8 0, Value.int IntKind.u8 0, Value.int IntKind.u8 0, Value.int IntKind.u8 0, Value.int IntKind.u8 0, Value.int IntKind.u8 0, Value.int IntKind.u8 0, Value.int IntKind.u8 0, Value.int IntKind.u8 0, Value.int IntKind.u8 0, Value.int IntKind.u8 0, Value.int IntKind.u8 0, Value.int IntKind.u8 0] 23)).setRow w1.heap.size (cs (flp xs i))).heap[b]? = some o := fun h => by
    have hb := (Array.getElem?_eq_some_iff.1 h).1
    rw [setRow_other _ _ _ _ (by omega), Below.heap_alloc _ _ _ hb]; exact h
  have h5 := hlast (hk1.heap (setRow_heap _ _ _ _ _ _ (heap_alloc2_new _ _ _)))
  have h2 := hlast (hk1.heap (b := w.heap.size) (o := .cells (cs xs) 22 (0, 0)) (by rw [setRow_other _ _ _ _ (by omega)]; exact heap_alloc2_old _ _ _))
  clear hlast
  generalize ((w1.alloc (.cells #[Value.int IntKind.u8 0, Value.int IntKind.u8 0, Value.int IntKind.u8 0, Value.int IntKind.u8 0, Value.int IntKind.u8 0, Value.int IntKind.u8 0, Value.int IntKind.u8 0, Value.int IntKind.u8 0, Value.int IntKind.u8 0, Value.int IntKind.u8 0, Value.int IntKind.u8 0, Value.int IntKind.u8 0, Value.int IntKind.u8 0, Value.int IntKind.u8 0, Value.int IntKind.u8 0, Value.int IntKind.u8 0, Value.int IntKind.u8 0, Value.int IntKind.u8 0, Value.int IntKind.u8 0, Value.int IntKind.u8 0] 23)).setRow w1.heap.size (cs (flp xs i))) = W at hK h6 h5 h2 ⊢
  generalize w1.heap.size = b6 at h6 ⊢
  clear hk1 w1
  replace hK : Hid _ := hK
  replace h2 : Hid _ := h2
  replace h5 : Hid _ := h5
  replace h6 : Hid _ := h6
  go_loopw [7, 8] (fun s j wr => ∃ k : Nat, k ≤ 160 ∧ j = .int .i64 k ∧ s = .int .i64 (cnt xs k : Nat) ∧ Hid (Kp W wr)) (fun _ j _ => 160 - (intOf j).toNat)
  case atStart => exact ⟨0, Nat.zero_le _, rfl, rfl, Kp.refl _⟩
  case round =>
    obtain ⟨k, hk, rfl, rfl, hr⟩ := hrel
    have hcl := cnt_le xs k
    by_cases hlt : k < 160
    · have hT := flp_test xs hl i k hi
      have HC : Hid (cnt xs (k + 1) = cnt xs k + one (bitB xs k)) := rfl
      go_wp2_with (refine wpList_load_row rfl 23 _ rfl (w.heap.size + 1) rfl 23 (cs xs) (0, 0) (.array 20 5) (hr.out.heap h5.out) Try.underlying23 rfl HX.out.2 ?_)
      refine (zzbit_any xs hl hx k hlt _).mono ?_
      rintro e w2 ⟨rfl, hk2⟩
      replace hk2 : Hid _ := hk2
      go_wp2_with (refine wpList_load_row rfl 23 _ rfl b6 rfl 23 (cs (flp xs i)) (0, 0) (.array 20 5) ((hr.out.trans hk2.out).heap h6.out) Try.underlying23 rfl HI.out.2 ?_)
      refine (zzbit_any (flp xs i) (by rw [flp_length]; exact hl) (flp_lt xs i hx) k hlt _).mono ?_
      rintro e w3 ⟨rfl, hk3⟩
      replace hk3 : Hid _ := hk3
      go_wp2
      all_goals
        go_roundw
        case rel => exact ⟨k + 1, by omega, by go_num, by rw [HC.out]; simp [one, *], hr.out.trans (hk2.out.trans hk3.out)⟩
        case measure => simp [intOf]; omega
    · have : k = 160 := by omega
      subst this
      have HP := cnt_pops xs 20
      rw [show 8 * 20 = 160 from rfl] at HP
      go_wp2_with (refine wpList_load_row rfl 22 _ rfl w.heap.size rfl 22 (cs xs) (0, 0) (.array 20 5) (hr.out.heap h2.out) Try.underlying22 rfl HX.out.1 ?_)
      refine (pop_any xs hl hx _).mono ?_
      rintro e w2 ⟨rfl, hk2⟩
      go_wp2
      go_ret
      exact ⟨rfl, hK.out.trans (hr.out.trans hk2)⟩
end Go.Proofs.Qxb6618598a
