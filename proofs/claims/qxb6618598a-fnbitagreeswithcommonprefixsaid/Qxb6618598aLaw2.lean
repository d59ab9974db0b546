/-
  THE LAW's WALK: FnBitAgreesWithCommonPrefix.
-/
import Derived.Test.Qxb6618598aWalks3
import Derived.Test.Qxb6618598aEql
import Derived.Deep.RegionHeld3
set_option linter.unusedSimpArgs false
namespace Go.Proofs.Qxb6618598a
open Go.RowKit Plain

/-- The cells of an array of bytes, as a list. -/
def lst (xs : List Nat) : List Value := xs.map (fun x : Nat => Value.int .u8 (x : Int))
theorem lst_range {w : World} {b : Nat} {xs : List Nat} {t : TypeId} {fr : Nat × Nat} (h : w.heap[b]? = some (.cells (cs xs) t fr)) : w.rangeAt b 0 (lst xs) := fun j v hv => by
  rw [cell_of_row w b (0 + j) (cs xs) t fr h, Nat.zero_add]
  simpa [cs, lst] using hv
theorem keepR {w w' : World} {b b' : Nat} {l l' : List Value} (k : Kp w w') (h : w.rangeAt b 0 l ∧ w.rangeAt b' 0 l') : w'.rangeAt b 0 l ∧ w'.rangeAt b' 0 l' :=
  ⟨fun j v hv => by have := h.1 j v hv; rw [k.below.cell (World.block_lt_of_cell? _ _ this)]; exact this,
   fun j v hv => by have := h.2 j v hv; rw [k.below.cell (World.block_lt_of_cell? _ _ this)]; exact this⟩
theorem zzbit_l (xs : List Nat) (hl : xs.length = 20) (hx : ∀ x ∈ xs, x < 256) (i : Nat) (hi : i < 160) (w : World) :
    Calls Try.prog 6 #[.agg (lst xs).toArray, .int .i64 i] w fun e w' => e = .returned (.bool (bitB xs i)) ∧ Kp w w' := zzbit_any xs hl hx i hi w
theorem info_lst (xs : List Nat) (hl : xs.length = 20) : (Try.prog.info? 23).map (·.size) = some (lst xs).length := by
  rw [show (lst xs).length = 20 by simp [lst, hl]]; exact Try.info23

/-! ### the heap, block by block -/
abbrev zs : Array Value := #[Value.int IntKind.u8 0, Value.int IntKind.u8 0, Value.int IntKind.u8 0, Value.int IntKind.u8 0, Value.int IntKind.u8 0, Value.int IntKind.u8 0, Value.int IntKind.u8 0, Value.int IntKind.u8 0, Value.int IntKind.u8 0, Value.int IntKind.u8 0, Value.int IntKind.u8 0, Value.int IntKind.u8 0, Value.int IntKind.u8 0, Value.int IntKind.u8 0, Value.int IntKind.u8 0, Value.int IntKind.u8 0, Value.int IntKind.u8 0, Value.int IntKind.u8 0, Value.int IntKind.u8 0, Value.int IntKind.u8 0]
theorem ha_at {w : World} {o : Obj} {n : Nat} (h : n = w.heap.size) : (w.alloc o).heap[n]? = some o := by subst h; exact heap_alloc_new _ _
theorem ha_past {w : World} {o x : Obj} {n : Nat} (h : w.heap[n]? = some x) : (w.alloc o).heap[n]? = some x := by
  rw [Below.heap_alloc _ _ _ (Array.getElem?_eq_some_iff.1 h).1]; exact h
theorem hr_past {w : World} {x : Obj} {n g : Nat} {c : Array Value} (hn : n ≠ g) (h : w.heap[n]? = some x) : (w.setRow g c).heap[n]? = some x := by
  rw [setRow_other _ _ _ _ hn]; exact h

set_option maxHeartbeats 1000000 in
set_option maxRecDepth 20000 in
theorem law2_any (xs ys : List Nat) (hl : xs.length = 20) (hm : ys.length = 20) (hx : ∀ x ∈ xs, x < 256) (hy : ∀ y ∈ ys, y < 256) (w : World) :
    Calls Try.prog 4 #[.agg (cs xs), .agg (cs ys)] w fun e w' => e = .returned (.bool true) ∧ Kp w w' := by
  have HX := info_cs xs hl
  have HY := info_cs ys hm
  go_enter Try.func4, Try.ntmps4
  go_wp2_with (first
    | ((with_reducible refine wpList_load_row ?_ 22 (.tmp 2) ?_ w.heap.size ?_ 22 (cs xs) (0, 0) (.array 20 5) ?_ Try.underlying22 ?_ HX.out.1 ?_); exact rfl; exact rfl; exact rfl; exact heap_alloc2_old _ _ _; exact rfl)
    | ((with_reducible refine wpList_store_row ?_ 23 (.tmp 5) (.tmp 9) ?_ (w.heap.size + 1 + 1) (cs xs) ?_ ?_ 23 zs ?_ HX.out.2 ?_ (cs_one _) ?_); exact rfl; exact rfl; exact rfl; exact rfl; exact ha_at (by simp); rw [cs_size, hl]; exact rfl)
    | ((with_reducible refine wpList_load_row ?_ 22 (.tmp 3) ?_ (w.heap.size + 1) ?_ 22 (cs ys) (0, 0) (.array 20 5) ?_ Try.underlying22 ?_ HY.out.1 ?_); exact rfl; exact rfl; exact rfl; exact hr_past (by omega) (ha_past (heap_alloc2_new _ _ _)); exact rfl)
    | ((with_reducible refine wpList_store_row ?_ 23 (.tmp 6) (.tmp 10) ?_ (w.heap.size + 1 + 1 + 1) (cs ys) ?_ ?_ 23 zs ?_ HY.out.2 ?_ (cs_one _) ?_); exact rfl; exact rfl; exact rfl; exact rfl; exact ha_at (by simp); rw [cs_size, hm]; exact rfl)
    | ((with_reducible refine wpList_load_row ?_ 23 (.tmp 5) ?_ (w.heap.size + 1 + 1) ?_ 23 (cs xs) (0, 0) (.array 20 5) ?_ Try.underlying23 ?_ HX.out.2 ?_); exact rfl; exact rfl; exact rfl; exact hr_past (by omega) (ha_past (setRow_heap _ _ _ _ _ _ (ha_at (by simp)))); exact rfl)
    | ((with_reducible refine wpList_load_row ?_ 23 (.tmp 6) ?_ (w.heap.size + 1 + 1 + 1) ?_ 23 (cs ys) (0, 0) (.array 20 5) ?_ Try.underlying23 ?_ HY.out.2 ?_); exact rfl; exact rfl; exact rfl; exact setRow_heap _ _ _ _ _ _ (ha_at (by simp)); exact rfl))
  -- THE WORLD AT THE CALL, UNDER A NAME
  obtain ⟨W, hWe⟩ : ∃ W, W = (((((w.alloc (.cells (cs xs) 22)).alloc (.cells (cs ys) 22)).alloc (.cells zs 23)).setRow (w.heap.size + 1 + 1) (cs xs)).alloc (.cells zs 23)).setRow (w.heap.size + 1 + 1 + 1) (cs ys) := ⟨_, rfl⟩
  have hK : Kp w W := by rw [hWe]; exact ((((((Kp.refl w).alloc _ _).alloc _ _).alloc _ _).setRow (by omega) _).alloc _ _).setRow (by omega) _
  have h2 : W.heap[w.heap.size]? = some (.cells (cs xs) 22 (0, 0)) := by rw [hWe]; exact hr_past (by omega) (ha_past (hr_past (by omega) (ha_past (heap_alloc2_old _ _ _))))
  have h3 : W.heap[w.heap.size + 1]? = some (.cells (cs ys) 22 (0, 0)) := by rw [hWe]; exact hr_past (by omega) (ha_past (hr_past (by omega) (ha_past (heap_alloc2_new _ _ _))))
  have h5 : W.heap[w.heap.size + 1 + 1]? = some (.cells (cs xs) 23 (0, 0)) := by rw [hWe]; exact hr_past (by omega) (ha_past (setRow_heap _ _ _ _ _ _ (ha_at (by simp))))
  have h6 : W.heap[w.heap.size + 1 + 1 + 1]? = some (.cells (cs ys) 23 (0, 0)) := by rw [hWe]; exact setRow_heap _ _ _ _ _ _ (ha_at (by simp))
  rw [← hWe]
  clear hWe
  replace hK : Hid _ := hK
  replace h2 : Hid _ := h2
  replace h3 : Hid _ := h3
  have hS := lst_range h5
  have hS' := lst_range h6
  clear h5 h6
  refine (zzcommon_any xs ys hl hm hx hy _).mono ?_
  rintro e w1 ⟨p, rfl, hp, hk1⟩
  have hE := first_eq xs ys hl hm hx hy p hp
  obtain ⟨hp1, hp2, hp3⟩ := hp
  replace hp2 : Hid _ := hp2
  replace hp3 : Hid _ := hp3
  replace hE : Hid _ := hE
  replace hk1 : Hid _ := hk1
  replace hS : Hid (w1.rangeAt (w.heap.size + 1 + 1) 0 (lst xs) ∧ w1.rangeAt (w.heap.size + 1 + 1 + 1) 0 (lst ys)) := keepR hk1.out ⟨hS, hS'⟩
  clear hS'
  go_wp2
  go_loopw [8] (fun j wr => ∃ k : Nat, k ≤ p ∧ j = .int .i64 k ∧ Hid (Kp w1 wr)) (fun j _ => p - (intOf j).toNat)
  case atStart => exact ⟨0, Nat.zero_le _, rfl, Kp.refl _⟩
  case round =>
    obtain ⟨k, hk, rfl, hr⟩ := hrel
    by_cases hlt : k < p
    · have he : bitB ys k = bitB xs k := (hp2.out k hlt).symm
      have hu := Try.underlying23
      have hi1 := info_lst xs hl
      have hi2 := info_lst ys hm
      have hS1 := keepR (hr.out.drew) hS.out
      replace hS1 : Hid _ := hS1
      go_wp2
      refine wp_region_held_drew (S := fun w' => w'.rangeAt (w.heap.size + 1 + 1) 0 (lst xs) ∧ w'.rangeAt (w.heap.size + 1 + 1 + 1) 0 (lst ys)) (by kernel_rfl) hS1.out (fun hh => ?_)
      refine wpAnyH_take (i := 0) rfl (by kernel_rfl) (by kernel_rfl) (by kernel_rfl) (fun _ _ _ h => h) (yieldsIf_load_mid (by rfl) _ _ rfl _ _ rfl (lst xs) _ (fun _ h => h.1) hu rfl hi1) hh ?_
      try simp only [Act.put, List.setIfInBounds_toArray, List.set_cons_zero, List.set_cons_succ]
      refine wpAnyH_take (i := 1) rfl (by kernel_rfl) (by kernel_rfl) (by kernel_rfl) (fun _ _ _ h => h) (Or.inl ⟨by rfl, fun _ _ => rfl⟩) hh ?_
      try simp only [Act.put, List.setIfInBounds_toArray, List.set_cons_zero, List.set_cons_succ]
      refine wpAnyH_take (i := 3) rfl (by kernel_rfl) (by kernel_rfl) (by kernel_rfl) (fun _ _ _ h => h) (yieldsIf_load_mid (by rfl) _ _ rfl _ _ rfl (lst ys) _ (fun _ h => h.2) hu rfl hi2) hh ?_
      try simp only [Act.put, List.setIfInBounds_toArray, List.set_cons_zero, List.set_cons_succ]
      refine wpAnyH_take (i := 4) rfl (by kernel_rfl) (by kernel_rfl) (by kernel_rfl) (fun _ _ _ h => h) (Or.inl ⟨by rfl, fun _ _ => rfl⟩) hh ?_
      try simp only [Act.put, List.setIfInBounds_toArray, List.set_cons_zero, List.set_cons_succ]
      refine wpAnyH_ready (rs := [2]) (by kernel_rfl) (by simp) ?_
      refine AllReadyH.cons rfl (fun K hK => ?_) AllReadyH.nil
      go_simp
      refine (zzbit_l xs hl hx k (by omega) _).mono ?_
      rintro e w2 ⟨rfl, hk2⟩
      refine hK.out _ _ (keepR hk2 hh) (fun hh2 => ?_)
      clear hK K
      replace hk2 : Hid _ := hk2
      try simp only [Act.put, List.setIfInBounds_toArray, List.set_cons_zero, List.set_cons_succ]
      refine wpAnyH_ready (rs := [5]) (by kernel_rfl) (by simp) ?_
      refine AllReadyH.cons rfl (fun K hK => ?_) AllReadyH.nil
      go_simp
      refine (zzbit_l ys hm hy k (by omega) _).mono ?_
      rintro e w3 ⟨rfl, hk3⟩
      refine hK.out _ _ (keepR hk3 hh2) (fun hh3 => ?_)
      clear hK K
      replace hk3 : Hid _ := hk3
      try simp only [Act.put, List.setIfInBounds_toArray, List.set_cons_zero, List.set_cons_succ]
      refine wpAnyH_take (i := 6) (v := .bool false) rfl (by kernel_rfl) (by kernel_rfl) (by kernel_rfl) (fun _ _ _ h => h) (Or.inl ⟨by rfl, fun _ _ => by go_simp⟩) hh3 ?_
      try simp only [Act.put, List.setIfInBounds_toArray, List.set_cons_zero, List.set_cons_succ]
      refine wpAnyH_done (by kernel_rfl) ?_ _
      clear hh hh2 hh3 hS1 hi1 hi2 hu
      go_wp2
      go_roundw
      case rel => exact ⟨k + 1, by omega, by go_num, (hr.out.drew.trans hk2.out).trans hk3.out⟩
      case measure => simp [intOf]; omega
    · have hkp : k = p := by omega
      subst hkp
      clear hlt
      by_cases h160 : k < 160
      · have hne := hp3.out h160
        have hfalse : Hid ((k = 160) ↔ xs = ys) := hE
        have hxy : xs ≠ ys := fun e => by have := hE.out.2 e; omega
        have he : bitB ys k = !bitB xs k := by cases h1 : bitB xs k <;> cases h2 : bitB ys k <;> simp_all
        have hu := Try.underlying23
        have hi1 := info_lst xs hl
        have hi2 := info_lst ys hm
        have hS1 := keepR (hr.out.drew) hS.out
        replace hS1 : Hid _ := hS1
        clear hne hfalse
        go_wp2
        have h160' : (k : Int) < 160 := by omega
        refine wp_region_held_drew (S := fun w' => w'.rangeAt (w.heap.size + 1 + 1) 0 (lst xs) ∧ w'.rangeAt (w.heap.size + 1 + 1 + 1) 0 (lst ys)) (by kernel_rfl) hS1.out (fun hh => ?_)
        refine wpAnyH_take (i := 0) rfl (by kernel_rfl) (by kernel_rfl) (by kernel_rfl) (fun _ _ _ h => h) (Or.inl ⟨by rfl, fun _ _ => rfl⟩) hh ?_
        try simp only [Act.put, List.setIfInBounds_toArray, List.set_cons_zero, List.set_cons_succ]
        refine wpAnyH_take (i := 1) (v := .bool true) rfl (by kernel_rfl) (by kernel_rfl) (by kernel_rfl) (fun _ _ _ h => h) (Or.inl ⟨by rfl, fun _ _ => by go_simp⟩) hh ?_
        try simp only [Act.put, List.setIfInBounds_toArray, List.set_cons_zero, List.set_cons_succ]
        refine wpAnyH_take (i := 2) rfl (by kernel_rfl) (by kernel_rfl) (by kernel_rfl) (fun _ _ _ h => h) (Or.inl ⟨by rfl, fun _ _ => rfl⟩) hh ?_
        try simp only [Act.put, List.setIfInBounds_toArray, List.set_cons_zero, List.set_cons_succ]
        refine wpAnyH_take (i := 3) rfl (by kernel_rfl) (by kernel_rfl) (by kernel_rfl) (fun _ _ _ h => h) (yieldsIf_load_mid (by rfl) _ _ rfl _ _ rfl (lst xs) _ (fun _ h => h.1) hu rfl hi1) hh ?_
        try simp only [Act.put, List.setIfInBounds_toArray, List.set_cons_zero, List.set_cons_succ]
        refine wpAnyH_take (i := 4) rfl (by kernel_rfl) (by kernel_rfl) (by kernel_rfl) (fun _ _ _ h => h) (Or.inl ⟨by rfl, fun _ _ => rfl⟩) hh ?_
        try simp only [Act.put, List.setIfInBounds_toArray, List.set_cons_zero, List.set_cons_succ]
        refine wpAnyH_take (i := 6) rfl (by kernel_rfl) (by kernel_rfl) (by kernel_rfl) (fun _ _ _ h => h) (yieldsIf_load_mid (by rfl) _ _ rfl _ _ rfl (lst ys) _ (fun _ h => h.2) hu rfl hi2) hh ?_
        try simp only [Act.put, List.setIfInBounds_toArray, List.set_cons_zero, List.set_cons_succ]
        refine wpAnyH_take (i := 7) rfl (by kernel_rfl) (by kernel_rfl) (by kernel_rfl) (fun _ _ _ h => h) (Or.inl ⟨by rfl, fun _ _ => rfl⟩) hh ?_
        try simp only [Act.put, List.setIfInBounds_toArray, List.set_cons_zero, List.set_cons_succ]
        refine wpAnyH_ready (rs := [5]) (by kernel_rfl) (by simp) ?_
        refine AllReadyH.cons rfl (fun K hK => ?_) AllReadyH.nil
        go_simp
        refine (zzbit_l xs hl hx k h160 _).mono ?_
        rintro e w2 ⟨rfl, hk2⟩
        refine hK.out _ _ (keepR hk2 hh) (fun hh2 => ?_)
        clear hK K
        replace hk2 : Hid _ := hk2
        try simp only [Act.put, List.setIfInBounds_toArray, List.set_cons_zero, List.set_cons_succ]
        refine wpAnyH_ready (rs := [8]) (by kernel_rfl) (by simp) ?_
        refine AllReadyH.cons rfl (fun K hK => ?_) AllReadyH.nil
        go_simp
        refine (zzbit_l ys hm hy k h160 _).mono ?_
        rintro e w3 ⟨rfl, hk3⟩
        refine hK.out _ _ (keepR hk3 hh2) (fun hh3 => ?_)
        clear hK K
        replace hk3 : Hid _ := hk3
        try simp only [Act.put, List.setIfInBounds_toArray, List.set_cons_zero, List.set_cons_succ]
        refine wpAnyH_take (i := 9) (v := .bool false) rfl (by kernel_rfl) (by kernel_rfl) (by kernel_rfl) (fun _ _ _ h => h) (Or.inl ⟨by rfl, fun _ _ => by go_simp⟩) hh3 ?_
        try simp only [Act.put, List.setIfInBounds_toArray, List.set_cons_zero, List.set_cons_succ]
        refine wpAnyH_take (i := 10) (v := .bool false) rfl (by kernel_rfl) (by kernel_rfl) (by kernel_rfl) (fun _ _ _ h => h) (Or.inl ⟨by rfl, fun _ _ => by go_simp⟩) hh3 ?_
        try simp only [Act.put, List.setIfInBounds_toArray, List.set_cons_zero, List.set_cons_succ]
        refine wpAnyH_done (by kernel_rfl) ?_ _
        clear hh hh2 hh3 hS1 hi1 hi2 hu
        have hkk : Hid (Kp w1 w3) := (hr.out.drew.trans hk2.out).trans hk3.out
        have heq := fun W : World => eql_arr xs ys hl hm W
        have hk16 : ((k : Int) == 160) = false := by simp; omega
        go_wp2_with (first
          | ((with_reducible refine wpList_load_row ?_ 22 (.tmp 2) ?_ w.heap.size ?_ 22 (cs xs) (0, 0) (.array 20 5) ?_ Try.underlying22 ?_ HX.out.1 ?_); exact rfl; exact rfl; exact rfl; exact (hkk.out.heap (hk1.out.heap h2.out)); exact rfl)
          | ((with_reducible refine wpList_load_row ?_ 22 (.tmp 3) ?_ (w.heap.size + 1) ?_ 22 (cs ys) (0, 0) (.array 20 5) ?_ Try.underlying22 ?_ HY.out.1 ?_); exact rfl; exact rfl; exact rfl; exact (hkk.out.heap (hk1.out.heap h3.out)); exact rfl))
        go_ret
        exact ⟨by simp [hxy, hk16], (hK.out.trans hk1.out).trans hkk.out⟩
      · have hk160 : k = 160 := by omega
        subst hk160
        obtain rfl : xs = ys := hE.out.1 rfl
        have heq := fun W : World => eql_arr xs xs hl hm W
        clear hE hp2 hp3
        go_wp2
        go_quiet (fail)
        have hkk : Hid (Kp w1 _) := hr.out.drewN nq
        go_wp2_with (first
          | ((with_reducible refine wpList_load_row ?_ 22 (.tmp 2) ?_ w.heap.size ?_ 22 (cs xs) (0, 0) (.array 20 5) ?_ Try.underlying22 ?_ HX.out.1 ?_); exact rfl; exact rfl; exact rfl; exact (hkk.out.heap (hk1.out.heap h2.out)); exact rfl)
          | ((with_reducible refine wpList_load_row ?_ 22 (.tmp 3) ?_ (w.heap.size + 1) ?_ 22 (cs xs) (0, 0) (.array 20 5) ?_ Try.underlying22 ?_ HX.out.1 ?_); exact rfl; exact rfl; exact rfl; exact (hkk.out.heap (hk1.out.heap h3.out)); exact rfl))
        go_ret
        exact ⟨by simp, (hK.out.trans hk1.out).trans hkk.out⟩
end Go.Proofs.Qxb6618598a
