/-
  THE WALKS of the seat: flip, bit, the bytes' count, the common prefix; an array of twenty bytes as a list of numbers.
-/
import Derived.Test.Qxb6618598aRows
import Derived.Test.Qxb6618598aPlain
import Derived.WalkKit
import Derived.WalkSpells
import Derived.ProofKit
import Derived.OpenShut
import Derived.Deep.QuietTactic
import Derived.BigQuiet
namespace Go.Proofs.Qxb6618598a
open Go.RowKit Plain

/-! ### The world: old blocks stand, nothing is marked -/
structure Kp (w w' : World) : Prop where
  below : Below w.heap.size w w'
  fz : ∀ a, w'.frozen? a = w.frozen? a
theorem Kp.refl (w : World) : Kp w w := ⟨Below.refl _ _, fun _ => rfl⟩
theorem Kp.trans {a b c : World} (h : Kp a b) (k : Kp b c) : Kp a c := ⟨h.below.trans (k.below.mono h.below.size), fun x => (k.fz x).trans (h.fz x)⟩
theorem Kp.alloc {a w : World} (h : Kp a w) (c : Array Value) (t : TypeId) : Kp a (w.alloc (.cells c t)) :=
  ⟨h.below.alloc h.below.size _, fun x => (frozen?_alloc_cells _ _ _ x).trans (h.fz x)⟩
theorem Kp.setCell {a w : World} (h : Kp a w) {p : Addr} (hp : a.heap.size ≤ p.block) (u : Value) : Kp a (w.setCell p u) :=
  ⟨h.below.setCell hp u, fun x => (World.frozen?_setCell _ _ _ _).trans (h.fz x)⟩
theorem Kp.drewN {a w : World} (h : Kp a w) (n : Nat) : Kp a (w.drewN n) := ⟨⟨h.below.os, h.below.tape, h.below.output, h.below.size, h.below.block⟩, h.fz⟩
theorem Kp.drew {a w : World} (h : Kp a w) : Kp a w.drew := h.drewN 1
theorem Kp.heap {a w : World} (h : Kp a w) {b : Nat} {o : Obj} (hb : a.heap[b]? = some o) : w.heap[b]? = some o := by
  rw [h.below.block b (Array.getElem?_eq_some_iff.1 hb).1]; exact hb

theorem frozen_setRow (w : World) (g : Nat) (c : Array Value) (a : Addr) : (w.setRow g c).frozen? a = w.frozen? a := by
  by_cases hg : g = a.block
  · have e : (w.setRow g c).heap[a.block]? = (w.heap[a.block]?).map (fun | .cells _ elem frozen => .cells c elem frozen | o => o) := by
      simp only [World.setRow, Array.getElem?_modify]
      rw [if_pos hg]
      rfl
    unfold World.frozen?
    rw [e]
    cases h : w.heap[a.block]? with
    | none => rfl
    | some o => cases o <;> rfl
  · unfold World.frozen?
    rw [setRow_other w g a.block c (Ne.symm hg)]
theorem Kp.setRow {a w : World} (h : Kp a w) {g : Nat} (hg : a.heap.size ≤ g) (c : Array Value) : Kp a (w.setRow g c) :=
  ⟨h.below.trans ⟨rfl, rfl, rfl, by simp, fun k hk => setRow_other _ _ _ _ (by omega)⟩, fun x => (frozen_setRow _ _ _ x).trans (h.fz x)⟩

/-! ### An array of bytes, as cells -/
def cs (xs : List Nat) : Array Value := (xs.map (fun x : Nat => Value.int .u8 (x : Int))).toArray
theorem cs_size (xs : List Nat) : (cs xs).size = xs.length := by simp [cs]
theorem cs_get (xs : List Nat) (k : Nat) (hk : k < xs.length) : (cs xs)[k]? = some (.int .u8 (byt xs k : Int)) := by
  simp [cs, byt, List.getD, hk]
theorem cs_one (xs : List Nat) : (cs xs).all (·.oneCell') = true := by
  simp [cs, Value.oneCell']
theorem cs_set (xs : List Nat) (k v : Nat) : (cs xs).setIfInBounds k (.int .u8 (v : Int)) = cs (xs.set k v) := by
  simp [cs, List.map_set]
theorem Try.info22 : (Try.prog.info? 22).map (·.size) = some 20 := by kernel_rfl
theorem Try.info23 : (Try.prog.info? 23).map (·.size) = some 20 := by kernel_rfl
/-- The sizes, kept from the walk. -/
theorem info_cs (xs : List Nat) (hl : xs.length = 20) : Hid ((Try.prog.info? 22).map (·.size) = some (cs xs).size ∧ (Try.prog.info? 23).map (·.size) = some (cs xs).size) := by
  refine ⟨?_, ?_⟩ <;> rw [cs_size, hl]
  · exact Try.info22
  · exact Try.info23

/-! ### bit -/
theorem and_mask (xs : List Nat) (hx : ∀ x ∈ xs, x < 256) (i : Nat) : (bits BinOp.and IntKind.u8 (byt xs (i / 8) : Int) (128 / 2 ^ (i % 8)) != 0) = bitB xs i := by
  have h := byt_lt xs hx (i / 8)
  have hm : (128 / 2 ^ (i % 8) : Int) = ((2 ^ (7 - i % 8) : Nat) : Int) := by
    rw [← mask (i % 8) (by omega)]; simp
  rw [hm, u8_and_nat _ _ h (show 2 ^ (7 - i % 8) < 2 ^ 8 from Nat.pow_lt_pow_right (by decide) (by omega))]
  unfold bitB
  rw [← and_bit, Bool.eq_iff_iff]
  simp

set_option maxHeartbeats 400000 in
theorem bit_any (xs : List Nat) (hl : xs.length = 20) (hx : ∀ x ∈ xs, x < 256) (i : Nat) (hi : i < 160) (w : World) :
    Calls Try.prog 10 #[.agg (cs xs), .int .i64 i] w fun e w' => e = .returned (.bool (bitB xs i)) ∧ Kp w w' := by
  have hc := cs_get xs (i / 8) (by omega)
  have h0 : (i : Int) / 8 < 20 := by omega
  have HM := and_mask xs hx i
  replace HM : Hid _ := HM
  clear hx
  go_enter Try.func10, Try.ntmps10
  go_wp2
  go_quiet (fail)
  go_wp2
  go_ret
  exact ⟨by rw [HM.out]; rfl, ((Kp.refl _).alloc _ _).drewN _⟩

set_option maxHeartbeats 400000 in
theorem zzbit_any (xs : List Nat) (hl : xs.length = 20) (hx : ∀ x ∈ xs, x < 256) (i : Nat) (hi : i < 160) (w : World) :
    Calls Try.prog 6 #[.agg (cs xs), .int .i64 i] w fun e w' => e = .returned (.bool (bitB xs i)) ∧ Kp w w' := by
  have HI := info_cs xs hl
  go_enter Try.func6, Try.ntmps6
  go_wp2_with (first
    | (refine wpList_load_row rfl 23 _ rfl w.heap.size rfl 23 (cs xs) (0, 0) (.array 20 5) (heap_alloc_new _ _) Try.underlying23 rfl HI.out.2 ?_)
    | (go_at_call 10; refine (bit_any xs hl hx i hi _).mono ?_; rintro e w' ⟨rfl, hk⟩))
  go_ret
  exact ⟨rfl, ((Kp.refl _).alloc _ _).trans hk⟩
/-! ### flip -/
theorem xor_mask (xs : List Nat) (hx : ∀ x ∈ xs, x < 256) (i : Nat) : bits BinOp.xor IntKind.u8 (byt xs (i / 8) : Int) (128 / 2 ^ (i % 8)) = ((byt xs (i / 8) ^^^ 2 ^ (7 - i % 8) : Nat) : Int) := by
  have h := byt_lt xs hx (i / 8)
  have hm : (128 / 2 ^ (i % 8) : Int) = ((2 ^ (7 - i % 8) : Nat) : Int) := by
    rw [← mask (i % 8) (by omega)]; simp
  rw [hm, u8_xor_nat _ _ h (show 2 ^ (7 - i % 8) < 2 ^ 8 from Nat.pow_lt_pow_right (by decide) (by omega))]

set_option maxHeartbeats 400000 in
theorem flip_any (xs : List Nat) (hl : xs.length = 20) (hx : ∀ x ∈ xs, x < 256) (i : Nat) (hi : i < 160) (w : World) :
    Calls Try.prog 9 #[.agg (cs xs), .int .i64 i] w fun e w' => e = .returned (.agg (cs (flp xs i))) ∧ Kp w w' := by
  have HI := info_cs (flp xs i) (by rw [flp_length]; exact hl)
  have hc := cs_get xs (i / 8) (by omega)
  have h0 : (i : Int) / 8 < 20 := by omega
  have HM := xor_mask xs hx i
  replace HM : Hid _ := HM
  clear hx
  go_enter Try.func9, Try.ntmps9
  go_wp2
  go_region
  rw [HM.out, cs_set]
  rw [show xs.set (i / 8) (byt xs (i / 8) ^^^ 2 ^ (7 - i % 8)) = flp xs i from rfl]
  clear HM hc
  go_wp2_with (first
    | (refine wpList_load_row rfl 23 _ rfl w.heap.size rfl 23 (cs (flp xs i)) (0, 0) (.array 20 5) (by exact heap_alloc2_old _ _ _) Try.underlying23 rfl HI.out.2 ?_)
    | (refine wpList_store_row rfl 23 _ _ rfl (w.heap.size + 1) (cs (flp xs i)) rfl rfl 23 _ (by exact heap_alloc2_new _ _ _) HI.out.2 (by rw [cs_size, flp_length, hl]; rfl) (cs_one _) ?_))
  refine bodyPost_ret (v := .agg (cs (flp xs i))) (results_cell_row Try.results9 _ _ (w.heap.size + 1) 23 (cs (flp xs i)) (0, 0) (.array 20 5) rfl (setRow_heap _ _ _ _ _ _ (by exact heap_alloc2_new _ _ _)) Try.underlying23 rfl HI.out.2) rfl ⟨rfl, ?_⟩
  exact ((((Kp.refl _).alloc _ _).alloc _ _).drew).setRow (by omega) _
end Go.Proofs.Qxb6618598a
