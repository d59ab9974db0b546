/-
  SetLink walked.
-/
import Derived.Test.Qxb6618934aFmtNet
set_option linter.unusedSimpArgs false
set_option linter.unusedVariables false
namespace Go.Proofs.Qxb6618934aFmt
open Go.RowKit Go.Maps
open Go.MuLone

theorem cell_row {w : World} {g : Nat} {a : Array Value} {t : TypeId} {f : Nat × Nat} (h : w.heap[g]? = some (.cells a t f)) (i : Nat) : w.cell? ⟨g, i, none⟩ = a[i]? := by simp [World.cell?, h]
theorem frozen_row {w : World} {g : Nat} {a : Array Value} {t : TypeId} (h : w.heap[g]? = some (.cells a t (0, 0))) (i : Nat) : w.frozen? ⟨g, i, none⟩ = false := by simp [World.frozen?, h]

theorem heap_set_same {w : World} {g i : Nat} {a : Array Value} {t : TypeId} {f : Nat × Nat} (v : Value) (h : w.heap[g]? = some (.cells a t f)) : (w.setCell ⟨g, i, none⟩ v).heap[g]? = some (.cells (a.setIfInBounds i v) t f) := by
  simp [World.setCell, Array.getElem?_modify, h]
theorem heap_turned_other (w : World) (b k : Nat) (o : Obj) (h : k ≠ b) : (turned w b o).heap[k]? = w.heap[k]? := by
  simp only [turned]
  rw [Array.getElem?_setIfInBounds, if_neg (Ne.symm h)]
theorem heap_turned_same (w : World) (b : Nat) (o : Obj) (h : b < w.heap.size) : (turned w b o).heap[b]? = some o := by
  simp [turned, Array.getElem?_setIfInBounds, h]
theorem Below.turned {B : Nat} {a w : World} (h : Below B a w) {b : Nat} (hb : B ≤ b) (o : Obj) : Below B a (turned w b o) :=
  h.trans ⟨rfl, rfl, rfl, by simp [Qxb6618934aFmt.turned], fun k hk => heap_turned_other _ _ _ _ (by omega)⟩

set_option maxHeartbeats 4000000 in
set_option maxRecDepth 20000 in
theorem setLink_any {w W : World} {hi lo : Int} (hN : Net w W #[] 0 hi lo) (x y : ByteArray) (d j : Int) (hd : 0 ≤ d) (hj : 0 ≤ j) :
    Calls Tryf.prog 7 #[.pointer (some ⟨w.heap.size + 6, 0, none⟩), .string x, .string y, link d j] W fun e w' => e = .returned (.tuple #[]) ∧ Net w w' #[{ key := pair x y, val := link d j, born := 0 }] 1 hi lo := by
  have hst := store_f
  have hge := geq_f
  have hle := leq_f
  have hlt := hN.lt
  have c0 : W.cell? ⟨w.heap.size + 6, 0, none⟩ = some (.int .i32 0) := cell_row hN.net 0
  have c4 : W.cell? ⟨w.heap.size + 6, 4, none⟩ = some (.map (some (w.heap.size + 2))) := cell_row hN.net 4
  have f0 := frozen_row hN.net 0
  replace hN := hid hN
  generalize hR : w.heap.size + 6 = R at hlt c0 c4 f0
  unfold link
  go_enter_defers Tryf.func7, Tryf.ntmps7
  go_wp2_with fail
  have hN0 := hN.out.kept ((Below.refl _ _).alloc (Nat.le_refl _) (.cells #[.int .i64 d, .int .i64 j, .float .f64 0] 29 (0, 0)))
  have hbox := heap_push W (.cells #[.int .i64 d, .int .i64 j, .float .f64 0] 29 (0, 0))
  have hB0 : W.heap.size < (W.alloc (.cells #[.int .i64 d, .int .i64 j, .float .f64 0] 29 (0, 0))).heap.size := by simp
  clear c0 c4 f0
  generalize W.alloc (.cells #[.int .i64 d, .int .i64 j, .float .f64 0] 29 (0, 0)) = W0 at *
  have c0 : W0.cell? ⟨R, 0, none⟩ = some (.int .i32 0) := by rw [← hR]; exact cell_row hN0.net 0
  have f0 : W0.frozen? ⟨R, 0, none⟩ = false := by rw [← hR]; exact frozen_row hN0.net 0
  refine (lock_free Tryf.muLib ⟨R, 0, none⟩ _ c0 f0).mono ?_
  rintro e w' ⟨rfl, rfl⟩
  have k1 := heap_set_same (i := 0) (.int .i32 1) hN0.net
  have k2 := (Below.heap_setCell W0 ⟨R, 0, none⟩ (.int .i32 1) (w.heap.size + 2) (by simp; omega)).trans hN0.links
  have k3 := (Below.heap_setCell W0 ⟨R, 0, none⟩ (.int .i32 1) W.heap.size (by simp; omega)).trans hbox
  have k4 := (Below.heap_setCell W0 ⟨R, 0, none⟩ (.int .i32 1) (w.heap.size + 3) (by simp; omega)).trans hN0.pcg
  have k5 := (Below.heap_setCell W0 ⟨R, 0, none⟩ (.int .i32 1) (w.heap.size + 4) (by simp; omega)).trans hN0.rand
  have kB : Below w.heap.size w (W0.setCell ⟨R, 0, none⟩ (.int .i32 1)) := hN0.below.setCell (by simp; omega) _
  rw [hR] at k1
  clear hN0 hbox c0 f0 hN
  generalize W0.setCell ⟨R, 0, none⟩ (.int .i32 1) = W1 at *
  have c4 : W1.cell? ⟨R, 4, none⟩ = some (.map (some (w.heap.size + 2))) := cell_row k1 4
  have b0 : W1.cell? ⟨W.heap.size, 0, none⟩ = some (.int .i64 d) := cell_row k3 0
  have b1 : W1.cell? ⟨W.heap.size, 1, none⟩ = some (.int .i64 j) := cell_row k3 1
  have b2 : W1.cell? ⟨W.heap.size, 2, none⟩ = some (.float .f64 0) := cell_row k3 2
  have hput := fun x y v => put_pair (W := W1.drew) k2 x y v
  replace k1 := hid k1
  replace k2 := hid k2
  replace k3 := hid k3
  replace k4 := hid k4
  replace k5 := hid k5
  replace kB := hid kB
  go_wp2_with fail
  go_region
  all_goals try go_wp2_with fail
  refine leaves_cons (f := 15) (args := #[.pointer (some ⟨R, 0, none⟩)]) (by simp) (by simp [go_sem]) ?_
  have m1 := (heap_turned_other W1.drew (w.heap.size + 2) R (.map #[{ key := pair x y, val := link d j, born := 0 }] 1) (by omega)).trans k1.out
  have m2 := heap_turned_same W1.drew (w.heap.size + 2) (.map #[{ key := pair x y, val := link d j, born := 0 }] 1) (Array.getElem?_eq_some_iff.1 k2.out).1
  have m4 := (heap_turned_other W1.drew (w.heap.size + 2) (w.heap.size + 3) (.map #[{ key := pair x y, val := link d j, born := 0 }] 1) (by omega)).trans k4.out
  have m5 := (heap_turned_other W1.drew (w.heap.size + 2) (w.heap.size + 4) (.map #[{ key := pair x y, val := link d j, born := 0 }] 1) (by omega)).trans k5.out
  have mB := Below.turned (Below.drew kB.out) (b := w.heap.size + 2) (by omega) (.map #[{ key := pair x y, val := link d j, born := 0 }] 1)
  refine (unlock_deferred Tryf.muLib ⟨R, 0, none⟩ .returning _ ?_ ?_).mono ?_
  · exact cell_row m1 0
  · exact frozen_row m1 0
  rintro e u' w'' ⟨rfl, rfl, rfl⟩
  refine ⟨_, results_none rfl _ _ _, rfl, ?_⟩
  subst hR
  refine ⟨mB.setCell (by simp) _, ?_, ?_, ?_, ?_⟩
  · exact heap_set_same (i := 0) (.int .i32 0) m1
  · exact (Below.heap_setCell _ _ _ _ (by simp)).trans m5
  · exact (Below.heap_setCell _ _ _ _ (by simp)).trans m4
  · exact (Below.heap_setCell _ _ _ _ (by simp)).trans m2
end Go.Proofs.Qxb6618934aFmt
