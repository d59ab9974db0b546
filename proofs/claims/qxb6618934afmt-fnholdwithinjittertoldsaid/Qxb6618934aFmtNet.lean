/-
  The network in memory; NewMemoryNetwork, ZZlink, SetLink walked.
-/
import Derived.Test.Qxb6618934aFmtKeys
import Derived.Laws.Rows
set_option linter.unusedSimpArgs false
set_option linter.unusedVariables false
namespace Go.Proofs.Qxb6618934aFmt
open Go.RowKit Go.Maps
open Go.MuLone

theorem hid {p : Prop} (h : p) : Hid p := h

/-- What NewMemoryNetwork lays behind the world w: seven blocks; the links' map holds es. -/
structure Net (w W : World) (es : Array MapEntry) (clock : Nat) (hi lo : Int) : Prop where
  below : Below w.heap.size w W
  net : W.heap[w.heap.size + 6]? = some (.cells #[.int .i32 0, .int .u32 0, .map (some w.heap.size), .map (some (w.heap.size + 1)), .map (some (w.heap.size + 2)), .pointer (some ⟨w.heap.size + 4, 0, none⟩), .map (some (w.heap.size + 5)), .int .i64 0] 50 (0, 0))
  rand : W.heap[w.heap.size + 4]? = some (.cells #[.iface 38 (.pointer (some ⟨w.heap.size + 3, 0, none⟩))] 57 (0, 0))
  pcg : W.heap[w.heap.size + 3]? = some (.cells #[.int .u64 hi, .int .u64 lo] 59 (0, 0))
  links : W.heap[w.heap.size + 2]? = some (.map es clock)

theorem Net.lt {w W : World} {es clock hi lo} (h : Net w W es clock hi lo) : w.heap.size + 6 < W.heap.size := (Array.getElem?_eq_some_iff.1 h.net).1
theorem Net.kept {w W W' : World} {es clock hi lo} (h : Net w W es clock hi lo) (hB : Below W.heap.size W W') : Net w W' es clock hi lo := by
  have hl := h.lt
  exact ⟨h.below.trans (hB.mono h.below.size), (hB.block _ (by omega)).trans h.net, (hB.block _ (by omega)).trans h.rand, (hB.block _ (by omega)).trans h.pcg, (hB.block _ (by omega)).trans h.links⟩

set_option maxHeartbeats 1600000 in
set_option maxRecDepth 20000 in
theorem newPCG_any (a b : Int) (w : World) : Calls Tryf.prog 12 #[.int .u64 a, .int .u64 b] w fun e w' => e = .returned (.pointer (some ⟨w.heap.size, 0, none⟩)) ∧ w' = w.alloc (.cells #[.int .u64 a, .int .u64 b] 59 (0, 0)) := by
  go_enter Tryf.func12, Tryf.ntmps12
  go_wp2
  go_ret
  exact ⟨rfl, rfl⟩
set_option maxHeartbeats 1600000 in
set_option maxRecDepth 20000 in
theorem newRand_any (v : Value) (w : World) : Calls Tryf.prog 11 #[.iface 38 v] w fun e w' => e = .returned (.pointer (some ⟨w.heap.size, 0, none⟩)) ∧ w' = w.alloc (.cells #[.iface 38 v] 57 (0, 0)) := by
  go_enter Tryf.func11, Tryf.ntmps11
  go_wp2
  go_ret
  exact ⟨rfl, rfl⟩
theorem Tryf.size29 : (Tryf.prog.info? 29).map (·.size) = some 3 := by kernel_rfl
theorem Tryf.results8 : Tryf.f8.results = #[.cell 6 29] := by kernel_rfl
theorem heap_push (w : World) (o : Obj) : (w.alloc o).heap[w.heap.size]? = some o := by
  show (w.heap.push o)[w.heap.size]? = some o
  simp
theorem heap_alloc (w : World) (o : Obj) : (w.alloc o).heap = w.heap.push o := rfl
theorem store_f (W : World) (a : Addr) (m : Mode) : (store a (.float .f64 0) m).run Tryf.prog W = stored Tryf.prog W a (.float .f64 0) m := run_store Tryf.prog W a _ m rfl
theorem geq_f (W : World) : (binOp .geq 27 (.float .f64 0) (.float .f64 0)).run Tryf.prog W = .ok (.bool true) W := by kernel_rfl
theorem leq_f (W : World) : (binOp .leq 27 (.float .f64 0) (.float .f64 4607182418800017408)).run Tryf.prog W = .ok (.bool true) W := by kernel_rfl

set_option maxHeartbeats 1600000 in
set_option maxRecDepth 20000 in
theorem zzlink_any (a b : Int) (w : World) : Calls Tryf.prog 8 #[.int .i64 a, .int .i64 b, .float .f64 0] w fun e w' => e = .returned (link a b) ∧ Below w.heap.size w w' := by
  have hst := store_f
  go_enter Tryf.func8, Tryf.ntmps8
  go_wp2
  refine bodyPost_ret (v := link a b) (results_cell_row Tryf.results8 _ _ w.heap.size 29 #[.int .i64 a, .int .i64 b, .float .f64 0] (0, 0) _ rfl (heap_push w _) Tryf.underlying29 rfl Tryf.size29) rfl ⟨rfl, ?_⟩
  exact (Below.refl _ _).alloc (Nat.le_refl _) _
set_option maxHeartbeats 1600000 in
set_option maxRecDepth 20000 in
theorem new_any (w : World) : Calls Tryf.prog 6 #[] w fun e w' => e = .returned (.pointer (some ⟨w.heap.size + 6, 0, none⟩)) ∧ Net w w' #[] 0 1 2 := by
  have hmm := @run_makeMap Tryf.prog
  go_enter Tryf.func6, Tryf.ntmps6
  go_wp2_with (first
    | (go_at_call 12; refine (newPCG_any _ _ _).mono ?_; rintro e w' ⟨rfl, rfl⟩)
    | (go_at_call 11; refine (newRand_any _ _).mono ?_; rintro e w' ⟨rfl, rfl⟩))
  go_ret
  refine ⟨rfl, ?_, ?_, ?_, ?_, ?_⟩
  · refine Below.alloc (Below.alloc (Below.alloc (Below.alloc (Below.alloc (Below.alloc (Below.alloc (Below.refl _ _) (Nat.le_refl _) _) ?_ _) ?_ _) ?_ _) ?_ _) ?_ _) ?_ _ <;> simp only [heap_alloc, Array.size_push] <;> omega
  all_goals
    simp only [heap_alloc, Array.getElem?_push, Array.size_push]
    simp
end Go.Proofs.Qxb6618934aFmt
