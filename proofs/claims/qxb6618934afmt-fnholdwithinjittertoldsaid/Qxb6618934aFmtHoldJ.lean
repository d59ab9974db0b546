/-
  holdLocked with jitter walked.
-/
import Derived.Test.Qxb6618934aFmtJit
import Derived.Deep.RegionHeld3
set_option linter.unusedSimpArgs false
set_option linter.unusedVariables false
namespace Go.Proofs.Qxb6618934aFmt
open Go.RowKit Go.Maps

theorem wrapi (x : Int) (h1 : -9223372036854775808 ≤ x) (h2 : x < 9223372036854775808) : IntKind.i64.wrap x = x := by
  simp [IntKind.wrap, IntKind.signed, IntKind.bits]
  omega
/-- The network with its one link, the generator in state s. -/
def NetJ (w W : World) (a b : ByteArray) (d j : Int) (s : Nat) : Prop :=
  s < 340282366920938463463374607431768211456 ∧ Net w W #[{ key := pair a b, val := link d j, born := 0 }] 1 ((s / 18446744073709551616 : Nat) : Int) ((s % 18446744073709551616 : Nat) : Int)
theorem Net.stepped {w W W' : World} {es : Array MapEntry} {c : Nat} {hi lo : Int} {s' : Nat} (h : Net w W es c hi lo) (hT : Stepped (w.heap.size + 3) W.drew W') (hS : State W' (w.heap.size + 3) s') :
    Net w W' es c ((s' / 18446744073709551616 : Nat) : Int) ((s' % 18446744073709551616 : Nat) : Int) := by
  have hB : Below w.heap.size W.drew W' := ⟨hT.os, hT.tape, hT.output, Nat.le_of_eq hT.size.symm, fun k hk => hT.block k (by omega)⟩
  exact ⟨(Below.drew h.below).trans hB, (hT.block _ (by omega)).trans h.net, (hT.block _ (by omega)).trans h.rand, hS, (hT.block _ (by omega)).trans h.links⟩
/-- A hold within the jitter. -/
def Within (d j h : Int) : Prop := 0 ≤ h ∧ d - j ≤ h ∧ h ≤ d + j

set_option maxHeartbeats 1600000 in
set_option maxRecDepth 20000 in
theorem holdJ_any {w W : World} {s : Nat} {a b : ByteArray} {d j : Int} (hNs : NetJ w W a b d j s) (x y : ByteArray) (hd : 0 ≤ d) (hj : 1 ≤ j) (hj2 : j ≤ 4611686018427387903) (hdj : d ≤ 9223372036854775807 - j) (hl : linkOf a b d j x y = link d j) :
    Calls Tryf.prog 16 #[.pointer (some ⟨w.heap.size + 6, 0, none⟩), .string x, .string y] W fun e w' => ∃ h : Int, e = .returned (.int .i64 h) ∧ Within d j h ∧ ∃ s' : Nat, NetJ w w' a b d j s' := by
  obtain ⟨hs, hN⟩ := hNs
  have hst := store_f
  have hlt := hN.lt
  have c4 : W.cell? ⟨w.heap.size + 6, 4, none⟩ = some (.map (some (w.heap.size + 2))) := cell_row hN.net 4
  have c5 : W.cell? ⟨w.heap.size + 6, 5, none⟩ = some (.pointer (some ⟨w.heap.size + 4, 0, none⟩)) := cell_row hN.net 5
  have hlook := look_pair hN.links x y
  unfold linkOf at hl
  rw [hl] at hlook
  unfold link at hlook
  have hN0 := hid (hN.kept ((Below.refl _ _).alloc (Nat.le_refl _) (.cells #[.int .i64 d, .int .i64 j, .float .f64 0] 29 (0, 0))))
  have hbox := heap_push W (.cells #[.int .i64 d, .int .i64 j, .float .f64 0] 29 (0, 0))
  clear hl hN
  generalize hR : w.heap.size + 6 = R at hlt c4 c5
  go_enter Tryf.func16, Tryf.ntmps16
  go_wp2_with fail
  have hB0 : W.heap.size < (W.alloc (.cells #[.int .i64 d, .int .i64 j, .float .f64 0] 29 (0, 0))).heap.size := by simp
  clear c4 c5 hlook
  generalize W.alloc (.cells #[.int .i64 d, .int .i64 j, .float .f64 0] 29 (0, 0)) = W0 at *
  have c5 : W0.cell? ⟨R, 5, none⟩ = some (.pointer (some ⟨w.heap.size + 4, 0, none⟩)) := by rw [← hR]; exact cell_row hN0.out.net 5
  have b1 : W0.cell? ⟨W.heap.size, 1, none⟩ = some (.int .i64 j) := cell_row hbox 1
  replace hbox := hid hbox
  have hc := hid (int64n_int (W := W0.drew) (2 * j + 1) (by omega) (by omega) (Nat.ne_of_gt (Nat.lt_succ_self _)) hN0.out.rand hN0.out.pcg hs)
  have hRp : R ≠ w.heap.size + 3 := by omega
  have hBp : W.heap.size ≠ w.heap.size + 3 := by omega
  have hkeep : Hid (∀ w', Stepped (w.heap.size + 3) W0.drew w' → w'.cell? ⟨R, 5, none⟩ = some (.pointer (some ⟨w.heap.size + 4, 0, none⟩)) ∧ w'.cell? ⟨W.heap.size, 1, none⟩ = some (.int .i64 j)) := fun w' hT => by
    refine ⟨?_, cell_row ((hT.block _ hBp).trans hbox.out) 1⟩
    subst hR
    exact cell_row ((hT.block _ hRp).trans hN0.out.net) 5
  clear hRp hBp hs
  have c5d : W0.drew.cell? ⟨R, 5, none⟩ = some (.pointer (some ⟨w.heap.size + 4, 0, none⟩)) := c5
  have b1d : W0.drew.cell? ⟨W.heap.size, 1, none⟩ = some (.int .i64 j) := b1
  clear c5 b1
  refine wp_region_held_drew (S := (fun w' => w'.cell? ⟨R, 5, none⟩ = some (.pointer (some ⟨w.heap.size + 4, 0, none⟩)) ∧ w'.cell? ⟨W.heap.size, 1, none⟩ = some (.int .i64 j))) (by kernel_rfl) ⟨c5d, b1d⟩ (fun hh => ?_)
  clear c5d b1d
  refine wpAnyH_take (i := 0) rfl (by kernel_rfl) (by kernel_rfl) (by kernel_rfl) (fun _ _ _ h => h) (Or.inl ⟨by rfl, fun _ _ => rfl⟩) hh ?_
  try simp only [Act.put, List.setIfInBounds_toArray, List.set_cons_zero, List.set_cons_succ]
  refine wpAnyH_take (i := 1) rfl (by kernel_rfl) (by kernel_rfl) (by kernel_rfl) (fun _ _ _ h => h) (Or.inl ⟨by rfl, fun _ _ => rfl⟩) hh ?_
  try simp only [Act.put, List.setIfInBounds_toArray, List.set_cons_zero, List.set_cons_succ]
  refine wpAnyH_take (i := 2) (v := .pointer (some ⟨R, 0, none⟩)) rfl (by kernel_rfl) (by kernel_rfl) (by kernel_rfl) (fun _ _ _ h => h) (Or.inl ⟨by rfl, fun W' hW' => by obtain ⟨g1, g2⟩ := hW'; go_simp⟩) hh ?_
  try simp only [Act.put, List.setIfInBounds_toArray, List.set_cons_zero, List.set_cons_succ]
  refine wpAnyH_take (i := 3) (v := .pointer (some ⟨R, 5, none⟩)) rfl (by kernel_rfl) (by kernel_rfl) (by kernel_rfl) (fun _ _ _ h => h) (Or.inl ⟨by rfl, fun W' hW' => by obtain ⟨g1, g2⟩ := hW'; go_simp⟩) hh ?_
  try simp only [Act.put, List.setIfInBounds_toArray, List.set_cons_zero, List.set_cons_succ]
  refine wpAnyH_take (i := 4) (v := .pointer (some ⟨w.heap.size + 4, 0, none⟩)) rfl (by kernel_rfl) (by kernel_rfl) (by kernel_rfl) (fun _ _ _ h => h) (Or.inl ⟨by rfl, fun W' hW' => by obtain ⟨g1, g2⟩ := hW'; go_simp⟩) hh ?_
  try simp only [Act.put, List.setIfInBounds_toArray, List.set_cons_zero, List.set_cons_succ]
  refine wpAnyH_take (i := 5) (v := .pointer (some ⟨W.heap.size, 1, none⟩)) rfl (by kernel_rfl) (by kernel_rfl) (by kernel_rfl) (fun _ _ _ h => h) (Or.inl ⟨by rfl, fun W' hW' => by obtain ⟨g1, g2⟩ := hW'; go_simp⟩) hh ?_
  try simp only [Act.put, List.setIfInBounds_toArray, List.set_cons_zero, List.set_cons_succ]
  refine wpAnyH_take (i := 6) (v := .int .i64 j) rfl (by kernel_rfl) (by kernel_rfl) (by kernel_rfl) (fun _ _ _ h => h) (Or.inl ⟨by rfl, fun W' hW' => by obtain ⟨g1, g2⟩ := hW'; go_simp⟩) hh ?_
  try simp only [Act.put, List.setIfInBounds_toArray, List.set_cons_zero, List.set_cons_succ]
  refine wpAnyH_take (i := 7) (v := .int .i64 (2 * j)) rfl (by kernel_rfl) (by kernel_rfl) (by kernel_rfl) (fun _ _ _ h => h) (Or.inl ⟨by rfl, fun W' hW' => by obtain ⟨g1, g2⟩ := hW'; go_simp; exact wrapi _ (by omega) (by omega)⟩) hh ?_
  try simp only [Act.put, List.setIfInBounds_toArray, List.set_cons_zero, List.set_cons_succ]
  refine wpAnyH_take (i := 8) (v := .int .i64 (2 * j + 1)) rfl (by kernel_rfl) (by kernel_rfl) (by kernel_rfl) (fun _ _ _ h => h) (Or.inl ⟨by rfl, fun W' hW' => by obtain ⟨g1, g2⟩ := hW'; go_simp; exact wrapi _ (by omega) (by omega)⟩) hh ?_
  try simp only [Act.put, List.setIfInBounds_toArray, List.set_cons_zero, List.set_cons_succ]
  refine wpAnyH_take (i := 10) (v := .pointer (some ⟨W.heap.size, 1, none⟩)) rfl (by kernel_rfl) (by kernel_rfl) (by kernel_rfl) (fun _ _ _ h => h) (Or.inl ⟨by rfl, fun W' hW' => by obtain ⟨g1, g2⟩ := hW'; go_simp⟩) hh ?_
  try simp only [Act.put, List.setIfInBounds_toArray, List.set_cons_zero, List.set_cons_succ]
  refine wpAnyH_take (i := 11) (v := .int .i64 j) rfl (by kernel_rfl) (by kernel_rfl) (by kernel_rfl) (fun _ _ _ h => h) (Or.inl ⟨by rfl, fun W' hW' => by obtain ⟨g1, g2⟩ := hW'; go_simp⟩) hh ?_
  try simp only [Act.put, List.setIfInBounds_toArray, List.set_cons_zero, List.set_cons_succ]
  refine wpAnyH_ready (rs := [9]) (by kernel_rfl) (by simp) ?_
  refine AllReadyH.cons rfl (fun K hK => ?_) AllReadyH.nil
  go_simp
  refine hc.out.mono ?_
  rintro e w' ⟨q, rfl, hq0, hq1, s', hS, hs', hT⟩
  refine hK.out _ _ (hkeep.out w' hT) (fun hh2 => ?_)
  clear hK K hc hkeep hh
  replace hS := hid hS
  replace hs' := hid hs'
  replace hT := hid hT
  try simp only [Act.put, List.setIfInBounds_toArray, List.set_cons_zero, List.set_cons_succ]
  refine wpAnyH_take (i := 12) (v := .int .i64 (q - j)) rfl (by kernel_rfl) (by kernel_rfl) (by kernel_rfl) (fun _ _ _ h => h) (Or.inl ⟨by rfl, fun W' hW' => by obtain ⟨g1, g2⟩ := hW'; go_simp; exact wrapi _ (by omega) (by omega)⟩) hh2 ?_
  try simp only [Act.put, List.setIfInBounds_toArray, List.set_cons_zero, List.set_cons_succ]
  refine wpAnyH_take (i := 13) (v := .int .i64 (d + (q - j))) rfl (by kernel_rfl) (by kernel_rfl) (by kernel_rfl) (fun _ _ _ h => h) (Or.inl ⟨by rfl, fun W' hW' => by obtain ⟨g1, g2⟩ := hW'; go_simp; exact wrapi _ (by omega) (by omega)⟩) hh2 ?_
  try simp only [Act.put, List.setIfInBounds_toArray, List.set_cons_zero, List.set_cons_succ]
  refine wpAnyH_take (i := 14) rfl (by kernel_rfl) (by kernel_rfl) (by kernel_rfl) (fun _ _ _ h => h) (Or.inl ⟨by rfl, fun _ _ => rfl⟩) hh2 ?_
  try simp only [Act.put, List.setIfInBounds_toArray, List.set_cons_zero, List.set_cons_succ]
  refine wpAnyH_done (by kernel_rfl) ?_ _
  clear hh2
  go_wp2_with fail
  all_goals
    go_ret
    exact ⟨_, rfl, ⟨by omega, by omega, by omega⟩, s', hs'.out, hN0.out.stepped hT.out hS.out⟩
end Go.Proofs.Qxb6618934aFmt
