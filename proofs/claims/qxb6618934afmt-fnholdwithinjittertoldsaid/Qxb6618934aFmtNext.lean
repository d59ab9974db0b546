/-
  The generator's step and its draw walked.
-/
import Derived.Test.Qxb6618934aFmtSet
import Derived.Test.Qxb6618934aFmtShelf
import Derived.Test.Qxb6618934aFmtPcg
import Derived.Laws.Externs
import Derived.Deep.QuietTactic
import Derived.BigQuiet
set_option linter.unusedSimpArgs false
set_option linter.unusedVariables false
namespace Go.Proofs.Qxb6618934aFmt
open Go.RowKit Go.Maps

theorem add64 (x y c : Int) (hx : 0 ≤ x) (hy : 0 ≤ y) (h0 : 0 ≤ c) (h1 : c ≤ 1) (w : World) :
    (callFunc 62 #[.int .u64 x, .int .u64 y, .int .u64 c]).run Tryf.prog w = .ok (.value (.tuple #[.int .u64 ((x + y + c) % 18446744073709551616), .int .u64 ((x + y + c) / 18446744073709551616)])) w := by
  rw [run_callFunc_extern Tryf.func62 (by kernel_rfl) (by kernel_rfl) (by kernel_rfl) (e := add64Entry) (by kernel_rfl), run_add64 x y c hx hy h0 h1]
  rfl

/-- One block turned, all else as it was. -/
structure Stepped (p : Nat) (W w' : World) : Prop where
  os : w'.os = W.os
  tape : w'.tape = W.tape
  output : w'.output = W.output
  size : w'.heap.size = W.heap.size
  block : ∀ k, k ≠ p → w'.heap[k]? = W.heap[k]?
theorem Stepped.trans {p : Nat} {a b c : World} (h : Stepped p a b) (k : Stepped p b c) : Stepped p a c :=
  ⟨k.os.trans h.os, k.tape.trans h.tape, k.output.trans h.output, k.size.trans h.size, fun i hi => (k.block i hi).trans (h.block i hi)⟩
theorem Stepped.setCell {p i : Nat} (W : World) (v : Value) : Stepped p W (W.setCell ⟨p, i, none⟩ v) :=
  ⟨rfl, rfl, rfl, by simp [World.setCell], fun k hk => Below.heap_setCell _ _ _ _ hk⟩
theorem Stepped.drew {p : Nat} {a b : World} (h : Stepped p a b) : Stepped p a b.drew := ⟨h.os, h.tape, h.output, h.size, h.block⟩
theorem Stepped.drewN {p : Nat} {a b : World} (h : Stepped p a b) (n : Nat) : Stepped p a (b.drewN n) := ⟨h.os, h.tape, h.output, h.size, h.block⟩
theorem Stepped.refl (p : Nat) (W : World) : Stepped p W W := ⟨rfl, rfl, rfl, rfl, fun _ _ => rfl⟩

theorem wrapu (x : Int) : IntKind.u64.wrap x = x % 18446744073709551616 := by
  simp [IntKind.wrap, IntKind.signed, IntKind.bits]

theorem high_same (Q R Y Z hi' : Nat) (H1 L1 H2 C3 H4 y z : Int) (hy : y = (Y : Int)) (hz : z = (Z : Int))
    (a1 : hi' = ((Q + (Y + Z)) % 18446744073709551616 + 6364136223846793005 + (R + 1442695040888963407) / 18446744073709551616) % 18446744073709551616)
    (a2 : (R : Int) = L1) (a3 : (L1 + 1442695040888963407 + 0) / 18446744073709551616 = C3) (a4 : (H2 + 6364136223846793005 + C3) % 18446744073709551616 = H4)
    (a5 : (H1 + (y % 18446744073709551616 + z % 18446744073709551616) % 18446744073709551616) % 18446744073709551616 = H2) (a6 : (Q : Int) = H1) : H4 = (hi' : Int) := by
  subst hy hz
  have b5 : H2 = ((Q + (Y + Z)) % 18446744073709551616 : Nat) := by omega
  clear a5
  generalize (Q + (Y + Z)) % 18446744073709551616 = V at *
  omega

/-- The generator's state in memory. -/
def State (W : World) (p s : Nat) : Prop := W.heap[p]? = some (.cells #[.int .u64 ((s / 18446744073709551616 : Nat) : Int), .int .u64 ((s % 18446744073709551616 : Nat) : Int)] 59 (0, 0))

set_option maxHeartbeats 4000000 in
set_option maxRecDepth 20000 in
theorem next_any {W : World} {p s : Nat} (hp : State W p s) (hs : s < 340282366920938463463374607431768211456) :
    Calls Tryf.prog 61 #[.pointer (some ⟨p, 0, none⟩)] W fun e w' => e = .returned (.tuple #[.int .u64 ((Pcg.nx s / 18446744073709551616 : Nat) : Int), .int .u64 ((Pcg.nx s % 18446744073709551616 : Nat) : Int)]) ∧ State w' p (Pcg.nx s) ∧ Stepped p W w' := by
  unfold State at *
  have hse : s = s / 18446744073709551616 * 18446744073709551616 + s % 18446744073709551616 := by omega
  have n1 := Pcg.nx_lo (s / 18446744073709551616) (s % 18446744073709551616)
  have n2 := Pcg.nx_hi (s / 18446744073709551616) (s % 18446744073709551616)
  rw [← hse] at n1 n2
  have hh : s / 18446744073709551616 < 18446744073709551616 := by omega
  have hl : s % 18446744073709551616 < 18446744073709551616 := by omega
  replace n1 := hid n1
  replace n2 := hid n2
  clear hse
  generalize hhi : s / 18446744073709551616 = hi at *
  generalize hlo : s % 18446744073709551616 = lo at *
  clear hhi hlo hs
  generalize Pcg.nx s / 18446744073709551616 = hi' at *
  generalize Pcg.nx s % 18446744073709551616 = lo' at *
  have c0 : W.cell? ⟨p, 0, none⟩ = some (.int .u64 hi) := cell_row hp 0
  have c1 : W.cell? ⟨p, 1, none⟩ = some (.int .u64 lo) := cell_row hp 1
  have f0 := frozen_row hp 0
  have f1 := frozen_row hp 1
  have hlt : p < W.heap.size := (Array.getElem?_eq_some_iff.1 hp).1
  have hmul := hid (Tryf.bits_Mul64 lo 4865540595714422341 hl (by omega) W)
  replace hp := hid hp
  replace hh := hid hh
  replace hl := hid hl
  go_enter Tryf.func61, Tryf.ntmps61
  go_wp2_with fail
  refine hmul.out.mono ?_
  rintro e w' ⟨rfl, rfl⟩
  generalize hH1 : ((lo * 4865540595714422341 / 18446744073709551616 : Nat) : Int) = H1
  generalize hL1 : ((lo * 4865540595714422341 % 18446744073709551616 : Nat) : Int) = L1
  replace hH1 := hid hH1
  have hL0 : 0 ≤ L1 := by omega
  have hL2 : L1 < 18446744073709551616 := by omega
  replace hL1 := hid hL1
  go_wp2_with fail
  go_quiet (fail)
  generalize hH2 : IntKind.u64.wrap (H1 + IntKind.u64.wrap (IntKind.u64.wrap (↑hi * 4865540595714422341) + IntKind.u64.wrap (↑lo * 2549297995355413924))) = H2
  have hH3 : 0 ≤ H2 := by rw [← hH2, wrapu]; omega
  replace hH2 := hid hH2
  have hadd1 := fun W => add64 L1 1442695040888963407 0 hL0 (by decide) (by decide) (by decide) W
  have hc : Hid ((L1 + 1442695040888963407 + 0) / 18446744073709551616 ≤ 1) := hid (by omega)
  have hc0 : Hid (0 ≤ (L1 + 1442695040888963407 + 0) / 18446744073709551616) := hid (by omega)
  generalize hL3 : (L1 + 1442695040888963407 + 0) % 18446744073709551616 = L3 at *
  generalize hC3 : (L1 + 1442695040888963407 + 0) / 18446744073709551616 = C3 at *
  replace hL3 := hid hL3
  replace hC3 := hid hC3
  have hadd2 := fun W => add64 H2 6364136223846793005 C3 hH3 (by decide) hc0.out hc.out W
  generalize hH4 : (H2 + 6364136223846793005 + C3) % 18446744073709551616 = H4 at *
  replace hH4 := hid hH4
  clear hL0 hL2 hH3
  go_wp2_with fail
  have eL : L3 = ((lo' : Nat) : Int) := by
    have := n1.out; have := hL1.out; have := hL3.out
    omega
  have eH : H4 = ((hi' : Nat) : Int) := by
    have a1 := n2.out; have a2 := hL1.out; have a3 := hC3.out; have a4 := hH4.out; have a5 := hH2.out; have a6 := hH1.out
    rw [wrapu, wrapu, wrapu, wrapu] at a5
    exact high_same _ _ _ _ hi' H1 L1 H2 C3 H4 _ _ (Int.natCast_mul hi 4865540595714422341).symm (Int.natCast_mul lo 2549297995355413924).symm a1 a2 a3 a4 a5 a6
  rw [eL, eH]
  refine bodyPost_ret (results_tmp2 rfl _ _ _) rfl ⟨rfl, ?_, ((Stepped.refl _ _).drewN _).trans ((Stepped.setCell _ _).trans (Stepped.setCell _ _))⟩
  have k1 := heap_set_same (w := w'.drewN nq) (i := 1) (.int .u64 ((lo' : Nat) : Int)) hp.out
  exact heap_set_same (i := 0) (.int .u64 ((hi' : Nat) : Int)) k1
end Go.Proofs.Qxb6618934aFmt
