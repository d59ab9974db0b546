/-
  One draw of the generator walked: (*PCG).Uint64, (*Rand).Uint64.
-/
import Derived.Test.Qxb6618934aFmtNext
set_option linter.unusedSimpArgs false
set_option linter.unusedVariables false
namespace Go.Proofs.Qxb6618934aFmt
open Go.RowKit Go.Maps

/-- The draw from the state's two halves. -/
def drawI (H L : Int) : Int :=
  IntKind.u64.wrap (bits BinOp.xor IntKind.u64 (IntKind.u64.wrap (bits BinOp.xor IntKind.u64 H (H / 4294967296) * 15750249268501108917)) (IntKind.u64.wrap (bits BinOp.xor IntKind.u64 H (H / 4294967296) * 15750249268501108917) / 281474976710656) * bits BinOp.or IntKind.u64 L 1)
/-- The draw that leads to state s. -/
def draw (s : Nat) : Nat := (drawI ((s / 18446744073709551616 : Nat) : Int) ((s % 18446744073709551616 : Nat) : Int)).toNat
theorem drawI_range (H L : Int) : 0 ≤ drawI H L ∧ drawI H L < 18446744073709551616 := by
  unfold drawI
  rw [wrapu]
  generalize bits BinOp.xor IntKind.u64 _ _ * _ = x
  omega
theorem draw_eq (s : Nat) : drawI ((s / 18446744073709551616 : Nat) : Int) ((s % 18446744073709551616 : Nat) : Int) = (draw s : Int) := by
  unfold draw
  have := drawI_range ((s / 18446744073709551616 : Nat) : Int) ((s % 18446744073709551616 : Nat) : Int)
  omega
theorem draw_lt (s : Nat) : draw s < 18446744073709551616 := by
  have h1 := drawI_range ((s / 18446744073709551616 : Nat) : Int) ((s % 18446744073709551616 : Nat) : Int)
  have h2 := draw_eq s
  omega
theorem draw_good : draw Pcg.good = 1 := by kernel_rfl

set_option maxHeartbeats 4000000 in
set_option maxRecDepth 20000 in
theorem pcgUint64_any {W : World} {p s : Nat} (hp : State W p s) (hs : s < 340282366920938463463374607431768211456) :
    Calls Tryf.prog 60 #[.pointer (some ⟨p, 0, none⟩)] W fun e w' => e = .returned (.int .u64 (draw (Pcg.nx s) : Int)) ∧ State w' p (Pcg.nx s) ∧ Stepped p W w' := by
  have hc := hid (next_any hp hs)
  have he := draw_eq (Pcg.nx s)
  unfold drawI at he
  replace he := hid he
  go_enter Tryf.func60, Tryf.ntmps60
  go_wp2_with (go_at_call 61; refine hc.out.mono ?_; rintro e w' ⟨rfl, hS, hT⟩; replace hS := hid hS; replace hT := hid hT; generalize ((Pcg.nx s / 18446744073709551616 : Nat) : Int) = H at he ⊢; generalize ((Pcg.nx s % 18446744073709551616 : Nat) : Int) = L at he ⊢)
  go_ret
  exact ⟨by rw [he.out]; rfl, hS.out, hT.out⟩
theorem method_pcg (n : Nat) (W : World) (p : Nat) : (method (n + 1) 38 (.pointer (some ⟨p, 0, none⟩)) "Uint64").run Tryf.prog W = .ok (60, .pointer (some ⟨p, 0, none⟩)) W := by kernel_rfl
set_option maxHeartbeats 4000000 in
set_option maxRecDepth 20000 in
theorem randUint64_any {W : World} {D p s : Nat} (hr : W.heap[D]? = some (.cells #[.iface 38 (.pointer (some ⟨p, 0, none⟩))] 57 (0, 0))) (hp : State W p s) (hs : s < 340282366920938463463374607431768211456) :
    Calls Tryf.prog 37 #[.pointer (some ⟨D, 0, none⟩)] W fun e w' => e = .returned (.int .u64 (draw (Pcg.nx s) : Int)) ∧ State w' p (Pcg.nx s) ∧ Stepped p W w' := by
  have c0 : W.cell? ⟨D, 0, none⟩ = some (.iface 38 (.pointer (some ⟨p, 0, none⟩))) := cell_row hr 0
  have hm := fun W => method_pcg 246 W p
  have hc := hid (pcgUint64_any hp hs)
  replace hr := hid hr
  go_enter Tryf.func37, Tryf.ntmps37
  go_wp2_with fail
  refine hc.out.mono ?_
  rintro e w' ⟨rfl, hS, hT⟩
  replace hS := hid hS
  replace hT := hid hT
  go_wp2_with fail
  go_ret
  exact ⟨rfl, hS.out, hT.out⟩
end Go.Proofs.Qxb6618934aFmt
