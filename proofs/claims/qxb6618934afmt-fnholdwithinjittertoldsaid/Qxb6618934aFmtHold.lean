/-
  holdLocked walked where the link has no jitter.
-/
import Derived.Test.Qxb6618934aFmtSet
set_option linter.unusedSimpArgs false
set_option linter.unusedVariables false
namespace Go.Proofs.Qxb6618934aFmt
open Go.RowKit Go.Maps
open Go.MuLone

/-- The link from x to y, where the one link set is the one from a to b. -/
def linkOf (a b : ByteArray) (d j : Int) (x y : ByteArray) : Value := if x.toList == a.toList && y.toList == b.toList then link d j else link 0 0

set_option maxHeartbeats 4000000 in
set_option maxRecDepth 20000 in
theorem hold0_any {w W : World} {hi lo : Int} {a b : ByteArray} {d j : Int} (hN : Net w W #[{ key := pair a b, val := link d j, born := 0 }] 1 hi lo) (x y : ByteArray) (d0 : Int) (hd : 0 ≤ d0) (hl : linkOf a b d j x y = link d0 0) :
    Calls Tryf.prog 16 #[.pointer (some ⟨w.heap.size + 6, 0, none⟩), .string x, .string y] W fun e w' => e = .returned (.int .i64 d0) ∧ Below W.heap.size W w' := by
  have hst := store_f
  have hlt := hN.lt
  have c4 : W.cell? ⟨w.heap.size + 6, 4, none⟩ = some (.map (some (w.heap.size + 2))) := cell_row hN.net 4
  have hlook := look_pair hN.links x y
  unfold linkOf at hl
  rw [hl] at hlook
  unfold link at hlook
  replace hN := hid hN
  clear hl
  generalize w.heap.size + 6 = R at hlt c4
  go_enter Tryf.func16, Tryf.ntmps16
  go_wp2_with fail
  go_ret
  exact ⟨rfl, (Below.refl _ _).alloc (Nat.le_refl _) _⟩

set_option maxHeartbeats 4000000 in
set_option maxRecDepth 20000 in
theorem zzhold0_any {w W : World} {hi lo : Int} {a b : ByteArray} {d j : Int} (hN : Net w W #[{ key := pair a b, val := link d j, born := 0 }] 1 hi lo) (x y : ByteArray) (d0 : Int) (hd : 0 ≤ d0) (hl : linkOf a b d j x y = link d0 0) :
    Calls Tryf.prog 9 #[.pointer (some ⟨w.heap.size + 6, 0, none⟩), .string x, .string y] W fun e w' => e = .returned (.int .i64 d0) ∧ Below W.heap.size W w' := by
  have hc := hid (hold0_any hN x y d0 hd hl)
  clear hN hl
  generalize w.heap.size + 6 = R at *
  go_enter Tryf.func9, Tryf.ntmps9
  go_wp2_with (go_at_call 16; refine hc.out.mono ?_; rintro e w' ⟨rfl, hB⟩)
  go_ret
  exact ⟨rfl, hB⟩

/-- The length test: some bool, and nothing turned. -/
def SomeBool (e : Ending) : Prop := ∃ b : Bool, e = .returned (.bool b)

set_option maxHeartbeats 4000000 in
set_option maxRecDepth 20000 in
theorem bytes_any (x y : ByteArray) (hx : x.size ≤ maxLen) (hy : y.size ≤ maxLen) (d : Int) (w : World) :
    Calls Tryf.prog 5 #[.string x, .string y, .int .i64 d] w fun e w' => SomeBool e ∧ w' = w := by
  unfold maxLen at hx hy
  go_enter Tryf.func5, Tryf.ntmps5
  go_wp2
  all_goals go_ret; exact ⟨⟨_, rfl⟩, rfl⟩
end Go.Proofs.Qxb6618934aFmt
