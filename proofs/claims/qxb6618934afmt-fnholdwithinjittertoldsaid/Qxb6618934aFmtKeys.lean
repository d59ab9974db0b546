/-
  The map of links: its keys are pairs of strings ([2]string, type 52), its values Links (type 29).
-/
import Derived.Test.Qxb6618934aFmtCards
import Derived.Test.Qxb6618934aFmtLocks
import Derived.Conc.MuLone
import Derived.WalkKit
import Derived.WalkSpells
import Derived.Maps.OwnSet
import Derived.ChangeKeysEq
import Derived.Below
set_option linter.unusedSimpArgs false
set_option linter.unusedVariables false
namespace Go.Proofs.Qxb6618934aFmt
open Go.RowKit Go.Maps
open Go.MuLone

/-- A pair of hosts. -/
def pair (x y : ByteArray) : Value := .agg #[.string x, .string y]
/-- A link that loses nothing. -/
def link (d j : Int) : Value := .agg #[.int .i64 d, .int .i64 j, .float .f64 0]

theorem Tryf.info9 : ∃ i, Tryf.prog.info? 9 = some i := Option.isSome_iff_exists.1 (by kernel_rfl)
theorem Tryf.cells9 : Tryf.prog.cellsOf 9 = 1 := by kernel_rfl

theorem check_str (em : Bool) (d : Nat) (x : ByteArray) (w : World) : (Instr.checkKey em (d + 1) 9 (.string x)).run Tryf.prog w = .ok () w := by
  simp [Instr.checkKey, run_underlying Tryf.underlying9]
theorem check_pair' (em : Bool) (d : Nat) (x y : ByteArray) (w : World) : (Instr.checkKey em (d + 1 + 1) 52 (pair x y)).run Tryf.prog w = .ok () w := by
  simp only [pair]
  rw [Instr.checkKey]
  simp only [Sem.run_bind, run_underlying Tryf.underlying52, Result.andThen_ok]
  simp only [Std.Legacy.Range.forIn_eq_forIn_range', Std.Legacy.Range.size]
  simp [List.range', part, go_sem, check_str]
theorem check_pair (em : Bool) (x y : ByteArray) (w : World) : (Instr.checkKey em 10000 52 (pair x y)).run Tryf.prog w = .ok () w := check_pair' em 9998 x y w

theorem eq_pair (x y a b : ByteArray) (w : World) : (Op.equal 52 (pair x y) (pair a b)).run Tryf.prog w = .ok (x.toList == a.toList && y.toList == b.toList) w := by
  obtain ⟨i, hi⟩ := Tryf.info9
  unfold Op.equal Op.maxDepth
  rw [pair, pair, run_equalIn_array w 9999 _ _ Tryf.underlying52 hi, Tryf.cells9]
  simp [List.range, List.range.loop, Op.eqItems, part, go_sem]
  by_cases h1 : x.toList = a.toList <;> by_cases h2 : y.toList = b.toList <;> simp [h1, h2]

/-- The world with block b turned. -/
def turned (w : World) (b : Nat) (o : Obj) : World := { w with heap := w.heap.setIfInBounds b o }

theorem put_pair {W : World} {L : Nat} (h : W.heap[L]? = some (.map #[] 0)) (x y : ByteArray) (v : Value) :
    (Instr.mapUpdate 35 (.map (some L)) (.agg #[.string x, .string y]) v).run Tryf.prog W = .ok () (turned W L (.map #[{ key := pair x y, val := v, born := 0 }] 1)) := by
  have hc := check_pair false x y W
  unfold pair at hc
  simp only [Instr.mapUpdate, Sem.run_bind, run_underlying Tryf.underlying35, Result.andThen_ok, MapKept.run_getObj_map h, hc]
  simp [Instr.findKey, run_underlying Tryf.underlying52, Instr.findNow, MapKept.run_setObj_map _ h, turned, pair]
theorem zero29 (W : World) : (zeroValue 29).run Tryf.prog W = .ok (link 0 0) W := by kernel_rfl
theorem look_pair {W : World} {L : Nat} {a b : ByteArray} {v : Value} {c : Nat} (h : W.heap[L]? = some (.map #[{ key := pair a b, val := v, born := 0 }] c)) (x y : ByteArray) :
    (Instr.lookup 35 (.map (some L)) (.agg #[.string x, .string y]) false).run Tryf.prog W = .ok (if x.toList == a.toList && y.toList == b.toList then v else link 0 0) W := by
  have hc := check_pair false x y W
  have he := eq_pair x y a b W
  unfold pair at hc he
  have hne : (#[({ key := pair a b, val := v, born := 0 } : MapEntry)] : Array MapEntry).isEmpty = false := rfl
  simp only [Instr.lookup, Sem.run_bind, run_underlying Tryf.underlying35, Result.andThen_ok, MapKept.run_getObj_map h, Sem.run_pure, hne, hc]
  simp only [Instr.findKey, Sem.run_bind, run_underlying Tryf.underlying52, Result.andThen_ok]
  simp only [Instr.findNow, Instr.sameNow, Instr.findAsking, pair, Sem.run_bind, he, Result.andThen_ok]
  by_cases hx : (x.toList == a.toList && y.toList == b.toList) = true
  · simp [hx]
  · rw [Bool.not_eq_true] at hx
    simp [hx, zero29]
    rfl
end Go.Proofs.Qxb6618934aFmt
