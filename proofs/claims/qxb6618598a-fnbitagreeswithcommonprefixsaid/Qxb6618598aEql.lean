/-
  TWO ARRAYS OF TWENTY BYTES COMPARED BY '=='.
-/
import Derived.Test.Qxb6618598aWalks
import Derived.ChangeKeysEq
namespace Go.Proofs.Qxb6618598a
open Go.RowKit Plain

theorem part_cs (xs : List Nat) (i : Nat) (hi : i < xs.length) (w : World) : (part 5 (cs xs) i).run Try.prog w = .ok (.int .u8 (byt xs i : Int)) w := by
  unfold part isAgg
  simp only [Sem.run_bind, run_underlying Try.underlying5, Result.andThen_ok, Sem.run_pure, Bool.false_eq_true, if_false, cs_get xs i hi]

theorem eq_byte (d : Nat) (a b : Int) (w : World) : (Op.equalIn (d + 1) 5 (.int .u8 a) (.int .u8 b)).run Try.prog w = .ok (a == b) w := by
  simp [Op.equalIn, run_underlying Try.underlying5]

theorem eq_items (xs ys : List Nat) (hl : xs.length = 20) (hm : ys.length = 20) (d : Nat) (w : World) : ∀ is : List Nat, (∀ i ∈ is, i < 20) →
    (Op.eqItems (d + 1) 5 1 (cs xs) (cs ys) is).run Try.prog w = .ok (is.all fun i => byt xs i == byt ys i) w
  | [], _ => by simp [Op.eqItems]
  | i :: is, h => by
    have ih := eq_items xs ys hl hm d w is (fun j hj => h j (by simp [hj]))
    have hi := h i (by simp)
    simp only [Op.eqItems, Sem.run_bind, Nat.mul_one, part_cs xs i (by omega) w, part_cs ys i (by omega) w, Result.andThen_ok, eq_byte]
    by_cases e : byt xs i = byt ys i
    · simp only [e, beq_self_eq_true, Bool.not_true, Bool.false_eq_true, if_false, ih, List.all_cons, Bool.true_and]
    · have e' : ((byt xs i : Int) == (byt ys i : Int)) = false := by simp; omega
      simp [e', e]

theorem Try.cells5' : Try.prog.cellsOf 5 = 1 := by kernel_rfl
theorem eql_arr (xs ys : List Nat) (hl : xs.length = 20) (hm : ys.length = 20) (w : World) :
    (binOp .eql 22 (.agg (cs xs)) (.agg (cs ys))).run Try.prog w = .ok (.bool (decide (xs = ys))) w := by
  obtain ⟨i5, hi5⟩ : ∃ i, Try.prog.info? 5 = some i := info_of_underlying Try.underlying5
  have h := run_equalIn_array (P := Try.prog) w 9999 (cs xs) (cs ys) Try.underlying22 hi5
  rw [Try.cells5', eq_items xs ys hl hm 9998 w (List.range 20) (fun i hi => by simpa using hi)] at h
  have e : ((List.range 20).all fun i => byt xs i == byt ys i) = decide (xs = ys) := by
    rw [Bool.eq_iff_iff]
    simp only [List.all_eq_true, List.mem_range, beq_iff_eq, decide_eq_true_eq]
    exact ⟨fun h => byt_ext xs ys hl hm h, fun h _ _ => by rw [h]⟩
  rw [e] at h
  simp only [binOp]
  simp [Op.equal, Op.maxDepth, h]
end Go.Proofs.Qxb6618598a
