/-
  AN ARRAY OF TWENTY BYTES THAT CAME IN, OPENED: it is 'cs xs', and no memory is met in reading it.
-/
import Derived.Test.Qxb6618598aWalks
namespace Go.Proofs.Qxb6618598a
open Go.ChangeShapes Go.WideShapes Go.ChangeAt Go.RowKit Plain

theorem Try.own : ownKnob Try.prog.godebug = none := by kernel_rfl
theorem Try.laidOut : laidOutB Try.prog = true := by kernel_rfl
theorem Try.cells22 : Try.prog.cellsOf 22 = 20 := by kernel_rfl
theorem Try.cells5 : Try.prog.cellsOf 5 = 1 := by kernel_rfl
theorem byte_of_wf {x : Int} (h : (Lit.int .u8 x).wf = true) : 0 ≤ x ∧ x < 256 := by
  simp [Lit.wf, IntKind.min, IntKind.max, IntKind.signed, IntKind.bits] at h
  omega

def byteOf : Value → Nat
  | .int _ x => x.toNat
  | _ => 0

section
variable {H : Type} {enc : TypeId × Value → H} {W : World} {base : Nat}
theorem open_arr {v : Value} {d : DataW H} {p : List MemPlace} (hv : Value.okWide Try.prog W .any base 22 v)
    (h : DataW.Trod enc Try.prog W 0 (fun _ => true) true 22 v d p) : ∃ xs : List Nat, v = .agg (cs xs) ∧ p = [] ∧ xs.length = 20 ∧ ∀ x ∈ xs, x < 256 := by
  obtain ⟨c, rfl, hsz, _⟩ : ∃ c, v = .agg c ∧ c.size = Try.prog.cellsOf 22 ∧ Row.okWide Try.prog W .any base 22 c := by
    simpa [Value.okWide, Try.underlying22] using hv
  rw [Try.cells22] at hsz
  obtain ⟨fuel, hf⟩ := h
  obtain ⟨ys, m, _, hx, _, hl, hel⟩ := DataW.trod_array Try.underlying22 hf
  rw [Try.cells5] at hel
  have hall : ∀ i (hi : i < 20), ∃ x : Int, c[i]? = some (.int .u8 x) ∧ (0 ≤ x ∧ x < 256) ∧ (ys[i]'(by omega)).2 = [] := by
    intro i hi
    have h1 := hel i hi
    rw [List.getElem?_eq_getElem (by omega)] at h1
    obtain ⟨x, e1, e2, wf⟩ := DataW.trod_int Try.underlying5 h1
    refine ⟨x, ?_, byte_of_wf wf, by rw [e2]⟩
    have hi' : i < c.toList.length := by simp; omega
    rw [show (Value.agg c).cells = c from rfl, Nat.mul_one, List.drop_eq_getElem_cons hi'] at e1
    simp at e1
    rw [Array.getElem?_eq_getElem (by omega), e1]
  have hp : p = [] := by
    have : p = ys.flatMap (·.2) := by injection hx
    rw [this, List.flatMap_eq_nil_iff]
    intro y hy
    obtain ⟨i, hi, rfl⟩ := List.getElem_of_mem hy
    exact (hall i (by omega)).choose_spec.2.2
  refine ⟨c.toList.map byteOf, ?_, hp, by simp [hsz], ?_⟩
  · congr 1
    apply Array.ext_getElem?
    intro i
    by_cases hi : i < 20
    · obtain ⟨x, e, hb, _⟩ := hall i hi
      simp only [cs, List.map_map, List.getElem?_toArray, List.getElem?_map, Array.getElem?_toList, e, Option.map_some, Function.comp, byteOf]
      rw [Int.toNat_of_nonneg hb.1]
    · simp [cs, Array.getElem?_eq_none (show c.size ≤ i by omega)]
  · intro x hx
    obtain ⟨v, hv, rfl⟩ := List.mem_map.1 hx
    obtain ⟨i, hi, rfl⟩ := List.getElem_of_mem hv
    obtain ⟨y, e, hb, _⟩ := hall i (by simp at hi; omega)
    have : c.toList[i] = .int .u8 y := by
      simp at hi
      rw [Array.getElem?_eq_getElem hi] at e
      simpa using e
    rw [this]
    simp only [byteOf]
    omega

/-- The array reads in any world as it read. -/
theorem shut_arr {v : Value} {d : DataW H} {W' : World} (h : DataW.Trod enc Try.prog W 0 (fun _ => true) true 22 v d []) (sp : Nat → Bool) :
    DataW.Trod enc Try.prog W' 0 sp true 22 v d [] :=
  WideElems.Trod_stays Try.laidOut (by kernel_rfl) (of_decide_eq_true (by kernel_rfl)) h (fun _ hx => absurd hx List.not_mem_nil) (fun _ hx => absurd hx List.not_mem_nil)
end
end Go.Proofs.Qxb6618598a
