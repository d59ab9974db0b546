/-
  THE TOLD CARD FnHoldWithinJitterToldSaid, PROVED.
-/
import Derived.Test.Qxb6618934aFmtLaw4
import Derived.Test.Qxb6618934aFmtProof3
set_option linter.unusedVariables false
namespace Go.Proofs.Qxb6618934aFmt
open Go.ChangeShapes Go.WideShapes Go.ChangeAt Go.RowKit
open Go.Extern.Stop Go.Stop Go.Extern
open Go.ChangeMaps (open_string shut_string)

set_option maxRecDepth 100000 in
theorem law4_lifted (os : Os) (started : os.Started) (H : Type) (enc : TypeId × Value → H) :
    ReturnsInTold none {} Tryf.checked os 4 .any Input.okWide ((OpenSpec.ofChange Rows.fnHoldWithinJitterSpec).preRow enc Tryf.prog Tryf.f4 [] false []) (fun F => ((OpenSpec.ofChange Rows.fnHoldWithinJitterSpec).at F).post enc Tryf.prog Tryf.f4 false true false false) (aloneAtReturn Tryf.prog) nothingAlways := by
  refine returnsInTold_of_row (C := Tryf.checked) (s := OpenSpec.ofChange Rows.fnHoldWithinJitterSpec) (by kernel_rfl) Tryf.own started (by kernel_rfl) Tryf.func4
    (OpenSpec.witness_stopped (enc := enc) (C := Tryf.checked) false ⟨#[], #[.string ⟨#[]⟩, .string ⟨#[]⟩, .int .i64 0, .int .i64 0], []⟩ 8 (by kernel_rfl) (by kernel_rfl) (by kernel_rfl) (by kernel_rfl)) ?_
  intro F W base args ds gs before _ hF hval0 hW _ _ _ _ _
  have hval : ∀ (j : Nat) t v, Tryf.f4.params[j]? = some t → args[j]? = some v → Value.okWide Tryf.prog W .any base t v := hval0
  have hW' := hW
  obtain ⟨p, q, hA0, hV, rfl, hfz, hnd⟩ := hW
  have hA : DataW.TrodAll enc Tryf.prog W 0 (fun _ => true) true Tryf.f4.params.toList args.toList ds p := hA0
  rw [Tryf.params4] at hA hval
  obtain ⟨v0, vs0, d0, ds0, p0, q0, hargs, rfl, rfl, h0, r0⟩ := trodAll_cons hA
  obtain ⟨v1, vs1, d1, ds1, p1, q1, rfl, rfl, rfl, h1, r1⟩ := trodAll_cons r0
  obtain ⟨v2, vs2, d2, ds2, p2, q2, rfl, rfl, rfl, h2, r2⟩ := trodAll_cons r1
  obtain ⟨v3, vs3, d3, ds3, p3, q3, rfl, rfl, rfl, h3, r3⟩ := trodAll_cons r2
  obtain ⟨rfl, rfl, rfl⟩ := trodAll_nil r3
  obtain rfl : args = #[v0, v1, v2, v3] := by cases args; simp_all
  obtain ⟨rfl, rfl⟩ := trodVars_none hV
  obtain ⟨x, rfl, _, _, hx⟩ := open_string Tryf.underlying9 (hval 0 9 v0 rfl rfl) h0
  obtain ⟨y, rfl, _, _, hy⟩ := open_string Tryf.underlying9 (hval 1 9 v1 rfl rfl) h1
  obtain ⟨d, rfl, rfl, rfl, wd⟩ := open_int Tryf.underlying2 (hval 2 2 v2 rfl rfl) h2
  obtain ⟨j, rfl, rfl, rfl, wj⟩ := open_int Tryf.underlying2 (hval 3 2 v3 rfl rfl) h3
  clear hA0 hval0
  simp only [List.append_nil] at hW'
  have hlt : ∀ x ∈ p0 ++ (p1 ++ []), x.block < W.heap.size := fun x hx => hW'.lt x (by simpa using hx)
  refine (law4_any x y hx hy d j W).mono fun e W' ⟨he, hg⟩ => ?_
  subst he
  refine ⟨_, rfl, _, _, _, [], p0 ++ (p1 ++ ([] ++ ([] ++ []))), [], hW', trodAll_cons_mk (shut_bool Tryf.underlying4 _) trodAll_mk0, ?_, rfl, hg.frame _, fun h => by cases h⟩
  exact trodAll_cons_mk (Below.trod Tryf.laidOut (by kernel_rfl) (of_decide_eq_true (by kernel_rfl)) h0 hg (fun x hx => hlt x (by simp [hx])))
    (trodAll_cons_mk (Below.trod Tryf.laidOut (by kernel_rfl) (of_decide_eq_true (by kernel_rfl)) h1 hg (fun x hx => hlt x (by simp [hx])))
      (trodAll_cons_mk (shut_int Tryf.underlying2 wd) (trodAll_cons_mk (shut_int Tryf.underlying2 wj) trodAll_mk0)))

/-- ████ THE STATEMENT ████ -/
theorem holdWithinJitter : Rows.FnHoldWithinJitterToldSaid :=
  Claim7.holds_of_told_any 4 Tryf.f4 "fmt.Sprintf" [] [] _ _ _ (by kernel_rfl) rfl rfl rfl Tryf.laidOut (by kernel_rfl) rfl ⟨rfl, rfl, rfl, rfl, rfl, rfl, rfl⟩ rfl rfl (by kernel_rfl) (by kernel_rfl) Tryf.func4 (by kernel_rfl)
    (of_decide_eq_true (by kernel_rfl)) (by unfold Func.isWrapper; first | (rw [if_pos (by decide +kernel)]; kernel_rfl) | (rw [if_neg (by decide +kernel)]; exact ⟨rfl, rfl⟩)) Tryf.stops.symm rfl Tryf.stopKnobs.symm (by kernel_rfl)
    (by kernel_rfl) (by kernel_rfl) (by kernel_rfl) (by kernel_rfl) (by kernel_rfl) (by kernel_rfl) (by kernel_rfl) (by kernel_rfl) (by kernel_rfl) rfl (by kernel_rfl) rfl rfl
    rfl rfl
    rfl (by kernel_rfl) (by kernel_rfl) (by kernel_rfl) (by decide) (by kernel_rfl)
    (OpenClaim.moreEntering_of (by kernel_rfl) (by kernel_rfl) (by kernel_rfl) (by kernel_rfl) (by kernel_rfl) (by kernel_rfl) (by kernel_rfl) (by kernel_rfl) (by kernel_rfl) (by kernel_rfl))
    ⟨_, WideRow.started_initial, Tryf.quiet _⟩
    (fun os started _ H enc _ => law4_lifted os started H enc)
#print axioms holdWithinJitter
end Go.Proofs.Qxb6618934aFmt
