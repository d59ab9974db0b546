/-
  THE STATEMENT FnPastedTakesInTheFormedNameSaid, PROVED.
-/
import Derived.Test.Qxb6618623aLaw4
set_option linter.unusedVariables false
namespace Go.Proofs.Qxb6618623a
open Go.ChangeShapes Go.WideShapes Go.ChangeAt Go.RowKit Plain
open Go.ChangeMaps (open_string shut_string)

theorem Try.own : ownKnob Try.prog.godebug = none := by kernel_rfl

section
variable {H : Type} {enc : TypeId × Value → H} {W : World} {base : Nat}
set_option maxRecDepth 100000 in
theorem open_names {v : Value} {d : DataW H} {p : List MemPlace} (hv : Value.okWide Try.prog W .any base 22 v) (h : DataW.Trod enc Try.prog W 0 (fun _ => true) true 22 v d p) :
    ∃ (ad : Option Addr) (cap : Nat) (ns : List Str), v = .slice ad ns.length cap ∧ Holding W ad ns ∧ (ad = none → ns = [] ∧ cap = 0) ∧ ns.length ≤ maxLen ∧ ∀ x ∈ ns, x.length ≤ maxLen := by
  obtain ⟨a0, len, cap, rfl⟩ := okWide_slice Try.underlying22 hv
  obtain ⟨fuel, hf⟩ := h
  rcases open_strings Try.underlying22 Try.underlying9 Try.cells9 hf with ⟨hcs, hx⟩ | ⟨a, len', cap', ss, hcs, _, hl, hm, hz, hx, hcell, hsz⟩
  · simp [Value.cells] at hcs
    obtain ⟨rfl, rfl, rfl⟩ := hcs
    exact ⟨none, 0, [], rfl, fun h => absurd h (Nat.lt_irrefl 0), fun _ => ⟨rfl, rfl⟩, Nat.zero_le _, fun x hx => absurd hx List.not_mem_nil⟩
  · simp [Value.cells] at hcs
    obtain ⟨rfl, rfl, rfl⟩ := hcs
    simp only [if_true] at hz
    have hlen : ((ss.take len).map fun s => s.data.toList).length = len := by simp; omega
    have hH : Holding W (some a) ((ss.take len).map fun s => s.data.toList) := by
      intro hp
      have h0 := hcell 0 (by omega)
      have hspot : a.spot = none := by
        cases hs : a.spot with
        | none => rfl
        | some _ =>
          exfalso
          simp only [Addr.add, if_true, World.cell?] at h0
          split at h0
          · simp [hs] at h0
          · cases h0
      obtain ⟨b, off, sp⟩ := a
      simp only at hspot
      subst hspot
      refine ⟨b, off, rfl, fun j x hj => ?_⟩
      have hjl : j < len := by have := (List.getElem?_eq_some_iff.1 hj).1; omega
      rw [List.getElem?_map] at hj
      obtain ⟨s, hs, rfl⟩ := Option.map_eq_some_iff.1 hj
      rw [List.getElem?_take_of_lt hjl] at hs
      have := hcell j (by omega)
      rw [Addr.add_mid] at this
      rw [this]
      simp [List.getD, hs, encStr]
    refine ⟨some a, cap, (ss.take len).map fun s => s.data.toList, by rw [hlen], hH, (fun h => by cases h), by rw [hlen]; omega, ?_⟩
    intro x hx
    obtain ⟨s, hs, rfl⟩ := List.mem_map.1 hx
    exact hsz s (List.mem_of_mem_take hs)
set_option maxRecDepth 100000 in
theorem open_str {v : Value} {d : DataW H} {p : List MemPlace} (hv : Value.okWide Try.prog W .any base 9 v) (h : DataW.Trod enc Try.prog W 0 (fun _ => true) true 9 v d p) :
    ∃ x : Str, v = encStr x ∧ x.length ≤ maxLen := by
  obtain ⟨s, rfl, _, _, hs⟩ := open_string Try.underlying9 hv h
  exact ⟨s.data.toList, by simp [encStr], by simpa using hs⟩
end

set_option maxRecDepth 100000 in
theorem law4_lifted (os : Os) (started : os.Started) (H : Type) (enc : TypeId × Value → H) :
    ReturnsInHanded {} Try.checked os 4 .any (Rows.fnPastedTakesInTheFormedNameSpec.pre6 enc Try.prog Try.f4 Rows.fnPastedTakesInTheFormedNameRow.domain false) (Rows.fnPastedTakesInTheFormedNameSpec.post enc Try.prog Try.f4 false true false false) := by
  refine returnsInHanded_of_change (C := Try.checked) Try.own started (by kernel_rfl) Try.func4
    (ChangeSpec.witness6 (enc := enc) (C := Try.checked) false ⟨#[], #[.slice none 0 0, .string ⟨#[]⟩, .string ⟨#[]⟩], []⟩ 8 (by kernel_rfl) (by kernel_rfl) (by kernel_rfl) (by kernel_rfl)) ?_
  intro W base args ds gs before hval0 hW hcnd _
  have hval : ∀ (j : Nat) t v, Try.f4.params[j]? = some t → args[j]? = some v → Value.okWide Try.prog W .any base t v := hval0
  have hW' := hW
  obtain ⟨p, q, hA0, hV, rfl, hfz, hnd⟩ := hW
  have hA : DataW.TrodAll enc Try.prog W 0 (fun _ => true) true Try.f4.params.toList args.toList ds p := hA0
  rw [Try.params4] at hA hval
  obtain ⟨v0, vs0, d0, ds0, p0, q0, hargs, rfl, rfl, h0, r0⟩ := trodAll_cons hA
  obtain ⟨v1, vs1, d1, ds1, p1, q1, rfl, rfl, rfl, h1, r1⟩ := trodAll_cons r0
  obtain ⟨v2, vs2, d2, ds2, p2, q2, rfl, rfl, rfl, h2, r2⟩ := trodAll_cons r1
  obtain ⟨rfl, rfl, rfl⟩ := trodAll_nil r2
  obtain rfl : args = #[v0, v1, v2] := by cases args; simp_all
  obtain ⟨rfl, rfl⟩ := trodVars_none hV
  obtain ⟨ad, cap, ns, rfl, hv, hnil, hn, hl⟩ := open_names (hval 0 22 v0 rfl rfl) h0
  obtain ⟨x1, rfl, hx1⟩ := open_str (hval 1 9 v1 rfl rfl) h1
  obtain ⟨x2, rfl, hx2⟩ := open_str (hval 2 9 v2 rfl rfl) h2
  clear hA0 hval0
  simp only [List.append_nil] at hW'
  have hlt : ∀ x ∈ p0 ++ (p1 ++ p2), x.block < W.heap.size := fun x hx => hW'.lt x (by simpa using hx)
  refine (law4_any ad cap ns x1 x2 hx1 hx2 W hv hnil hn hl).mono fun e W' ⟨he, hg⟩ => ?_
  subst he
  refine ⟨_, rfl, _, _, _, [], p0 ++ (p1 ++ (p2 ++ [])), [], hW', trodAll_cons_mk (shut_bool Try.underlying4 _) trodAll_mk0, ?_, rfl, hg.frame _, fun h => by cases h⟩
  exact trodAll_cons_mk (Below.trod Try.laidOut (by kernel_rfl) (of_decide_eq_true (by kernel_rfl)) h0 hg (fun x hx => hlt x (by simp [hx])))
    (trodAll_cons_mk (Below.trod Try.laidOut (by kernel_rfl) (of_decide_eq_true (by kernel_rfl)) h1 hg (fun x hx => hlt x (by simp [hx])))
      (trodAll_cons_mk (Below.trod Try.laidOut (by kernel_rfl) (of_decide_eq_true (by kernel_rfl)) h2 hg (fun x hx => hlt x (by simp [hx]))) trodAll_mk0))

/-- ████ THE STATEMENT ████ -/
theorem pastedTakesInTheFormedName : Rows.FnPastedTakesInTheFormedNameSaid :=
  OpenClaim.holds_of_wide 4 Try.f4 rfl rfl rfl rfl rfl rfl rfl ⟨rfl, rfl, rfl, rfl, rfl⟩ rfl rfl rfl rfl rfl (by kernel_rfl) Try.func4 (by kernel_rfl)
    (of_decide_eq_true (by kernel_rfl)) (by unfold Func.isWrapper; first | (rw [if_pos (by decide +kernel)]; kernel_rfl) | (rw [if_neg (by decide +kernel)]; exact ⟨rfl, rfl⟩))
    (fun os started H enc _ => law4_lifted os started H enc)
#print axioms pastedTakesInTheFormedName
end Go.Proofs.Qxb6618623a
