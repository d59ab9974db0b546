/-
  THE PLAIN LAWS of the seat: lists of strings (lists of bytes), strictly ascending; the set of formed names. No Go in sight.
-/
import Derived.Lib.Strings
namespace Go.Proofs.Qxb6618623a.Plain
open Go

/-- A string, as its bytes. -/
abbrev Str := List UInt8

/-- The paste forms the name. -/
def formed (p s x : Str) : Bool := Lib.hasPrefix x p && Lib.hasSuffix x s
/-- r is the set of the names of ns that the paste forms, strictly ascending. -/
def IsSet (ns : List Str) (p s : Str) (r : List Str) : Prop := r.Pairwise (· < ·) ∧ ∀ x, x ∈ r ↔ x ∈ ns ∧ formed p s x = true

theorem formed_join (p s : Str) : formed p s (p ++ s) = true := by
  simp [formed, Lib.hasPrefix, Lib.hasSuffix, List.isPrefixOf_iff_prefix, List.isSuffixOf_iff_suffix]

/-- Two strictly ascending lists with the same members are one. -/
theorem asc_unique : ∀ (l1 l2 : List Str), l1.Pairwise (· < ·) → l2.Pairwise (· < ·) → (∀ x, x ∈ l1 ↔ x ∈ l2) → l1 = l2
  | [], [], _, _, _ => rfl
  | [], b :: l2, _, _, h => by have := (h b).2 (by simp); simp at this
  | a :: l1, [], _, _, h => by have := (h a).1 (by simp); simp at this
  | a :: l1, b :: l2, h1, h2, h => by
    obtain ⟨a1, p1⟩ := List.pairwise_cons.1 h1
    obtain ⟨b1, p2⟩ := List.pairwise_cons.1 h2
    have hab : a = b := by
      rcases List.mem_cons.1 ((h a).1 (by simp)) with e | ha
      · exact e
      rcases List.mem_cons.1 ((h b).2 (by simp)) with e | hb
      · exact e.symm
      exact absurd (List.lt_trans (b1 a ha) (a1 b hb)) (List.lt_irrefl b)
    subst hab
    have ht : ∀ x, x ∈ l1 ↔ x ∈ l2 := by
      intro x
      constructor
      · intro hx
        rcases List.mem_cons.1 ((h x).1 (by simp [hx])) with e | hx'
        · subst e; exact absurd (a1 x hx) (List.lt_irrefl x)
        · exact hx'
      · intro hx
        rcases List.mem_cons.1 ((h x).2 (by simp [hx])) with e | hx'
        · subst e; exact absurd (b1 x hx) (List.lt_irrefl x)
        · exact hx'
    rw [asc_unique l1 l2 p1 p2 ht]

/-- The formed name was there already: the answer stays. -/
theorem takes_same {ns : List Str} {p s : Str} {r1 r2 : List Str} (h1 : IsSet ns p s r1) (h2 : IsSet (ns ++ [p ++ s]) p s r2) (hin : p ++ s ∈ r1) : r1 = r2 := by
  refine asc_unique r1 r2 h1.1 h2.1 fun x => ?_
  rw [h1.2 x, h2.2 x]
  have hw := ((h1.2 _).1 hin).1
  constructor
  · rintro ⟨a, b⟩; exact ⟨by simp [a], b⟩
  · rintro ⟨a, b⟩
    refine ⟨?_, b⟩
    rcases List.mem_append.1 a with a | a
    · exact a
    · simp at a; rw [a]; exact hw

/-- It was not: the answer has it in its place. -/
theorem takes_new {ns : List Str} {p s : Str} {r1 r2 : List Str} (h1 : IsSet ns p s r1) (h2 : IsSet (ns ++ [p ++ s]) p s r2) (hin : p ++ s ∉ r1) :
    ∃ l1 l2, r2 = l1 ++ (p ++ s) :: l2 ∧ r1 = l1 ++ l2 ∧ p ++ s ∉ l1 := by
  have hw : p ++ s ∈ r2 := (h2.2 _).2 ⟨by simp, formed_join p s⟩
  obtain ⟨l1, l2, e⟩ := List.append_of_mem hw
  have hp := h2.1
  rw [e] at hp
  obtain ⟨q1, q2, q3⟩ := List.pairwise_append.1 hp
  obtain ⟨q4, q5⟩ := List.pairwise_cons.1 q2
  have n1 : p ++ s ∉ l1 := fun hx => absurd (q3 _ hx _ (by simp)) (List.lt_irrefl _)
  have n2 : p ++ s ∉ l2 := fun hx => absurd (q4 _ hx) (List.lt_irrefl _)
  refine ⟨l1, l2, e, ?_, n1⟩
  refine asc_unique r1 (l1 ++ l2) h1.1 (List.pairwise_append.2 ⟨q1, q5, fun a ha b hb => q3 a ha b (by simp [hb])⟩) fun x => ?_
  have m2 := h2.2 x
  rw [e] at m2
  rw [h1.2 x]
  constructor
  · rintro ⟨a, b⟩
    have := m2.2 ⟨by simp [a], b⟩
    simp only [List.mem_append, List.mem_cons] at this ⊢
    rcases this with c | c | c
    · exact Or.inl c
    · exfalso
      have hx : x ∈ r1 := (h1.2 x).2 ⟨a, b⟩
      rw [c] at hx
      exact hin hx
    · exact Or.inr c
  · intro hx
    have hx2 : x ∈ l1 ++ (p ++ s) :: l2 := by simp only [List.mem_append, List.mem_cons] at hx ⊢; rcases hx with c | c; exact Or.inl c; exact Or.inr (Or.inr c)
    obtain ⟨a, b⟩ := m2.1 hx2
    refine ⟨?_, b⟩
    rcases List.mem_append.1 a with a | a
    · exact a
    · simp at a
      subst a
      rcases List.mem_append.1 hx with c | c
      · exact absurd c n1
      · exact absurd c n2

/-- Sorted and no name twice: strictly ascending. -/
theorem asc_of_sorted {l : List Str} (hn : l.Nodup) (hs : l.Pairwise (· ≤ ·)) : l.Pairwise (· < ·) := by
  refine List.pairwise_iff_getElem.2 fun i j hi hj hij => ?_
  have h1 := List.pairwise_iff_getElem.1 hs i j hi hj hij
  have h2 := List.pairwise_iff_getElem.1 hn i j hi hj hij
  rcases List.le_iff_lt_or_eq.1 h1 with h | h
  · exact h
  · exact absurd h h2
theorem asc_mergeSort {l : List Str} (hn : l.Nodup) : (l.mergeSort fun x y => decide (x ≤ y)).Pairwise (· < ·) := by
  refine asc_of_sorted ((List.mergeSort_perm l _).nodup_iff.2 hn) ?_
  have := List.pairwise_mergeSort (le := fun x y : Str => decide (x ≤ y)) (fun a b c h1 h2 => by simp only [decide_eq_true_eq] at *; exact List.le_trans h1 h2) (fun a b => by simp only [Bool.or_eq_true, decide_eq_true_eq]; exact List.le_total a b) l
  refine List.pairwise_iff_getElem.2 fun i j hi hj hij => ?_
  have h := List.pairwise_iff_getElem.1 this i j hi hj hij
  simpa using h

/-- A list without repeats inside another is no longer. -/
theorem nodup_length : ∀ (l m : List Str), l.Nodup → (∀ x ∈ l, x ∈ m) → l.length ≤ m.length
  | [], _, _, _ => Nat.zero_le _
  | a :: l, m, hn, h => by
    obtain ⟨h1, h2⟩ := List.nodup_cons.1 hn
    obtain ⟨m1, m2, e⟩ := List.append_of_mem (h a (by simp))
    have := nodup_length l (m1 ++ m2) h2 fun x hx => by
      have hm := h x (by simp [hx])
      rw [e] at hm
      have hne : x ≠ a := fun e => h1 (e ▸ hx)
      simp only [List.mem_append, List.mem_cons] at hm ⊢
      rcases hm with c | c | c
      · exact Or.inl c
      · exact absurd c hne
      · exact Or.inr c
    rw [e]
    simp at this ⊢
    omega
theorem isSet_length {ns : List Str} {p s : Str} {r : List Str} (h : IsSet ns p s r) : r.length ≤ ns.length :=
  nodup_length r ns (List.pairwise_iff_getElem.2 fun i j hi hj hij e => by
    have hl := List.pairwise_iff_getElem.1 h.1 i j hi hj hij
    rw [e] at hl
    exact List.lt_irrefl _ hl) fun x hx => ((h.2 x).1 hx).1
end Go.Proofs.Qxb6618623a.Plain
