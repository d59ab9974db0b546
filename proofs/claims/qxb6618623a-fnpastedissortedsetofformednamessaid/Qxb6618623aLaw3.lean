/-
  THE LAW's WALK: FnPastedIsSortedSetOfFormedNames.
-/
import Derived.Test.Qxb6618623aZSet
set_option linter.unusedSimpArgs false
set_option linter.unusedVariables false
namespace Go.Proofs.Qxb6618623a
open Go.RowKit Go.Maps Go.Sort Go.MapKept Plain

set_option maxHeartbeats 4000000 in
set_option maxRecDepth 20000 in
theorem law3_any (ad : Option Addr) (cap : Nat) (ns : List Str) (p s : Str) (hp : p.length ≤ maxLen) (hs : s.length ≤ maxLen) (w : World) (hv : Holding w ad ns) (hnil : ad = none → ns = [] ∧ cap = 0) (hn : ns.length ≤ maxLen) (hl : ∀ x ∈ ns, x.length ≤ maxLen) :
    Calls Try.prog 3 #[.slice ad ns.length cap, encStr p, encStr s] w fun e w' => e = .returned (.bool true) ∧ Below w.heap.size w w' := by
  obtain ⟨i0, hi, hz0, hz1, hz2⟩ := info_parts Try.info9
  have hby := hid (bytes2_any ad cap ns p s hp hs w hv hn hl)
  have htb := hid (tooBig_any ad cap ns p s hp hs w hv hn hl)
  replace hv := hid hv
  replace hl := hid hl
  have hps := hid hp
  have hss := hid hs
  replace hnil := hid hnil
  unfold maxLen at hp hs hn
  go_enter Try.func3, Try.ntmps3
  go_wp2_with (go_at_call 5; refine hby.out.mono ?_; rintro e w' ⟨⟨b1, rfl⟩, rfl⟩)
  all_goals try (go_ret; exact ⟨rfl, Below.refl _ _⟩)
  refine htb.out.mono ?_
  rintro e w' ⟨⟨b2, rfl⟩, rfl⟩
  clear hby htb
  cases b2 with
  | true =>
    go_wp2_with fail
    go_ret
    exact ⟨rfl, Below.refl _ _⟩
  | false =>
  have hnn := neq_slice
  have hlen : ns.length ≤ 65536 := by omega
  have hps2 : (p = [] ∧ s = []) ∨ p ≠ [] ∨ (p = [] ∧ s.isEmpty = false) := by
    by_cases h : p = []
    · cases hs : s with
      | nil => exact Or.inl ⟨h, rfl⟩
      | cons _ _ => exact Or.inr (Or.inr ⟨h, rfl⟩)
    · exact Or.inr (Or.inl h)
  cases ad with
  | none =>
    obtain ⟨hns, rfl⟩ := hnil.out rfl
    have hR2 : Hid (Reads w' (.slice none ns.length 0) ns) := Or.inl (by rw [hns]; exact ⟨rfl, rfl⟩)
    have hBw : Hid (Below w'.heap.size w' w') := Below.refl _ _
    clear hnil hns
    go_wp2_with fail
    generalize Value.slice none ns.length 0 = v0 at *
    have hc1 := hid (twice_any v0 ns p s hps.out hss.out w' hR2.out (by omega) hl.out)
    refine hc1.out.mono ?_
    rintro e w6 ⟨va, va2, rfl, hB6, hnil6, hset6⟩
    have hR6 := hid (hR2.out.kept hB6 (Nat.le_refl _))
    have hB8 := hid (hBw.out.trans (hB6.mono hBw.out.size))
    clear hc1 hR2 hBw hB6 hnn
    rcases hps2 with hne | hne
    · obtain ⟨rfl, rfl⟩ := hnil6 hne
      obtain ⟨rfl, rfl⟩ := hne
      have hen := eql_nil
      clear hset6 hnil6
      go_wp2
      go_ret
      exact ⟨rfl, hB8.out⟩
    · have hne' : ¬ (p = [] ∧ s = []) := by
        rintro ⟨rfl, rfl⟩
        rcases hne with h | ⟨_, h⟩
        · exact h rfl
        · cases h
      obtain ⟨rfl, r1, hR1, hI1⟩ := hset6 hne'
      have hc2 := hid (zzset_any v0 va ns r1 p s hps.out hss.out w6 hR6.out hR1 (by omega) hl.out hI1)
      have hc3 : Hid (∀ w7, Below w6.heap.size w6 w7 → Calls Try.prog 8 #[v0, encStr p, encStr s, va] w7 fun e w' => e = .returned (.bool true) ∧ Below w7.heap.size w7 w') := fun w7 hB =>
        zzset_any v0 va ns r1 p s hps.out hss.out w7 (hR6.out.kept hB (Nat.le_refl _)) (hR1.kept hB (Nat.le_refl _)) (by omega) hl.out hI1
      clear hset6 hnil6 hne' hR1 hI1 hp hs hn hlen
      rcases hne with hp0 | ⟨rfl, hs0⟩
      all_goals
        go_wp2_with fail
        refine hc2.out.mono ?_
        rintro e w7 ⟨rfl, hB7⟩
        have hc4 := hid (hc3.out w7 hB7)
        have hB9 := hid (hB8.out.trans (hB7.mono hB8.out.size))
        clear hc2 hc3 hB7 hB8
        go_wp2_with fail
        refine hc4.out.mono ?_
        rintro e w8 ⟨rfl, hB10⟩
        have hB11 := hid (hB9.out.trans (hB10.mono hB9.out.size))
        clear hB10 hB9 hc4
        go_wp2_with fail
        go_ret
        exact ⟨rfl, hB11.out⟩
  | some a =>
    go_wp2_with (first
      | (at_make; refine wpList_make_full _ rfl _ _ 22 rfl w'.heap.size 9 i0 (.string ⟨#[]⟩) 1 Try.underlying22 hi hz0 hz1 _ _ _ _ ns.length rfl rfl rfl rfl (by rw [hz2]; omega) (by unfold maxLen; omega) (Nat.le_refl _) ?_; intro w1 hrow1 hg1; obtain ⟨cur, hcur, hcl⟩ := made_row hrow1; replace hcur := hid hcur; have hB1 : Hid (Below w'.heap.size w' w1) := (Below.refl _ _).grown hg1 (Nat.le_refl _) (fun j hj => by cases hj); clear hrow1 hg1)
      | ((with_reducible refine wpList_copy_splice ?_ (.tmp 37) (.tmp 38) 22 22 ?_ 9 Try.underlying22 Try.size9 (some ⟨w'.heap.size, 0, none⟩) (some a) ns.length ns.length ns.length cap ?_ ?_ w'.heap.size 0 cur 9 ?_ (ns.map encStr) ?_ ?_ ?_ (enc_one ns) w'.heap.size w' ?_ ?_ ?_); exact rfl; exact rfl; exact rfl; exact rfl; exact hcur.out; exact (by simp); exact (fun h => ⟨rfl, src_pos hv.out hB1.out h⟩); exact (by simp; omega); exact hB1.out; exact Nat.le_refl _; intro w2 hrow2 hB2; have hR2 := hid (reads_row (cap := ns.length) hrow2.out (splice_get cur ns (by omega)) rfl); have hBw := hid hB2; clear hrow2 hcur hB1 hB2)
      | fail)
    generalize Value.slice (some ⟨w'.heap.size, 0, none⟩) ns.length ns.length = v0 at *
    have hc1 := hid (twice_any v0 ns p s hps.out hss.out w2 hR2.out (by omega) hl.out)
    refine hc1.out.mono ?_
    rintro e w6 ⟨va, va2, rfl, hB6, hnil6, hset6⟩
    have hR6 := hid (hR2.out.kept hB6 (Nat.le_refl _))
    have hB8 := hid (hBw.out.trans (hB6.mono hBw.out.size))
    clear hc1 hR2 hBw hB6 hnn hcl
    rcases hps2 with hne | hne
    · obtain ⟨rfl, rfl⟩ := hnil6 hne
      obtain ⟨rfl, rfl⟩ := hne
      have hen := eql_nil
      clear hset6 hnil6
      go_wp2
      go_ret
      exact ⟨rfl, hB8.out⟩
    · have hne' : ¬ (p = [] ∧ s = []) := by
        rintro ⟨rfl, rfl⟩
        rcases hne with h | ⟨_, h⟩
        · exact h rfl
        · cases h
      obtain ⟨rfl, r1, hR1, hI1⟩ := hset6 hne'
      have hc2 := hid (zzset_any v0 va ns r1 p s hps.out hss.out w6 hR6.out hR1 (by omega) hl.out hI1)
      have hc3 : Hid (∀ w7, Below w6.heap.size w6 w7 → Calls Try.prog 8 #[v0, encStr p, encStr s, va] w7 fun e w' => e = .returned (.bool true) ∧ Below w7.heap.size w7 w') := fun w7 hB =>
        zzset_any v0 va ns r1 p s hps.out hss.out w7 (hR6.out.kept hB (Nat.le_refl _)) (hR1.kept hB (Nat.le_refl _)) (by omega) hl.out hI1
      clear hset6 hnil6 hne' hR1 hI1 hp hs hn hlen
      rcases hne with hp0 | ⟨rfl, hs0⟩
      all_goals
        go_wp2_with fail
        refine hc2.out.mono ?_
        rintro e w7 ⟨rfl, hB7⟩
        have hc4 := hid (hc3.out w7 hB7)
        have hB9 := hid (hB8.out.trans (hB7.mono hB8.out.size))
        clear hc2 hc3 hB7 hB8
        go_wp2_with fail
        refine hc4.out.mono ?_
        rintro e w8 ⟨rfl, hB10⟩
        have hB11 := hid (hB9.out.trans (hB10.mono hB9.out.size))
        clear hB10 hB9 hc4
        go_wp2_with fail
        go_ret
        exact ⟨rfl, hB11.out⟩
end Go.Proofs.Qxb6618623a
