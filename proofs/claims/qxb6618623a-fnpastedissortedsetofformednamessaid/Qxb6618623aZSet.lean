/-
  THE WALK of zzIsFormedSet.
-/
import Derived.Test.Qxb6618623aZForms
set_option linter.unusedSimpArgs false
set_option linter.unusedVariables false
namespace Go.Proofs.Qxb6618623a
open Go.RowKit Go.Maps Go.Sort Go.MapKept Plain

theorem Try.info4 : (Try.prog.info? 4).map (fun i => (i.zero, i.size, i.bytes)) = some (some (.bool false), 1, 1) := by kernel_rfl

/-- The seen marks, as they lie. -/
def Marks (w : World) (g : Nat) (bs : List Bool) : Prop := w.heap[g]? = some (.cells (bs.map Value.bool).toArray 4 (0, 0))
theorem Marks.cell {w : World} {g : Nat} {bs : List Bool} (h : Marks w g bs) (j : Nat) (hj : j < bs.length) : w.cell? ⟨g, j, none⟩ = some (.bool bs[j]) := by
  rw [cell_of_row _ _ _ _ _ _ h]; simp [hj]
theorem Marks.frozen {w : World} {g : Nat} {bs : List Bool} (h : Marks w g bs) (j : Nat) : w.frozen? ⟨g, j, none⟩ = false := by
  have h' : w.heap[g]? = some (.cells (bs.map Value.bool).toArray 4 (0, 0)) := h
  simp [World.frozen?, h']
theorem Marks.set {w : World} {g : Nat} {bs : List Bool} (h : Marks w g bs) (j : Nat) (b : Bool) : Marks (w.setCell ⟨g, j, none⟩ (.bool b)) g (bs.set j b) := by
  unfold Marks
  rw [setCell_eq_setRow w g j _ 4 (0, 0) (.bool b) h, setRow_heap w g _ _ 4 (0, 0) h]
  simp [List.map_set]
theorem marks_made {w : World} {base g n : Nat} (h : w.ownsRow base 4 1 (.slice (some ⟨g, 0, none⟩) n n) n (madeCells (Value.bool false).cells (n * 1)).toList) : Marks w g (List.replicate n false) := by
  rcases h.2 with ⟨h, _⟩ | ⟨g', cap, cur, e, _, hb, _, _, h3, h4⟩
  · cases h
  · cases e
    unfold Marks
    rw [hb]
    have : cur = ((List.replicate n false).map Value.bool).toArray := by
      rw [List.take_of_length_le (by simp; omega)] at h4
      apply Array.ext'
      rw [h4, show (Value.bool false).cells = #[Value.bool false] from rfl, toList_madeCells_one]
      simp
    rw [this]

set_option maxHeartbeats 4000000 in
set_option maxRecDepth 20000 in
theorem zzset_any (v0 vr : Value) (ns r : List Str) (p s : Str) (hp : p.length ≤ maxLen) (hs : s.length ≤ maxLen) (w : World) (hv0 : Reads w v0 ns) (hvr : Reads w vr r) (hn : ns.length ≤ 70000) (hl : ∀ x ∈ ns, x.length ≤ maxLen) (hI : IsSet ns p s r) :
    Calls Try.prog 8 #[v0, encStr p, encStr s, vr] w fun e w' => e = .returned (.bool true) ∧ Below w.heap.size w w' := by
  obtain ⟨i0, hi, hz0, hz1, hz2⟩ := info_parts Try.info4
  have hrn := isSet_length hI
  have hlr : ∀ x ∈ r, x.length ≤ maxLen := fun x hx => hl x ((hI.2 x).1 hx).1
  obtain ⟨ad1, cap1, rfl, h1⟩ := hv0.shape
  obtain ⟨ad2, cap2, rfl, h2⟩ := hvr.shape
  have hb1 : (ns.length : Int) ≤ 70000 := by omega
  have hb2 : (r.length : Int) ≤ (ns.length : Int) := by omega
  have hasc := hid hI.1
  have hmem := hid hI.2
  have hfr : Hid (∀ x ∈ r, formed p s x = true) := fun x hx => ((hI.2 x).1 hx).2
  have hcalls : Hid (∀ (x : Str) (W : World), x.length ≤ maxLen → Calls Try.prog 12 #[encStr p, encStr s, encStr x] W fun e w' => e = .returned (.bool (formed p s x)) ∧ ∃ n, w' = W.drewN n) := fun x W hx => zzforms_any p s x hp hs hx W
  replace h1 := hid h1
  replace h2 := hid h2
  replace hl := hid hl
  replace hlr := hid hlr
  replace hvr := hid hvr
  clear hI hv0 hp hs
  have hng : ¬ ((ns.length : Int) < (r.length : Int)) := by omega
  go_enter Try.func8, Try.ntmps8
  go_wp2
  -- strictly ascending
  go_loopw [9] (fun i wr => ∃ m n : Nat, i = .int .i64 ((m + 1 : Nat) : Int) ∧ m ≤ r.length ∧ wr = w.drewN n) (fun i _ => r.length + 1 - (intOf i).toNat)
  case atStart => exact ⟨0, 0, rfl, Nat.zero_le _, rfl⟩
  case round =>
    obtain ⟨m, n, rfl, hm, rfl⟩ := hrel
    by_cases hlt : m + 1 < r.length
    · obtain ⟨g2, rfl, _, hc⟩ := h2.out (by omega)
      have e1 := hc m _ (List.getElem?_eq_getElem (by omega))
      have e2 := hc (m + 1) _ (List.getElem?_eq_getElem hlt)
      have hxy := List.pairwise_iff_getElem.1 hasc.out m (m + 1) (by omega) hlt (Nat.lt_succ_self _)
      have hlt' : (m : Int) + 1 < (r.length : Int) := by omega
      generalize r[m] = x at e1 hxy
      generalize r[m + 1] = z at e2 hxy
      have hbl : Op.bytesLess x z = true := by rw [bytes_lt]; simpa using hxy
      clear hc hxy
      go_wp2
      go_quiet (fail)
      go_wp2
      go_roundw
      case rel => exact ⟨m + 1, _, by go_num, by omega, rfl⟩
      case measure => simp [intOf]; omega
    · clear hm
      have hlt' : ¬ ((m : Int) + 1 < (r.length : Int)) := by omega
      go_wp2
      clear hlt hlt'
      -- each is formed
      go_loopw [10] (fun i wr => ∃ k n : Nat, k ≤ r.length ∧ i = .int .i64 k ∧ wr = w.drewN n) (fun i _ => r.length - (intOf i).toNat)
      case atStart => exact ⟨0, n, Nat.zero_le _, rfl, rfl⟩
      case round =>
        obtain ⟨k, n, hk, rfl, rfl⟩ := hrel
        by_cases hlt : k < r.length
        · obtain ⟨g2, rfl, _, hc⟩ := h2.out (by omega)
          have e1 := hc k _ (List.getElem?_eq_getElem hlt)
          have hlt' : (k : Int) < (r.length : Int) := by omega
          have hff := hfr.out _ (List.getElem_mem hlt)
          have hxl := hlr.out _ (List.getElem_mem hlt)
          generalize r[k] = x at e1 hff hxl
          have hcx := hid (fun W => hcalls.out x W hxl)
          rw [hff] at hcx
          clear hc hxl hff
          go_wp2_with (go_at_call 12; refine (hcx.out _).mono ?_; rintro e w' ⟨rfl, n9, rfl⟩)
          go_roundw
          case rel => exact ⟨k + 1, n + n9, by omega, by go_num, by first | rfl | exact World.drewN_drewN _ _ _⟩
          case measure => simp [intOf]; omega
        · have hke : k = r.length := by omega
          subst hke
          have hlt' : ¬ ((r.length : Int) < (r.length : Int)) := by omega
          clear hlt hk
          go_wp2_with (first
            | (at_make; refine wpList_make_full _ rfl _ _ 67 rfl w.heap.size 4 i0 (.bool false) 1 Try.underlying67 hi hz0 hz1 _ _ _ _ r.length rfl rfl rfl rfl (by rw [hz2]; omega) (by unfold maxLen; omega) (Nat.le_refl _) ?_; intro w1 hrow1 hg1)
            | fail)
          have hM1 := hid (marks_made hrow1)
          have hB1 : Hid (Below w.heap.size w w1) := ⟨hg1.os, hg1.tape, hg1.output, hg1.size, fun k hk => hg1.block k hk (by simp)⟩
          clear hrow1 hg1 hlt' hfr hlr
          -- each formed name is met
          go_loopw [12] (fun i wr => ∃ (k : Nat) (bs : List Bool), k ≤ ns.length ∧ i = .int .i64 k ∧ Hid (Marks wr w.heap.size bs) ∧ Hid (bs.length = r.length) ∧ Hid (∀ (j : Nat) (x : Str), r[j]? = some x → x ∈ ns.take k → bs[j]? = some true) ∧ Hid (Below w.heap.size w wr)) (fun i _ => ns.length - (intOf i).toNat)
          case atStart => exact ⟨0, _, Nat.zero_le _, rfl, hM1, hid (by simp), (fun j x _ hx => by simp at hx), hB1⟩
          case round =>
            obtain ⟨k, bs, hk, rfl, hM, hbl, hS, hB⟩ := hrel
            by_cases hlt : k < ns.length
            · obtain ⟨g1, rfl, hg1, hc⟩ := h1.out (by omega)
              have e1 : wr.cell? ⟨g1, k, none⟩ = some (encStr ns[k]) := (hB.out.cell (p := ⟨g1, k, none⟩) hg1).trans (hc k _ (List.getElem?_eq_getElem hlt))
              have hlt' : (k : Int) < (ns.length : Int) := by omega
              have hxl := hl.out _ (List.getElem_mem hlt)
              have hxin : ns[k] ∈ ns := List.getElem_mem hlt
              have hS1 : ∀ y, y ∈ ns.take (k + 1) → y ∈ ns.take k ∨ y = ns[k] := fun y hy => by
                rw [List.take_succ_eq_append_getElem hlt] at hy
                rcases List.mem_append.1 hy with h | h
                · exact Or.inl h
                · exact Or.inr (List.mem_singleton.1 h)
              generalize ns[k] = x at e1 hxl hxin hS1
              have hcx := hid (fun W => hcalls.out x W hxl)
              replace hS1 := hid hS1
              clear hc hxl
              by_cases hf : formed p s x = true
              · rw [hf] at hcx
                have hxr := (hmem.out x).2 ⟨hxin, hf⟩
                obtain ⟨jx, hjx⟩ := List.getElem?_of_mem hxr
                have hjl := (List.getElem?_eq_some_iff.1 hjx).1
                have hjl' : (jx : Int) < (r.length : Int) := by omega
                have hfind : Hid (∀ n, Calls Try.prog 13 #[.slice ad2 r.length cap2, encStr x] (wr.drewN n) fun e w' => e = .returned (.int .i64 jx) ∧ w' = wr.drewN n) := fun n =>
                  find_any _ r x _ (hvr.out.kept (Below.ofDrewN hB.out n) (Nat.le_refl _)) (by omega) hasc.out jx hjx
                have hcj := hM.out.cell jx (by have := hbl.out; omega)
                have hfj := hM.out.frozen jx
                have hS' : Hid (∀ (j : Nat) (y : Str), r[j]? = some y → y ∈ ns.take (k + 1) → (bs.set jx true)[j]? = some true) := fun j y hj hy => by
                  by_cases e : j = jx
                  · subst e; rw [List.getElem?_set_self (by have := hbl.out; omega)]
                  · rw [List.getElem?_set_ne (Ne.symm e)]
                    rcases hS1.out y hy with h | h
                    · exact hS.out j y hj h
                    · subst h
                      exfalso
                      have h1 := (List.getElem?_eq_some_iff.1 hj)
                      have h2 := (List.getElem?_eq_some_iff.1 hjx)
                      obtain ⟨a1, a2⟩ := h1
                      obtain ⟨b1, b2⟩ := h2
                      have hh := List.pairwise_iff_getElem.1 hasc.out
                      rcases Nat.lt_or_gt_of_ne e with h | h
                      · have := hh j jx a1 b1 h; rw [a2, b2] at this; exact List.lt_irrefl _ this
                      · have := hh jx j b1 a1 h; rw [a2, b2] at this; exact List.lt_irrefl _ this
                replace hjx := hid hjx
                clear hf hxin hxr
                go_wp2_with (first
                  | (go_at_call 12; refine (hcx.out _).mono ?_; rintro e w' ⟨rfl, n9, rfl⟩)
                  | (go_at_call 13; refine (hfind.out _).mono ?_; rintro e w' ⟨rfl, rfl⟩))
                go_roundw
                case rel => exact ⟨k + 1, bs.set jx true, by omega, by go_num, Marks.set (w := wr.drewN n9) hM.out jx true, hid (by simpa using hbl.out), hS', (Below.ofDrewN hB.out n9).setCell (Nat.le_refl _) _⟩
                case measure => simp [intOf]; omega
              · have hf' : formed p s x = false := by simpa using hf
                rw [hf'] at hcx
                have hS' : Hid (∀ (j : Nat) (y : Str), r[j]? = some y → y ∈ ns.take (k + 1) → bs[j]? = some true) := fun j y hj hy => by
                  rcases hS1.out y hy with h | h
                  · exact hS.out j y hj h
                  · subst h
                    exfalso
                    exact hf (((hmem.out y).1 (List.mem_of_getElem? hj)).2)
                clear hf hf' hxin
                go_wp2_with (go_at_call 12; refine (hcx.out _).mono ?_; rintro e w' ⟨rfl, n9, rfl⟩)
                go_roundw
                case rel => exact ⟨k + 1, bs, by omega, by go_num, hM, hbl, hS', Below.ofDrewN hB.out n9⟩
                case measure => simp [intOf]; omega
            · have hke : k = ns.length := by omega
              subst hke
              have hlt' : ¬ ((ns.length : Int) < (ns.length : Int)) := by omega
              have hall : Hid (∀ j (h : j < bs.length), bs[j] = true) := fun j h => by
                have hjr : j < r.length := by have := hbl.out; omega
                have := hS.out j _ (List.getElem?_eq_getElem hjr) (by rw [List.take_length]; exact ((hmem.out _).1 (List.getElem_mem hjr)).1)
                rw [List.getElem?_eq_getElem h] at this
                simpa using this
              clear hS hlt hk
              go_wp2
              clear hlt'
              -- all are seen
              go_loop [14] (fun i => ∃ k : Nat, k ≤ r.length ∧ i = .int .i64 k) (fun i => r.length - (intOf i).toNat)
              case atStart => exact ⟨0, Nat.zero_le _, rfl⟩
              case round =>
                obtain ⟨k, hk, rfl⟩ := hrel
                by_cases hlt : k < r.length
                · have hkb : k < bs.length := by have := hbl.out; omega
                  have hck := hM.out.cell k hkb
                  rw [hall.out k hkb] at hck
                  have hlt' : (k : Int) < (r.length : Int) := by omega
                  go_wp2
                  go_round
                  case rel => exact ⟨k + 1, by omega, by go_num⟩
                  case measure => simp [intOf]; omega
                · have hlt' : ¬ ((k : Int) < (r.length : Int)) := by omega
                  go_wp2
                  go_ret
                  exact ⟨rfl, hB.out⟩
end Go.Proofs.Qxb6618623a
