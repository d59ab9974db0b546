/-
  THE WALK of (*sharing).pasted: the first call, and the second, which is answered from the cache.
-/
import Derived.Test.Qxb6618623aForms
import Derived.Maps.RangeWalk
import Derived.Maps.OwnSet
import Derived.Maps.OwnOps
import Derived.Sort.KeysCollected
import Derived.Sort.OwnSorted
import Derived.Deep.RegionHeld3
set_option linter.unusedSimpArgs false
set_option linter.unusedVariables false
namespace Go.Proofs.Qxb6618623a
open Go.RowKit Go.Maps Go.Sort Go.MapKept Plain

theorem hid {p : Prop} (h : p) : Hid p := h
theorem Try.laidOut : laidOutB Try.prog = true := by kernel_rfl
theorem Try.info9 : (Try.prog.info? 9).map (fun i => (i.zero, i.size, i.bytes)) = some (some (.string ⟨#[]⟩), 1, 16) := by kernel_rfl
theorem law9 : Keyed Try.prog 9 := string_keyed Try.underlying9
theorem Try.row64 : (64 : TypeId) < Try.prog.types.size := of_decide_eq_true (by kernel_rfl)
theorem Try.wide64 : (match Try.prog.underlying 64 with | some (.array _ _) | some (.struct _) => true | _ => false) = true := by rw [Try.underlying64]
set_option maxRecDepth 100000 in
theorem law64 : Keyed Try.prog 64 := Keyed.of_law (deep_law_laid Try.laidOut (m := 2) (by omega) Try.row64 (by kernel_rfl) Try.wide64)

/-- How an element of the macros' map reads: all alike. -/
def anyR : Value → Option (DataW Unit × List MemPlace) := fun _ => some (.nil, [])

theorem Try.cells64 : Try.prog.cellsOf 64 = 2 := by kernel_rfl
theorem Try.cells9 : Try.prog.cellsOf 9 = 1 := by kernel_rfl
theorem Try.key64t : Try.prog.keyType 64 = true := by kernel_rfl
theorem Try.typesSize : ∃ m, Try.prog.types.size = m + 1 := Nat.exists_eq_succ_of_ne_zero (Nat.ne_of_gt (Nat.lt_of_le_of_lt (Nat.zero_le 64) Try.row64))
theorem key64 (p s : Str) (hp : p.length ≤ maxLen) (hs : s.length ≤ maxLen) : ∃ kl, keyOf Try.prog 64 (.agg #[encStr p, encStr s]) = some kl := by
  obtain ⟨m, hm⟩ := Try.typesSize
  have e9 : ∀ x : Str, x.length ≤ maxLen → Try.prog.keyLits (m + 1) 9 [encStr x] = some [.string x] := fun x hx => by
    simp [Program.keyLits, Try.underlying9, encStr, ByteArray.size, hx]
  refine ⟨.string (keyBytes [.string p, .string s]), ?_⟩
  unfold keyOf
  simp only [Try.underlying64]
  rw [if_pos (by simp [Try.key64t, Value.formed, Try.underlying64, Try.cells64])]
  rw [hm]
  unfold Program.keyLits
  simp only [Try.underlying64, Value.cells]
  simp [Try.cells64, Try.cells9, e9 p hp, e9 s hs]

/-- A reader that tells one value from all others. -/
theorem exR (v0 : Value) : ∃ R : Value → Option (DataW Unit × List MemPlace), R v0 = some (.lit (.bool true), []) ∧ (∀ v ps, R v = some (.lit (.bool true), ps) → v = v0) ∧ ∀ v, ∃ b, R v = some (.lit (.bool b), []) := by
  classical
  refine ⟨fun v => if v = v0 then some (.lit (.bool true), []) else some (.lit (.bool false), []), by simp, fun v ps h => ?_, fun v => ?_⟩
  · by_cases e : v = v0
    · exact e
    · simp [e] at h
  · by_cases e : v = v0
    · exact ⟨true, by simp [e]⟩
    · exact ⟨false, by simp [e]⟩

theorem eq_paste (p s : Str) (hne : ¬ (p = [] ∧ s = [])) (W : World) : (binOp .eql 64 (.agg #[encStr p, encStr s]) (.agg #[.string ⟨#[]⟩, .string ⟨#[]⟩])).run Try.prog W = .ok (.bool false) W := by
  by_cases hp : p = []
  · have hs : ¬ s = [] := fun h => hne ⟨hp, h⟩
    subst hp
    go_simp
  · go_simp

theorem zero22 (w : World) : (zeroValue 22).run Try.prog w = .ok (.slice none 0 0) w := by kernel_rfl

/-- The empty cache has no answer. -/
theorem look_empty (p s : Str) (hp : p.length ≤ maxLen) (hs : s.length ≤ maxLen) (bf : Nat) (W : World) (hf : W.heap[bf]? = some (.map #[] 0)) :
    (Instr.lookup 43 (.map (some bf)) (.agg #[encStr p, encStr s]) true).run Try.prog W = .ok (.tuple #[.slice none 0 0, .bool false]) W := by
  obtain ⟨R, h1, h2, _⟩ := exR (.slice none 0 0)
  obtain ⟨kl, hk⟩ := key64 p s hp hs
  have hown : W.ownsMap Try.prog 64 R bf 0 (.map []) := ⟨#[], 0, hf, ⟨by simp, stamped_empty 0, by simp⟩, Nat.le_refl _, rfl⟩
  obtain ⟨v, ps, hrun, hv⟩ := hown.look_ok law64 Try.underlying43 (zero22 W) h1 hk
  have e : (DataW.map ([] : List (Lit × DataW Unit))).atKey kl (.lit (.bool true)) = .lit (.bool true) := rfl
  rw [e] at hv
  rw [h2 v ps hv] at hrun
  exact hrun

/-- The names met so far that the paste forms: none twice. -/
def Gathered (D0 : DataW Unit) (p s : Str) (left : Lit → Bool) (ss : List Str) : Prop := ss.Nodup ∧ ∀ x, x ∈ ss ↔ (Maps.has D0 (.string x) = true ∧ left (.string x) = false ∧ formed p s x = true)
theorem Gathered.start (D0 : DataW Unit) (p s : Str) : Gathered D0 p s (Maps.has D0) [] := ⟨List.nodup_nil, fun x => by cases Maps.has D0 (.string x) <;> simp⟩
theorem Gathered.take {D0 : DataW Unit} {p s : Str} {left : Lit → Bool} {ss : List Str} (h : Gathered D0 p s left ss) {x : Str} {y : DataW Unit} (hlk : left (.string x) = true) (hat : ∀ zd, D0.atKey (.string x) zd = y) (hf : formed p s x = true) :
    Gathered D0 p s (fun z => left z && !z.sameKey (.string x)) (ss ++ [x]) := by
  have hhas : Maps.has D0 (.string x) = true := has_true_of_atKey hat
  have hnew : x ∉ ss := fun hx => by have := ((h.2 x).1 hx).2.1; rw [hlk] at this; cases this
  refine ⟨List.nodup_append.2 ⟨h.1, by simp, fun a ha b hb => by simp at hb; subst hb; exact fun e => hnew (e ▸ ha)⟩, fun y => ?_⟩
  by_cases hy : y = x
  · subst hy; simp [hhas, Lit.sameKey, hf]
  · simp [h.2 y, hy, Lit.sameKey]
theorem Gathered.pass {D0 : DataW Unit} {p s : Str} {left : Lit → Bool} {ss : List Str} (h : Gathered D0 p s left ss) {x : Str} (hf : formed p s x = false) :
    Gathered D0 p s (fun z => left z && !z.sameKey (.string x)) ss := by
  refine ⟨h.1, fun y => ?_⟩
  rw [h.2 y]
  by_cases hy : y = x
  · subst hy; simp [hf]
  · simp [Lit.sameKey, hy]

theorem cell_one_new' (w : World) (x : Value) (t : TypeId) (k : Nat) (hk : k = w.heap.size) : ∀ j u, [x][j]? = some u → (w.alloc (.cells #[x] t)).cell? ((⟨k, 0, none⟩ : Addr).add j) = some u := by
  subst hk; exact cell_one_new w x t

/-- A slice of the call's own that reads as r. -/
def Reads (w : World) (v : Value) (r : List Str) : Prop := (v = .slice none 0 0 ∧ r = []) ∨ ∃ g cap, v = .slice (some ⟨g, 0, none⟩) r.length cap ∧ g < w.heap.size ∧ ∀ j x, r[j]? = some x → w.cell? ⟨g, j, none⟩ = some (encStr x)

theorem ne_map {w : World} {b o bf : Nat} {v : Value} {es : Array MapEntry} {c : Nat} (h : w.cell? ⟨b, o, none⟩ = some v) (hf : w.heap[bf]? = some (.map es c)) : b ≠ bf := by
  rintro rfl
  simp [World.cell?, hf] at h
theorem Reads.grown {w w' : World} {v : Value} {r : List Str} {bf c : Nat} {es : Array MapEntry} (h : Reads w v r) (hg : w.grownBy w' (some bf)) (hf : w.heap[bf]? = some (.map es c)) : Reads w' v r := by
  rcases h with h | ⟨g, cap, e, hlt, hc⟩
  · exact Or.inl h
  · refine Or.inr ⟨g, cap, e, Nat.lt_of_lt_of_le hlt hg.size, fun j x hj => ?_⟩
    have := hc j x hj
    exact hg.cell this (by have := ne_map this hf; simpa using this)
theorem Reads.kept {w w' : World} {v : Value} {r : List Str} {B : Nat} (h : Reads w v r) (hg : Below B w w') (hB : w.heap.size ≤ B) : Reads w' v r := by
  rcases h with h | ⟨g, cap, e, hlt, hc⟩
  · exact Or.inl h
  · exact Or.inr ⟨g, cap, e, Nat.lt_of_lt_of_le hlt hg.size, fun j x hj => (hg.cell (p := ⟨g, j, none⟩) (Nat.lt_of_lt_of_le hlt hB)).trans (hc j x hj)⟩

/-- The cache answers the paste with v. -/
def Cached (w : World) (bf : Nat) (p s : Str) (v : Value) : Prop := ∀ W : World, W.heap[bf]? = w.heap[bf]? →
  (Instr.lookup 43 (.map (some bf)) (.agg #[encStr p, encStr s]) true).run Try.prog W = .ok (.tuple #[v, .bool true]) W
/-- The answer is put into the empty cache. -/
theorem put_cache (p s : Str) (hp : p.length ≤ maxLen) (hs : s.length ≤ maxLen) (bf : Nat) (v : Value) (W : World) (hf : W.heap[bf]? = some (.map #[] 0)) :
    ∃ w', (Instr.mapUpdate 43 (.map (some bf)) (.agg #[encStr p, encStr s]) v).run Try.prog W = .ok () w' ∧ W.grownBy w' (some bf) ∧ Cached w' bf p s v := by
  obtain ⟨R, h1, h2, h3⟩ := exR v
  obtain ⟨kl, hk⟩ := key64 p s hp hs
  have hown : W.ownsMap Try.prog 64 R bf 0 (.map []) := ⟨#[], 0, hf, ⟨by simp, stamped_empty 0, by simp⟩, Nat.le_refl _, rfl⟩
  obtain ⟨w', hrun, ho, hg⟩ := hown.update law64 Try.underlying43 (by unfold maxLen; omega) hk h1
  refine ⟨w', hrun, hg, fun W' hW => ?_⟩
  obtain ⟨es, clock, hb, r1, r2, r3⟩ := ho
  have ho' : W'.ownsMap Try.prog 64 R bf 1 ((DataW.map []).put kl (.lit (.bool true))) := ⟨es, clock, hW.trans hb, r1, r2, r3⟩
  obtain ⟨b, hb0⟩ := h3 (.slice none 0 0)
  obtain ⟨u, ps, hr, hu⟩ := ho'.look_ok law64 Try.underlying43 (zero22 W') hb0 hk
  have hkey : WideAt.IsKeyLit kl := law64.key hk
  rw [atKey_put_same isMap_empty hkey] at hu
  rw [has_put_same isMap_empty hkey, h2 u ps hu] at hr
  exact hr

/-- slices.Sort over a slice of the call's own. -/
theorem sort_own (v : Value) (ss : List Str) (base : Nat) (wr : World) (hrow : wr.ownsRow base 9 1 v ss.length (ss.map encStr)) (hss : ss.length ≤ 70000) :
    Calls Try.prog 15 #[v] wr fun e w' => e = .returned (.tuple #[]) ∧ Reads w' v (ss.mergeSort fun x y => decide (x ≤ y)) ∧ Below base wr w' := by
  rcases hrow.2 with ⟨rfl, h0⟩ | ⟨g, cap, cur, rfl, hbase, hb, h1, h2, h3, h4⟩
  · obtain rfl : ss = [] := List.eq_nil_of_length_eq_zero h0
    refine (Try.slices_Sort_string_none none 0 wr).mono ?_
    rintro e w' ⟨rfl, rfl⟩
    exact ⟨rfl, Or.inl ⟨rfl, by simp⟩, Below.refl _ _⟩
  · have hH : Holds encStr wr g 0 ss.toArray := holds_of_block hb (by simpa using h4)
    have hgl : g < wr.heap.size := (Array.getElem?_eq_some_iff.1 hb).1
    refine (Try.slices_Sort_string g 0 cap ss wr hH hgl (by omega)).mono ?_
    rintro e w' ⟨rfl, nn, os, rfl⟩
    have hro := ownsRow_sorted (n := nn) (os := os) (ts := ss.mergeSort fun x y => decide (x ≤ y)) (by simp) hbase hb h1 h2 h3
    have hgr := grownBy_sorted (w := wr) (g := g) (n := nn) (os := os) (ss.mergeSort fun x y => decide (x ≤ y)).toArray
    generalize (grow (putRow encStr (Sort.ahead wr nn) g 0 (ss.mergeSort fun x y => decide (x ≤ y)).toArray) os) = w' at *
    refine ⟨rfl, Or.inr ⟨g, cap, by simp, Nat.lt_of_lt_of_le hgl hgr.size, ?_⟩, ⟨hgr.os, hgr.tape, hgr.output, hgr.size, fun k hk => ?_⟩⟩
    · rcases hro.2 with ⟨h, _⟩ | ⟨g', cap', cur', e, _, hb', _, _, _, h4'⟩
      · cases h
      · cases e
        intro j x hj
        rw [cell_of_row _ _ _ _ _ _ hb']
        have hlt : j < ss.length := by have := (List.getElem?_eq_some_iff.1 hj).1; simpa using this
        have : (cur'.toList.take (ss.length * 1))[j]? = some (encStr x) := by rw [h4']; simp [hj]
        rw [List.getElem?_take_of_lt (by omega)] at this
        simpa using this
    · by_cases hkl : k < wr.heap.size
      · exact hgr.block k hkl (by simp; omega)
      · omega

set_option maxHeartbeats 1000000 in
set_option maxRecDepth 20000 in
theorem pasted_first (p s : Str) (hne : ¬ (p = [] ∧ s = [])) (hp : p.length ≤ maxLen) (hs : s.length ≤ maxLen) (bs bp bm bf n : Nat) (D0 : DataW Unit) (w : World)
    (c31 : w.cell? ⟨bs, 31, none⟩ = some (.map (some bf))) (c0 : w.cell? ⟨bs, 0, none⟩ = some (.pointer (some ⟨bp, 0, none⟩))) (c9 : w.cell? ⟨bp, 9, none⟩ = some (.map (some bm)))
    (hm : w.ownsMap Try.prog 9 anyR bm n D0) (hf : w.heap[bf]? = some (.map #[] 0)) (hsz : Maps.size D0 ≤ 70000) :
    Calls Try.prog 11 #[.pointer (some ⟨bs, 0, none⟩), .agg #[encStr p, encStr s]] w fun e w' => ∃ v r, e = .returned v ∧ Reads w' v r ∧ r.Pairwise (· < ·) ∧ (∀ x, x ∈ r ↔ (Maps.has D0 (.string x) = true ∧ formed p s x = true)) ∧ w.grownBy w' (some bf) ∧ Cached w' bf p s v := by
  have hput := fun (v : Value) (W : World) hf => put_cache p s hp hs bf v W hf
  replace hput := hid hput
  obtain ⟨i0, hi, hz0, hz1, hz2⟩ := info_parts Try.info9
  have hbs := World.block_lt_of_cell? _ _ c31
  have hbp := World.block_lt_of_cell? _ _ c9
  have heq := eq_paste p s hne
  have hlk : ∀ nq, (Instr.lookup 43 (.map (some bf)) (.agg #[encStr p, encStr s]) true).run Try.prog ((w.alloc (.cells #[encStr p, encStr s] 64)).drewN nq) = .ok (.tuple #[.slice none 0 0, .bool false]) ((w.alloc (.cells #[encStr p, encStr s] 64)).drewN nq) :=
    fun nq => look_empty p s hp hs bf _ (by rw [World.heap_drewN, Below.heap_alloc _ _ _ (Array.getElem?_eq_some_iff.1 hf).1]; exact hf)
  have hbm := hm.lt
  replace hf := hid hf
  clear hne hp hs
  go_enter Try.func11, Try.ntmps11
  go_wp2
  go_quiet (fail)
  clear heq hlk
  have hm1 : ((w.alloc (.cells #[encStr p, encStr s] 64)).drewN nq).ownsMap Try.prog 9 anyR bm n D0 := hm.alloc _
  clear hm
  go_wp2_with (first
    | (at_range; refine wpList_range_own _ rfl _ 28 rfl 9 31 law9 Try.underlying28 _ bm n _ rfl hm1 ?_; intro w0 hrg0 hg0 hs0)
    | go_in)
  go_frame
  -- THE WORLD BEHIND THE BOX, UNDER A NAME
  have hcell : ∀ j, j < 2 → ((w.alloc (.cells #[encStr p, encStr s] 64)).drewN nq).cell? ⟨w.heap.size, j, none⟩ = (#[encStr p, encStr s] : Array Value)[j]? := fun j _ => World.cell?_alloc_new _ _ _ _
  have hB0 : Below w.heap.size w ((w.alloc (.cells #[encStr p, encStr s] 64)).drewN nq) := ((Below.refl _ _).alloc (Nat.le_refl _) _).trans ⟨rfl, rfl, rfl, Nat.le_refl _, fun _ _ => rfl⟩
  have hS0 : ((w.alloc (.cells #[encStr p, encStr s] 64)).drewN nq).heap.size = w.heap.size + 1 := by show (w.heap.push _).size = _; simp
  rw [hS0] at hrg0 hs0 ⊢
  generalize (w.alloc (.cells #[encStr p, encStr s] 64)).drewN nq = W at *
  have hcA := hcell 0 (by omega)
  have hcB := hcell 1 (by omega)
  replace hcA : W.cell? ⟨w.heap.size, 0, none⟩ = some (encStr p) := hcA
  replace hcB : W.cell? ⟨w.heap.size, 1, none⟩ = some (encStr s) := hcB
  clear hcell
  replace hB0 := hid hB0
  replace hS0 := hid hS0
  replace hm1 := hid hm1
  replace hg0 := hid hg0
  replace hs0 := hid hs0
  go_loopw [7] (fun v wr => ∃ (left : Lit → Bool) (cnt : Nat) (ss : List Str), Hid (wr.ranges Try.prog 9 anyR bm (w.heap.size + 1) n D0 left cnt) ∧ Hid (ss.length + cnt ≤ Maps.size D0) ∧
      Hid (wr.ownsRow (w.heap.size + 2) 9 1 v ss.length (ss.map encStr)) ∧ Hid (Gathered D0 p s left ss) ∧ Hid (Below (w.heap.size + 1) W wr) ∧ Hid (w.heap.size + 2 ≤ wr.heap.size))
    (fun _ wr => wr.rangeLeft bm (w.heap.size + 1))
  case atStart =>
    exact ⟨_, _, [], hrg0, (by show 0 + _ ≤ _; omega), ⟨rfl, Or.inl ⟨rfl, rfl⟩⟩, Gathered.start D0 p s, ((Below.refl _ _).grown hg0.out (by rw [hS0.out]; exact Nat.le_refl _) (fun j hj => by cases hj)), (by show _ ≤ _; have := hs0.out; omega)⟩
  case round =>
    obtain ⟨left, cnt, ss, hrg, hcs, hrow, hC, hnx, hws⟩ := hrel
    go_wp2_with (first
      | (at_next; refine wpList_next_ranges _ rfl _ rfl 9 law9 anyR encStr (id : Value → Value) (fun key kl hk => by obtain ⟨x, hx, _⟩ := Maps.keyOf_str Try.underlying9 hk; exact ⟨x, hx⟩) (fun v y _ => ⟨v, rfl⟩) bm (w.heap.size + 1) n _ _ _ rfl hrg.out ?_ ?_)
      | go_in)
    · intro hc0 hl0
      have hsl : ss.length ≤ 70000 := by have := hcs.out; omega
      have hgat := hC.out
      clear hC hc0
      replace hl0 := hid hl0
      replace hgat := hid hgat
      have hsrt := hid (sort_own _ ss (w.heap.size + 2) wr hrow.out hsl)
      clear hrow hrg hcs hsl
      go_wp2_with (go_at_call 15; refine hsrt.out.mono ?_; rintro e w4 ⟨rfl, hrd, hb4⟩)
      have hB4 : Below (w.heap.size + 1) W w4 := hnx.out.trans (hb4.mono (Nat.le_succ _))
      have hBw : Below w.heap.size w w4 := hB0.out.trans (hB4.mono (Nat.le_succ _))
      have hf4 : w4.drew.heap[bf]? = some (.map #[] 0) := (hBw.block bf (Array.getElem?_eq_some_iff.1 hf.out).1).trans hf.out
      have k1 : w4.drew.cell? ⟨bs, 31, none⟩ = some (.map (some bf)) := (hBw.cell (p := ⟨bs, 31, none⟩) hbs).trans c31
      have k2 : w4.drew.cell? ⟨w.heap.size, 0, none⟩ = some (encStr p) := (hB4.cell (p := ⟨w.heap.size, 0, none⟩) (Nat.lt_succ_self _)).trans hcA
      have k3 : w4.drew.cell? ⟨w.heap.size, 1, none⟩ = some (encStr s) := (hB4.cell (p := ⟨w.heap.size, 1, none⟩) (Nat.lt_succ_self _)).trans hcB
      obtain ⟨w5, hrun, hg5, hca⟩ := hput.out u7 w4.drew hf4
      replace hrun := hid hrun
      refine wp_region_held_drew (S := fun w' => w'.cell? ⟨bs, 31, none⟩ = some (.map (some bf)) ∧ w'.cell? ⟨w.heap.size, 0, none⟩ = some (encStr p) ∧ w'.cell? ⟨w.heap.size, 1, none⟩ = some (encStr s)) (by kernel_rfl) ⟨k1, k2, k3⟩ (fun hh => ?_)
      refine wpAnyH_take (i := 0) rfl (by kernel_rfl) (by kernel_rfl) (by kernel_rfl) (fun _ _ _ h => h) (Or.inl ⟨by rfl, fun _ _ => rfl⟩) hh ?_
      try simp only [Act.put, List.setIfInBounds_toArray, List.set_cons_zero, List.set_cons_succ]
      refine wpAnyH_take (i := 1) (v := .pointer (some ⟨bs, 0, none⟩)) rfl (by kernel_rfl) (by kernel_rfl) (by kernel_rfl) (fun _ _ _ h => h) (Or.inl ⟨by rfl, fun W' hW' => by obtain ⟨g1, g2, g3⟩ := hW'; go_simp⟩) hh ?_
      try simp only [Act.put, List.setIfInBounds_toArray, List.set_cons_zero, List.set_cons_succ]
      refine wpAnyH_take (i := 2) (v := .pointer (some ⟨bs, 31, none⟩)) rfl (by kernel_rfl) (by kernel_rfl) (by kernel_rfl) (fun _ _ _ h => h) (Or.inl ⟨by rfl, fun W' hW' => by obtain ⟨g1, g2, g3⟩ := hW'; go_simp⟩) hh ?_
      try simp only [Act.put, List.setIfInBounds_toArray, List.set_cons_zero, List.set_cons_succ]
      refine wpAnyH_take (i := 3) (v := .map (some bf)) rfl (by kernel_rfl) (by kernel_rfl) (by kernel_rfl) (fun _ _ _ h => h) (Or.inl ⟨by rfl, fun W' hW' => by obtain ⟨g1, g2, g3⟩ := hW'; go_simp⟩) hh ?_
      try simp only [Act.put, List.setIfInBounds_toArray, List.set_cons_zero, List.set_cons_succ]
      refine wpAnyH_take (i := 4) (v := .agg #[encStr p, encStr s]) rfl (by kernel_rfl) (by kernel_rfl) (by kernel_rfl) (fun _ _ _ h => h) (Or.inl ⟨by rfl, fun W' hW' => by obtain ⟨g1, g2, g3⟩ := hW'; go_simp⟩) hh ?_
      try simp only [Act.put, List.setIfInBounds_toArray, List.set_cons_zero, List.set_cons_succ]
      refine wpAnyH_take (i := 5) rfl (by kernel_rfl) (by kernel_rfl) (by kernel_rfl) (fun _ _ _ h => h) (Or.inl ⟨by rfl, fun _ _ => rfl⟩) hh ?_
      try simp only [Act.put, List.setIfInBounds_toArray, List.set_cons_zero, List.set_cons_succ]
      refine wpAnyH_ready (rs := [6]) (by kernel_rfl) (by simp) ?_
      refine AllReadyH.cons rfl (fun K hK => ?_) AllReadyH.nil
      have hr := hrun.out
      have hnb : bs ≠ bf := ne_map k1 hf4
      have hnw : w.heap.size ≠ bf := ne_map k2 hf4
      have hS5 : w5.cell? ⟨bs, 31, none⟩ = some (.map (some bf)) ∧ w5.cell? ⟨w.heap.size, 0, none⟩ = some (encStr p) ∧ w5.cell? ⟨w.heap.size, 1, none⟩ = some (encStr s) :=
        ⟨hg5.cell k1 (by simpa using hnb), hg5.cell k2 (by simpa using hnw), hg5.cell k3 (by simpa using hnw)⟩
      have hR5 : Reads w5 u7 (ss.mergeSort fun x y => decide (x ≤ y)) := Reads.grown (w := w4.drew) hrd hg5 hf4
      have hG5 : w.grownBy w5 (some bf) := ⟨hg5.os.trans hBw.os, hg5.tape.trans hBw.tape, hg5.output.trans hBw.output, Nat.le_trans hBw.size hg5.size, fun k hk hne => (hg5.block k (Nat.lt_of_lt_of_le hk hBw.size) hne).trans (hBw.block k hk)⟩
      replace hS5 := hid hS5
      replace hR5 := hid hR5
      replace hG5 := hid hG5
      replace hca := hid hca
      clear k1 k2 k3 hf4 hBw hB4 hg5 hb4 hrd
      go_simp
      refine hK.out _ _ hS5.out (fun hh2 => ?_)
      clear hK K hr
      try simp only [Act.put, List.setIfInBounds_toArray, List.set_cons_zero, List.set_cons_succ]
      refine wpAnyH_done (by kernel_rfl) ?_ _
      clear hh hh2
      go_wp2
      go_ret
      refine ⟨u7, _, rfl, hR5.out, asc_mergeSort hgat.out.1, fun x => ?_, hG5.out, hca.out⟩
      rw [List.mem_mergeSort, hgat.out.2 x, hl0.out]
      simp
    · intro x c kl yd yp w2 cnt2 hkey hlk hv hat hrg2 hlt hg2 hs2 hen
      obtain ⟨x', ex, rfl, hxl⟩ := Maps.keyOf_str Try.underlying9 hkey
      obtain rfl : x = x' := encStr_inj ex
      have hrow2 := hrow.out.kept hg2 (Or.inr (row_ne_iter hrow.out hrg.out).symm)
      have hnx2 : Below (w.heap.size + 1) W w2 := hnx.out.grown hg2 (Nat.le_trans (Nat.le_succ _) hws.out) (fun j hj => by cases hj; exact Nat.le_refl _)
      have cA : w2.cell? ⟨w.heap.size, 0, none⟩ = some (encStr p) := (hnx2.cell (p := ⟨w.heap.size, 0, none⟩) (Nat.lt_succ_self _)).trans hcA
      have cB : w2.cell? ⟨w.heap.size, 1, none⟩ = some (encStr s) := (hnx2.cell (p := ⟨w.heap.size, 1, none⟩) (Nat.lt_succ_self _)).trans hcB
      have hws2 : w.heap.size + 2 ≤ w2.heap.size := by rw [hs2]; exact hws.out
      have hsl : ss.length + 1 ≤ 70000 := by have := hcs.out; omega
      clear hs2 ex hkey hv
      replace hnx2 := hid hnx2
      replace hrow2 := hid hrow2
      replace hrg2 := hid hrg2
      replace hg2 := hid hg2
      replace hsl := hid hsl
      replace hlk := hid hlk
      replace hat := hid hat
      replace hlt := hid hlt
      by_cases hfm : formed p s x = true
      · go_wp2_with (first
          | (go_at_call 14; refine (forms_any p s x hxl _).mono ?_; rintro e w3 ⟨rfl, rfl⟩)
          | (at_builtin; refine wpList_append_own _ rfl _ _ 22 rfl (w.heap.size + 2) 9 i0 (.string ⟨#[]⟩) 1 16 Try.underlying22 hi hz0 hz1 hz2 rfl (by decide) _ _ _ rfl ((hrow2.out.alloc _).alloc _) ⟨w2.heap.size + 1, 0, none⟩ 1 1 [encStr x] rfl rfl (cell_one_new' _ _ _ _ (by simp)) (by simp [Value.oneCell', encStr]) (by unfold maxLen; have := hsl.out; omega) (by have := hsl.out; omega) (by simp; omega) ?_; intro v' w3 hown' hg3 hnil3; go_frame)
          | go_in)
        have hrow3 := (hrow2.out.alloc (.cells #[encStr p, encStr s] 64)).alloc (.cells #[encStr x] 9)
        have hrg3 := ((hrg2.out.alloc (.cells #[encStr p, encStr s] 64)).alloc (.cells #[encStr x] 9)).kept hg3 (row_ne_low hrow3 (by omega)) (row_ne_low hrow3 (by omega))
        have hnx3 : Below (w.heap.size + 1) W w3 := ((hnx2.out.alloc (by omega) _).alloc (by simp; omega) _).grown hg3 (by simp; omega) (fun j hj => by have := (hrow3.lt j hj).1; omega)
        have hsz3 := hg3.size
        go_roundw
        case rel =>
          refine ⟨_, cnt2, ss ++ [x], hrg3, (by show _ ≤ _; have := hcs.out; have := hlt.out; simp; omega), hid (by simpa using hown'), hC.out.take hlk.out hat.out hfm, hnx3, (by show _ ≤ _; simp at hsz3; omega)⟩
        case measure => rw [hrg3.left_eq, hrg.out.left_eq]; exact hlt.out
      · have hfm' : formed p s x = false := by simpa using hfm
        clear hfm
        go_wp2_with (go_at_call 14; refine (forms_any p s x hxl _).mono ?_; rintro e w3 ⟨rfl, rfl⟩)
        go_roundw
        case rel =>
          exact ⟨_, cnt2, ss, hrg2.out.alloc _, (by show _ ≤ _; have := hcs.out; have := hlt.out; omega), hrow2.out.alloc _, hC.out.pass hfm', hnx2.out.alloc (by omega) _, (by show _ ≤ _; simp; omega)⟩
        case measure => rw [(hrg2.out.alloc _).left_eq, hrg.out.left_eq]; exact hlt.out
end Go.Proofs.Qxb6618623a
