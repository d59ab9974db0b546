/-
  THE WALK of ZZpastedTwice: the map filled, the cache made, both calls.
-/
import Derived.Test.Qxb6618623aPasted
set_option linter.unusedSimpArgs false
set_option linter.unusedVariables false
namespace Go.Proofs.Qxb6618623a
open Go.RowKit Go.Maps Go.Sort Go.MapKept Plain

theorem Below.ofDrewN {B : Nat} {a w : World} (h : Below B a w) (n : Nat) : Below B a (w.drewN n) := ⟨h.os, h.tape, h.output, h.size, h.block⟩

set_option maxHeartbeats 400000 in
theorem pasted_second (p s : Str) (hne : ¬ (p = [] ∧ s = [])) (bs bf : Nat) (v : Value) (w : World)
    (c31 : w.cell? ⟨bs, 31, none⟩ = some (.map (some bf))) (hlt : bf < w.heap.size) (hca : Cached w bf p s v) :
    Calls Try.prog 11 #[.pointer (some ⟨bs, 0, none⟩), .agg #[encStr p, encStr s]] w fun e w' => e = .returned v ∧ Below w.heap.size w w' := by
  have hbs := World.block_lt_of_cell? _ _ c31
  have heq := eq_paste p s hne
  have hlk : ∀ nq, (Instr.lookup 43 (.map (some bf)) (.agg #[encStr p, encStr s]) true).run Try.prog ((w.alloc (.cells #[encStr p, encStr s] 64)).drewN nq) = .ok (.tuple #[v, .bool true]) ((w.alloc (.cells #[encStr p, encStr s] 64)).drewN nq) :=
    fun nq => hca _ (by rw [World.heap_drewN, Below.heap_alloc _ _ _ hlt])
  clear hne hca
  go_enter Try.func11, Try.ntmps11
  go_wp2
  go_quiet (fail)
  clear heq hlk
  go_wp2
  go_ret
  exact ⟨rfl, Below.ofDrewN ((Below.refl _ _).alloc (Nat.le_refl _) _) _⟩

set_option maxHeartbeats 400000 in
theorem pasted_nil (bs : Nat) (w : World) :
    Calls Try.prog 11 #[.pointer (some ⟨bs, 0, none⟩), .agg #[encStr [], encStr []]] w fun e w' => e = .returned (.slice none 0 0) ∧ Below w.heap.size w w' := by
  go_enter Try.func11, Try.ntmps11
  go_wp2
  go_ret
  exact ⟨rfl, (Below.refl _ _).alloc (Nat.le_refl _) _⟩

/-- The macros' map, filled with the names. -/
def Dn (ns : List Str) : DataW Unit := setOf .nil (ns.map Lit.string)
theorem Dn_snoc (ns : List Str) (x : Str) : Dn (ns ++ [x]) = (Dn ns).put (.string x) .nil := by simp [Dn, setOf_snoc]

/-- Reading a slice's cell. -/
theorem Reads.pos {w : World} {v : Value} {r : List Str} (h : Reads w v r) (hp : 0 < r.length) : ∃ g cap, v = .slice (some ⟨g, 0, none⟩) r.length cap ∧ g < w.heap.size ∧ ∀ j x, r[j]? = some x → w.cell? ⟨g, j, none⟩ = some (encStr x) := by
  rcases h with ⟨_, rfl⟩ | h
  · simp at hp
  · exact h

theorem make28 (k : Int) (W : World) : (Instr.makeMap 28 (some (.int .i64 k))).run Try.prog W = .ok (.map (some W.heap.size)) (W.alloc (.map #[] 0)) := by
  simp [Instr.makeMap, run_underlying Try.underlying28, asInt, asIntOf]

theorem Reads.shape {w : World} {v : Value} {r : List Str} (h : Reads w v r) : ∃ ad cap, v = .slice ad r.length cap ∧ (0 < r.length → ∃ g, ad = some ⟨g, 0, none⟩ ∧ g < w.heap.size ∧ ∀ j x, r[j]? = some x → w.cell? ⟨g, j, none⟩ = some (encStr x)) := by
  rcases h with ⟨rfl, rfl⟩ | ⟨g, cap, rfl, h1, h2⟩
  · exact ⟨none, 0, rfl, fun h => absurd h (Nat.lt_irrefl 0)⟩
  · exact ⟨_, cap, rfl, fun _ => ⟨g, rfl, h1, h2⟩⟩
theorem key9 (x : Str) (hx : x.length ≤ maxLen) : keyOf Try.prog 9 (encStr x) = some (.string x) := by
  simp [keyOf, Try.underlying9, mapKey, encStr, ByteArray.size, hx]

theorem size_le {w : World} {R : Value → Option (DataW Unit × List MemPlace)} {b n : Nat} {D : DataW Unit} (h : w.ownsMap Try.prog 9 R b n D) : Maps.size D ≤ n := by
  obtain ⟨es, clock, hb, F, hs, rfl⟩ := h
  show (((es.toList.map _).foldr DataW.insert []).length) ≤ n
  rw [length_sorted]
  simpa using hs
theorem has_Dn (ns : List Str) (x : Str) : Maps.has (Dn ns) (.string x) = true ↔ x ∈ ns := by
  unfold Dn
  rw [has_setOf _ _ _ (fun y hy => by obtain ⟨z, _, rfl⟩ := List.mem_map.1 hy; exact trivial)]
  simp only [List.any_eq_true, List.mem_map]
  constructor
  · rintro ⟨y, ⟨z, hz, rfl⟩, h⟩
    have : z = x := by simpa [Lit.sameKey] using h
    rwa [this] at hz
  · intro h
    exact ⟨.string x, ⟨x, h, rfl⟩, by simp [Lit.sameKey]⟩

abbrev c42 (bm : Nat) : Array Value := #[Value.int IntKind.i64 0, Value.int IntKind.i64 0, Value.bool false, Value.slice none 0 0, Value.slice none 0 0, Value.slice none 0 0, Value.slice none 0 0, Value.slice none 0 0, Value.slice none 0 0, Value.map (some bm), Value.map none, Value.map none, Value.string { data := #[] }]
abbrev c62 (bp bf : Nat) : Array Value := #[Value.pointer (some { block := bp, off := 0 }), Value.slice none 0 0, Value.slice none 0 0,
              Value.slice none 0 0, Value.string { data := #[] }, Value.string { data := #[] }, Value.slice none 0 0,
              Value.slice none 0 0, Value.slice none 0 0, Value.slice none 0 0, Value.slice none 0 0,
              Value.slice none 0 0, Value.map none, Value.map none, Value.map none, Value.map none, Value.map none,
              Value.map none, Value.map none, Value.map none, Value.slice none 0 0, Value.slice none 0 0,
              Value.map none, Value.map none, Value.map none, Value.map none, Value.map none, Value.map none,
              Value.slice none 0 0, Value.slice none 0 0, Value.map none, Value.map (some bf),
              Value.map none]
/-- What lies behind the laying of the cache and its unit. -/
theorem laid4 (wr : World) (bm : Nat) (c64 : Array Value) : ∀ W : World, W = (((wr.alloc (.cells (c42 bm) 42)).alloc (.map #[] 0)).alloc (.cells (c62 wr.heap.size (wr.heap.size + 1)) 62)).alloc (.cells c64 64) →
    W.cell? ⟨wr.heap.size + 1 + 1, 31, none⟩ = some (.map (some (wr.heap.size + 1))) ∧ W.cell? ⟨wr.heap.size + 1 + 1, 0, none⟩ = some (.pointer (some ⟨wr.heap.size, 0, none⟩)) ∧ W.cell? ⟨wr.heap.size, 9, none⟩ = some (.map (some bm)) ∧
    W.heap[wr.heap.size + 1]? = some (.map #[] 0) ∧ W.heap[wr.heap.size + 1 + 1 + 1]? = some (.cells c64 64 (0, 0)) ∧ Below wr.heap.size wr W := by
  rintro W rfl
  have z : ∀ (a : World) (o : Obj), (a.alloc o).heap.size = a.heap.size + 1 := fun a o => by show (a.heap.push o).size = _; simp
  have at_ : ∀ (a : World) (o : Obj) (n : Nat), n = a.heap.size → (a.alloc o).heap[n]? = some o := fun a o n h => by subst h; exact heap_alloc_new _ _
  have past : ∀ (a : World) (o x : Obj) (n : Nat), a.heap[n]? = some x → (a.alloc o).heap[n]? = some x := fun a o x n h => by rw [Below.heap_alloc _ _ _ (Array.getElem?_eq_some_iff.1 h).1]; exact h
  have b0 : ((((wr.alloc (.cells (c42 bm) 42)).alloc (.map #[] 0)).alloc (.cells (c62 wr.heap.size (wr.heap.size + 1)) 62)).alloc (.cells c64 64)).heap[wr.heap.size]? = some (.cells (c42 bm) 42 (0, 0)) := past _ _ _ _ (past _ _ _ _ (past _ _ _ _ (at_ _ _ _ rfl)))
  have b1 : ((((wr.alloc (.cells (c42 bm) 42)).alloc (.map #[] 0)).alloc (.cells (c62 wr.heap.size (wr.heap.size + 1)) 62)).alloc (.cells c64 64)).heap[wr.heap.size + 1]? = some (.map #[] 0) := past _ _ _ _ (past _ _ _ _ (at_ _ _ _ (by rw [z])))
  have b2 : ((((wr.alloc (.cells (c42 bm) 42)).alloc (.map #[] 0)).alloc (.cells (c62 wr.heap.size (wr.heap.size + 1)) 62)).alloc (.cells c64 64)).heap[wr.heap.size + 1 + 1]? = some (.cells (c62 wr.heap.size (wr.heap.size + 1)) 62 (0, 0)) := past _ _ _ _ (at_ _ _ _ (by rw [z, z]))
  have b3 : ((((wr.alloc (.cells (c42 bm) 42)).alloc (.map #[] 0)).alloc (.cells (c62 wr.heap.size (wr.heap.size + 1)) 62)).alloc (.cells c64 64)).heap[wr.heap.size + 1 + 1 + 1]? = some (.cells c64 64 (0, 0)) := at_ _ _ _ (by rw [z, z, z])
  refine ⟨by rw [cell_of_row _ _ _ _ _ _ b2]; rfl, by rw [cell_of_row _ _ _ _ _ _ b2]; rfl, by rw [cell_of_row _ _ _ _ _ _ b0]; rfl, b1, b3, ?_⟩
  exact ((((Below.refl _ _).alloc (Nat.le_refl _) _).alloc (by rw [z]; omega) _).alloc (by rw [z, z]; omega) _).alloc (by rw [z, z, z]; omega) _

set_option maxHeartbeats 1000000 in
set_option maxRecDepth 20000 in
theorem twice_any (v : Value) (ns : List Str) (p s : Str) (hp : p.length ≤ maxLen) (hs : s.length ≤ maxLen) (w : World) (hv : Reads w v ns) (hn : ns.length ≤ 70000) (hl : ∀ x ∈ ns, x.length ≤ maxLen) :
    Calls Try.prog 7 #[v, encStr p, encStr s] w fun e w' => ∃ v1 v2 : Value, e = .returned (.tuple #[v1, v2]) ∧ Below w.heap.size w w' ∧ ((p = [] ∧ s = []) → v1 = .slice none 0 0 ∧ v2 = .slice none 0 0) ∧
      (¬ (p = [] ∧ s = []) → v1 = v2 ∧ ∃ r, Reads w' v1 r ∧ IsSet ns p s r) := by
  have hmm := @run_makeMap Try.prog
  have hm28 := make28
  obtain ⟨ad, cap, rfl, had⟩ := hv.shape
  clear hv
  replace had := hid had
  replace hl := hid hl
  replace hp := hid hp
  replace hs := hid hs
  go_enter Try.func7, Try.ntmps7
  go_wp2_with fail
  go_loopw [20] (fun i wr => ∃ k : Nat, k ≤ ns.length ∧ i = .int .i64 k ∧ Hid (wr.ownsMap Try.prog 9 anyR w.heap.size k (Dn (ns.take k))) ∧ Hid (Below w.heap.size w wr)) (fun i _ => ns.length - (intOf i).toNat)
  case atStart => exact ⟨0, Nat.zero_le _, rfl, World.ownsMap_made _ _ _ _, (Below.refl _ _).alloc (Nat.le_refl _) _⟩
  case round =>
    obtain ⟨k, hk, rfl, hown, hnx⟩ := hrel
    by_cases hlt : k < ns.length
    · obtain ⟨g, rfl, hg, hc⟩ := had.out (by omega)
      have hx : ns[k]? = some ns[k] := List.getElem?_eq_getElem hlt
      have hck : wr.cell? ⟨g, k, none⟩ = some (encStr ns[k]) := (hnx.out.cell (p := ⟨g, k, none⟩) hg).trans (hc k _ hx)
      have hkey := key9 ns[k] (hl.out _ (List.getElem_mem hlt))
      have hD : Dn (ns.take (k + 1)) = (Dn (ns.take k)).put (.string ns[k]) .nil := by
        rw [List.take_succ_eq_append_getElem hlt, Dn_snoc]
      generalize ns[k] = x at hck hkey hD
      replace hkey := hid hkey
      replace hD := hid hD
      clear hx hc
      go_wp2_with (first
        | (at_mapUpdate; refine wpList_mapUpdate_own _ rfl _ _ _ 28 rfl 9 31 law9 Try.underlying28 anyR w.heap.size k _ rfl (hown.out.alloc _) (by unfold maxLen; omega) _ _ (.string x) rfl rfl hkey.out .nil [] rfl ?_; intro w1 hown1 hgrow1)
        | go_in)
      go_roundw
      case rel =>
        refine ⟨k + 1, by omega, by go_num, ?_, ((hnx.out.alloc (by have := hnx.out.size; omega) _).grown hgrow1 (by have := hnx.out.size; simp; omega) (fun j hj => by cases hj; exact Nat.le_refl _))⟩
        rw [hD.out]; exact hown1
      case measure => simp [intOf]; omega
    · have hke : k = ns.length := by omega
      subst hke
      go_wp2_with fail
      obtain ⟨W4, hW4⟩ : ∃ W4, W4 = (((wr.alloc (.cells (c42 w.heap.size) 42)).alloc (.map #[] 0)).alloc (.cells (c62 wr.heap.size (wr.heap.size + 1)) 62)).alloc (.cells #[encStr p, encStr s] 64) := ⟨_, rfl⟩
      obtain ⟨f31, f0, f9, fm, fb, fB⟩ := laid4 wr w.heap.size _ W4 hW4
      rw [← hW4]
      have hownW : W4.ownsMap Try.prog 9 anyR w.heap.size ns.length (Dn ns) := by
        have h := hown.out
        rw [List.take_length] at h
        exact h.kept ⟨fB.os, fB.tape, fB.output, fB.size, fun k hk _ => fB.block k hk⟩ (row := none) (by simp)
      have hBW : Below w.heap.size w W4 := hnx.out.trans (fB.mono hnx.out.size)
      have hsz := size_le hownW
      have hwz := hnx.out.size
      clear hW4 hown hnx
      by_cases hne : p = [] ∧ s = []
      · obtain ⟨rfl, rfl⟩ := hne
        refine (pasted_nil (wr.heap.size + 1 + 1) W4).mono ?_
        rintro e w1 ⟨rfl, hB⟩
        have hblt : wr.heap.size + 1 + 1 + 1 < W4.heap.size := (Array.getElem?_eq_some_iff.1 fb).1
        have d0 : w1.cell? ⟨wr.heap.size + 1 + 1 + 1, 0, none⟩ = some (encStr []) := (hB.cell (p := ⟨wr.heap.size + 1 + 1 + 1, 0, none⟩) hblt).trans (by rw [cell_of_row _ _ _ _ _ _ fb]; rfl)
        have d1 : w1.cell? ⟨wr.heap.size + 1 + 1 + 1, 1, none⟩ = some (encStr []) := (hB.cell (p := ⟨wr.heap.size + 1 + 1 + 1, 1, none⟩) hblt).trans (by rw [cell_of_row _ _ _ _ _ _ fb]; rfl)
        have hB1 : Below w.heap.size w w1 := hBW.trans (hB.mono hBW.size)
        replace hB1 := hid hB1
        clear f31 f0 f9 fm fb fB hownW hBW hblt hB
        go_wp2_with fail
        refine (pasted_nil (wr.heap.size + 1 + 1) w1).mono ?_
        rintro e w2 ⟨rfl, hB2⟩
        go_wp2
        go_ret2
        exact ⟨.slice none 0 0, .slice none 0 0, rfl, hB1.out.trans (hB2.mono hB1.out.size), by simp, by simp⟩
      · refine (pasted_first p s hne hp.out hs.out (wr.heap.size + 1 + 1) wr.heap.size w.heap.size (wr.heap.size + 1) ns.length (Dn ns) W4 f31 f0 f9 hownW fm (by omega)).mono ?_
        rintro e w1 ⟨v1, r, rfl, hR, hasc, hmem, hgr, hca⟩
        have d0 : w1.cell? ⟨wr.heap.size + 1 + 1 + 1, 0, none⟩ = some (encStr p) := hgr.cell (by rw [cell_of_row _ _ _ _ _ _ fb]; rfl) (by simp; omega)
        have d1 : w1.cell? ⟨wr.heap.size + 1 + 1 + 1, 1, none⟩ = some (encStr s) := hgr.cell (by rw [cell_of_row _ _ _ _ _ _ fb]; rfl) (by simp; omega)
        have e31 : w1.cell? ⟨wr.heap.size + 1 + 1, 31, none⟩ = some (.map (some (wr.heap.size + 1))) := hgr.cell f31 (by simp)
        have hbf : wr.heap.size + 1 < w1.heap.size := Nat.lt_of_lt_of_le (Array.getElem?_eq_some_iff.1 fm).1 hgr.size
        have hB1 : Below w.heap.size w w1 := hBW.trans ⟨hgr.os, hgr.tape, hgr.output, hgr.size, fun k hk => hgr.block k (Nat.lt_of_lt_of_le hk hBW.size) (by simp; omega)⟩
        have hset : IsSet ns p s r := ⟨hasc, fun x => by rw [hmem x, has_Dn]⟩
        replace hR := hid hR
        replace hB1 := hid hB1
        replace hset := hid hset
        have hsec := hid (pasted_second p s hne (wr.heap.size + 1 + 1) (wr.heap.size + 1) v1 w1 e31 hbf hca)
        clear f31 f0 f9 fm fb fB hownW hBW hasc hmem hgr hca e31 hbf
        go_wp2_with fail
        refine hsec.out.mono ?_
        rintro e w2 ⟨rfl, hB2⟩
        go_wp2
        go_ret2
        exact ⟨v1, v1, rfl, hB1.out.trans (hB2.mono hB1.out.size), fun h => absurd h hne, fun _ => ⟨rfl, r, Reads.kept hR.out hB2 (Nat.le_refl _), hset.out⟩⟩
end Go.Proofs.Qxb6618623a
