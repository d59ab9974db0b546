/-
  THE LAW's WALK: FnPastedTakesInTheFormedName.
-/
import Derived.Test.Qxb6618623aSmall
import Derived.Laws.CopyOwn
set_option linter.unusedSimpArgs false
set_option linter.unusedVariables false
namespace Go.Proofs.Qxb6618623a
open Go.RowKit Go.Maps Go.Sort Go.MapKept Plain

theorem Try.size9 : (Try.prog.info? 9).map (·.size) = some 1 := by kernel_rfl
theorem enc_one (ns : List Str) : ∀ v ∈ ns.map encStr, v.oneCell' = true := by
  intro v hv
  obtain ⟨x, _, rfl⟩ := List.mem_map.1 hv
  rfl

theorem eqIn_slice (d : Nat) (o : Option Addr) (n c : Nat) (W : World) : (Op.equalIn (d + 1) 22 (.slice o n c) (.slice none 0 0)).run Try.prog W = .ok o.isNone W := by
  cases o <;> simp [Op.equalIn, run_underlying Try.underlying22]
theorem neq_slice (o : Option Addr) (n c : Nat) (W : World) : (binOp .neq 22 (.slice o n c) (.slice none 0 0)).run Try.prog W = .ok (.bool !o.isNone) W := by
  have h := eqIn_slice 9999 o n c W
  simp only [binOp]
  simp [Op.equal, Op.maxDepth, h]
theorem eql_slice (o : Option Addr) (n c : Nat) (W : World) : (binOp .eql 22 (.slice o n c) (.slice none 0 0)).run Try.prog W = .ok (.bool o.isNone) W := by
  have h := eqIn_slice 9999 o n c W
  simp only [binOp]
  simp [Op.equal, Op.maxDepth, h]
theorem neq_nil (W : World) : (binOp .neq 22 (.slice none 0 0) (.slice none 0 0)).run Try.prog W = .ok (.bool false) W := neq_slice none 0 0 W
theorem neq_some (a : Addr) (n c : Nat) (W : World) : (binOp .neq 22 (.slice (some a) n c) (.slice none 0 0)).run Try.prog W = .ok (.bool true) W := neq_slice (some a) n c W
theorem eql_nil (W : World) : (binOp .eql 22 (.slice none 0 0) (.slice none 0 0)).run Try.prog W = .ok (.bool true) W := eql_slice none 0 0 W

theorem made_row {w : World} {base g n : Nat} {xs : List Value} (h : w.ownsRow base 9 1 (.slice (some ⟨g, 0, none⟩) n n) n xs) : ∃ cur : List Value, w.heap[g]? = some (.cells cur.toArray 9 (0, 0)) ∧ cur.length = n := by
  rcases h.2 with ⟨h, _⟩ | ⟨g', cap, cur, e, _, hb, _, _, h3, _⟩
  · cases h
  · cases e
    exact ⟨cur.toList, by simpa using hb, by simpa using h3⟩
theorem src_pos {w W : World} {ad : Option Addr} {ns : List Str} (h : Holding w ad ns) (hB : Below w.heap.size w W) : 0 < (ns.map encStr).length → ∃ a, ad = some a ∧ ∀ j v, (ns.map encStr)[j]? = some v → W.cell? (a.add j) = some v := by
  intro hp
  obtain ⟨b, off, rfl, hc⟩ := h (by simpa using hp)
  refine ⟨_, rfl, fun j v hj => ?_⟩
  rw [Addr.add_mid]
  rw [List.getElem?_map] at hj
  obtain ⟨x, hx, rfl⟩ := Option.map_eq_some_iff.1 hj
  have hx' := hc j x hx
  exact (hB.cell (p := ⟨b, off + j, none⟩) (World.block_lt_of_cell? _ _ hx')).trans hx'
theorem reads_row {w : World} {g n cap : Nat} {ns : List Str} {cur : List Value} (hb : w.heap[g]? = some (.cells cur.toArray 9 (0, 0))) (hc : ∀ (j : Nat) (x : Str), ns[j]? = some x → cur[j]? = some (encStr x)) (hn : ns.length = n) : Reads w (.slice (some ⟨g, 0, none⟩) n cap) ns := by
  subst hn
  refine Or.inr ⟨g, cap, rfl, (Array.getElem?_eq_some_iff.1 hb).1, fun j x hj => ?_⟩
  rw [cell_of_row _ _ _ _ _ _ hb]
  simpa using hc j x hj
theorem splice_get (cur : List Value) (ns : List Str) (hl : ns.length ≤ cur.length) : ∀ (j : Nat) (x : Str), ns[j]? = some x → (splice cur 0 (ns.map encStr))[j]? = some (encStr x) := by
  intro j x hj
  have hlt := (List.getElem?_eq_some_iff.1 hj).1
  simp only [splice, List.take_zero, List.nil_append]
  rw [List.getElem?_append_left (by simpa using hlt)]
  simp [hj]
theorem Reads.holding {w : World} {ad : Option Addr} {n cap : Nat} {ns : List Str} (h : Reads w (.slice ad n cap) ns) : Holding w ad ns ∧ n = ns.length := by
  rcases h with ⟨h, rfl⟩ | ⟨g, cap', h, _, hc⟩
  · cases h
    exact ⟨fun h => absurd h (Nat.lt_irrefl 0), rfl⟩
  · cases h
    exact ⟨fun _ => ⟨g, 0, rfl, fun j x hj => by rw [Nat.zero_add]; exact hc j x hj⟩, rfl⟩

theorem last_cell {w : World} {g : Nat} {cur : List Value} {ns : List Str} (hb : w.heap[g]? = some (.cells (splice cur 0 (ns.map encStr)).toArray 9 (0, 0))) (hl : cur.length = ns.length + 1) :
    ∃ X, w.cell? ⟨g, ns.length, none⟩ = some X ∧ w.frozen? ⟨g, ns.length, none⟩ = false := by
  have hlen : (splice cur 0 (ns.map encStr)).length = ns.length + 1 := by rw [length_splice _ _ _ (by simp; omega)]; exact hl
  refine ⟨(splice cur 0 (ns.map encStr))[ns.length]'(by omega), ?_, by simp [World.frozen?, hb]⟩
  rw [cell_of_row _ _ _ _ _ _ hb]
  simp
theorem more_reads {w : World} {g cap : Nat} {cur : List Value} {ns : List Str} (y : Str) (hb : w.heap[g]? = some (.cells (splice cur 0 (ns.map encStr)).toArray 9 (0, 0))) (hl : cur.length = ns.length + 1) :
    Reads (w.setCell ⟨g, ns.length, none⟩ (encStr y)) (.slice (some ⟨g, 0, none⟩) (ns.length + 1) cap) (ns ++ [y]) := by
  have hlen : (splice cur 0 (ns.map encStr)).length = ns.length + 1 := by rw [length_splice _ _ _ (by simp; omega)]; exact hl
  rw [setCell_eq_setRow w g ns.length _ 9 (0, 0) (encStr y) hb]
  have hb' := setRow_heap w g _ ((splice cur 0 (ns.map encStr)).toArray.setIfInBounds ns.length (encStr y)) 9 (0, 0) hb
  refine Or.inr ⟨g, cap, by simp, (Array.getElem?_eq_some_iff.1 hb').1, fun j x hj => ?_⟩
  rw [cell_of_row _ _ _ _ _ _ hb']
  by_cases e : j = ns.length
  · subst e
    have : x = y := by simpa using hj.symm
    subst this
    simp [hlen]
  · have hlt : j < ns.length := by have := (List.getElem?_eq_some_iff.1 hj).1; simp at this; omega
    rw [List.getElem?_append_left hlt] at hj
    have := splice_get cur ns (by omega) j x hj
    simp [Array.getElem?_setIfInBounds, Ne.symm e, this]
theorem cat_str (p s : Str) : (({ data := List.toArray p } : ByteArray) ++ { data := List.toArray s }) = { data := List.toArray (p ++ s) } := by
  apply ByteArray.ext
  simp [ByteArray.data_append]

/-- The model's order on strings is the lists' own. -/
theorem bytes_lt : ∀ (x y : Str), Op.bytesLess x y = decide (x < y)
  | [], [] => by simp [Op.bytesLess]
  | [], _ :: _ => by simp [Op.bytesLess]
  | _ :: _, [] => by simp [Op.bytesLess]
  | a :: x, b :: y => by
    rw [Op.bytesLess, bytes_lt x y]
    simp only [List.cons_lt_cons_iff]
    by_cases h1 : a < b <;> by_cases h2 : a = b <;> by_cases h3 : x < y <;> simp [h1, h2, h3]

/-- The name is among the first k. -/
def seenB (y : Str) (r : List Str) (k : Nat) : Bool := decide (y ∈ r.take k)
theorem seenB_zero (y : Str) (r : List Str) : seenB y r 0 = false := by simp [seenB]
theorem seenB_succ (y : Str) (r : List Str) (k : Nat) (h : k < r.length) : seenB y r (k + 1) = (seenB y r k || decide (r[k] = y)) := by
  unfold seenB
  rw [List.take_succ_eq_append_getElem h]
  rw [Bool.eq_iff_iff]
  simp only [Bool.or_eq_true, decide_eq_true_eq, List.mem_append, List.mem_singleton]
  constructor
  · rintro (h | h)
    · exact Or.inl h
    · exact Or.inr h.symm
  · rintro (h | h)
    · exact Or.inl h
    · exact Or.inr h.symm
theorem seenB_all_true {y : Str} {r : List Str} (h : y ∈ r) : seenB y r r.length = true := by simp [seenB, h]
theorem seenB_all_false {y : Str} {r : List Str} (h : y ∉ r) : seenB y r r.length = false := by simp [seenB, h]

set_option maxHeartbeats 4000000 in
set_option maxRecDepth 20000 in
theorem law4_any (ad : Option Addr) (cap : Nat) (ns : List Str) (p s : Str) (hp : p.length ≤ maxLen) (hs : s.length ≤ maxLen) (w : World) (hv : Holding w ad ns) (hnil : ad = none → ns = [] ∧ cap = 0) (hn : ns.length ≤ maxLen) (hl : ∀ x ∈ ns, x.length ≤ maxLen) :
    Calls Try.prog 4 #[.slice ad ns.length cap, encStr p, encStr s] w fun e w' => e = .returned (.bool true) ∧ Below w.heap.size w w' := by
  obtain ⟨i0, hi, hz0, hz1, hz2⟩ := info_parts Try.info9
  have hby := hid (bytes_any ad cap ns p s hp hs w hv hn hl)
  have htb := hid (tooBig_any ad cap ns p s hp hs w hv hn hl)
  replace hv := hid hv
  replace hl := hid hl
  have hps := hid hp
  have hss := hid hs
  replace hnil := hid hnil
  unfold maxLen at hp hs hn
  go_enter Try.func4, Try.ntmps4
  go_wp2_with (go_at_call 9; refine hby.out.mono ?_; rintro e w' ⟨⟨b1, rfl⟩, rfl⟩)
  all_goals try (go_ret; exact ⟨rfl, Below.refl _ _⟩)
  refine htb.out.mono ?_
  rintro e w' ⟨⟨b2, rfl⟩, rfl⟩
  clear hby htb
  cases b2 with
  | true =>
    go_wp2_with fail
    go_ret
    exact ⟨rfl, Below.refl _ _⟩
  | false =>
  have hnn := neq_slice
  have hcat := cat_str p s
  have hlen : ns.length ≤ 65536 := by omega
  have hlp : p.length ≤ 65536 := by omega
  have hls : s.length ≤ 65536 := by omega
  cases ad with
  | none =>
    obtain ⟨hns, rfl⟩ := hnil.out rfl
    have hR2 : Hid (Reads w' (.slice none ns.length 0) ns) := Or.inl (by rw [hns]; exact ⟨rfl, rfl⟩)
    have hBw : Hid (Below w'.heap.size w' w') := Below.refl _ _
    clear hnil hns
    go_wp2_with (first
      | (at_make; refine wpList_make_full _ rfl _ _ 22 rfl w'.heap.size 9 i0 (.string ⟨#[]⟩) 1 Try.underlying22 hi hz0 hz1 _ _ _ _ (ns.length + 1) rfl rfl (by simp) (by simp) (by rw [hz2]; omega) (by unfold maxLen; omega) (Nat.le_refl _) ?_; intro w3 hrow3 hg3; obtain ⟨curM, hcurM, hclM⟩ := made_row hrow3; replace hcurM := hid hcurM; have hB3 : Hid (Below w'.heap.size w' w3) := (Below.refl _ _).grown hg3 (Nat.le_refl _) (fun j hj => by cases hj); clear hrow3 hg3)
      | ((with_reducible refine wpList_copy_splice ?_ (.tmp 58) (.tmp 59) 22 22 ?_ 9 Try.underlying22 Try.size9 (some ⟨w'.heap.size, 0, none⟩) none (ns.length + 1) (ns.length + 1) ns.length 0 ?_ ?_ w'.heap.size 0 curM 9 ?_ (ns.map encStr) ?_ ?_ ?_ (enc_one ns) w'.heap.size w' ?_ ?_ ?_); exact rfl; exact rfl; exact rfl; exact rfl; exact hcurM.out; exact (by simp); exact (fun h => ⟨rfl, src_pos hR2.out.holding.1 hB3.out h⟩); exact (by simp; omega); exact hB3.out; exact Nat.le_refl _; intro w4 hrow4 hB4; obtain ⟨X, hX, hF⟩ := last_cell hrow4.out hclM; replace hB4 := hid hB4)
      | fail)
    -- BOTH CALLS
    have hRm := more_reads (cap := ns.length + 1) (p ++ s) hrow4.out hclM
    have hBg : Below w'.heap.size w' (w4.setCell ⟨w'.heap.size, ns.length, none⟩ (encStr (p ++ s))) := hB4.out.setCell (Nat.le_refl _) _
    have hR5 := hR2.out.kept hBg (Nat.le_refl _)
    have hB5 : Below w'.heap.size w' (w4.setCell ⟨w'.heap.size, ns.length, none⟩ (encStr (p ++ s))) := hBw.out.trans (hBg.mono hBw.out.size)
    have hl2 : ∀ x ∈ ns ++ [p ++ s], x.length ≤ maxLen := fun x hx => by
      rcases List.mem_append.1 hx with h | h
      · exact hl.out x h
      · simp at h; subst h; unfold maxLen; simp; omega
    have hn2 : (ns ++ [p ++ s]).length ≤ 70000 := by simp; omega
    clear hrow4 hclM hB4 hX hF hBg hR2 hBw hcurM hB3 hcat hnn
    generalize w4.setCell ⟨w'.heap.size, ns.length, none⟩ (encStr (p ++ s)) = W5 at *
    generalize hvm : Value.slice (some ⟨w'.heap.size, 0, none⟩) (ns.length + 1) (ns.length + 1) = vm at *
    generalize Value.slice none ns.length 0 = v0 at *
    have hc1 := hid (twice_any v0 ns p s hps.out hss.out W5 hR5 (by omega) hl.out)
    refine hc1.out.mono ?_
    rintro e w6 ⟨va, va2, rfl, hB6, hnil6, hset6⟩
    have hRm6 := hRm.kept hB6 (Nat.le_refl _)
    have hc2 := hid (twice_any vm (ns ++ [p ++ s]) p s hps.out hss.out w6 hRm6 hn2 hl2)
    have hB6' := hid (hB5.trans (hB6.mono hB5.size))
    replace hB6 := hid hB6
    clear hc1 hR5 hRm hB5 hl2 hn2 hRm6
    go_wp2_with fail
    refine hc2.out.mono ?_
    rintro e w7 ⟨vb, vb2, rfl, hB7, hnil7, hset7⟩
    have hB8 := hid (hB6'.out.trans (hB7.mono hB6'.out.size))
    replace hB7 := hid hB7
    clear hc2
    by_cases hne : p = [] ∧ s = []
    · obtain ⟨rfl, rfl⟩ := hnil6 hne
      obtain ⟨rfl, rfl⟩ := hnil7 hne
      obtain ⟨rfl, rfl⟩ := hne
      have hen := eql_nil
      clear hset6 hset7 hnil6 hnil7
      go_wp2
      go_ret
      exact ⟨rfl, hB8.out⟩
    · obtain ⟨rfl, r1, hR1, hI1⟩ := hset6 hne
      obtain ⟨rfl, r2, hR2, hI2⟩ := hset7 hne
      replace hR1 := hid (hR1.kept hB7.out (Nat.le_refl _))
      replace hR2 := hid hR2
      replace hI1 := hid hI1
      replace hI2 := hid hI2
      have hln1 := isSet_length hI1.out
      have hln2 := isSet_length hI2.out
      simp only [List.length_append, List.length_cons, List.length_nil] at hln2
      clear hset6 hset7 hnil6 hnil7
      obtain ⟨ad1, cap1, rfl, hv1⟩ := hR1.out.shape
      obtain ⟨ad2, cap2, rfl, hv2⟩ := hR2.out.shape
      replace hv1 := hid hv1
      replace hv2 := hid hv2
      have hb1 : (r1.length : Int) ≤ 70000 := by omega
      have hb2 : (r2.length : Int) ≤ 70000 := by omega
      replace hln1 := hid hln1
      replace hln2 := hid hln2
      replace hlen := hid hlen
      replace hlp := hid hlp
      replace hls := hid hls
      have hasc := hid hI2.out.1
      have hT1 : Hid (p ++ s ∈ r1 → r1 = r2) := fun h => takes_same hI1.out hI2.out h
      have hT2 : Hid (p ++ s ∉ r1 → ∃ l1 l2, r2 = l1 ++ (p ++ s) :: l2 ∧ r1 = l1 ++ l2 ∧ p ++ s ∉ l1) := fun h => takes_new hI1.out hI2.out h
      clear hp hs hn hI1 hI2 hlen hlp hls hps hss hB7 hB6 hB6' hln1 hln2
      generalize p ++ s = y at *
      have hps : p ≠ [] ∨ (p = [] ∧ s.isEmpty = false) := by
        by_cases h : p = []
        · exact Or.inr ⟨h, by cases hs : s with | nil => exact absurd ⟨h, hs⟩ hne | cons _ _ => rfl⟩
        · exact Or.inl h
      clear hne
      rcases hps with hp0 | ⟨rfl, hs0⟩
      all_goals
        go_wp2
        -- THE FIRST LOOP: b is strictly ascending
        go_loopw [14] (fun i wr => ∃ m n : Nat, i = .int .i64 ((m + 1 : Nat) : Int) ∧ m ≤ r2.length ∧ wr = w7.drewN n) (fun i _ => r2.length + 1 - (intOf i).toNat)
        case atStart => exact ⟨0, 0, rfl, Nat.zero_le _, rfl⟩
        case round =>
          obtain ⟨m, n, rfl, hm, rfl⟩ := hrel
          by_cases hlt : m + 1 < r2.length
          · obtain ⟨g2, rfl, _, hc⟩ := hv2.out (by omega)
            have e1 := hc m _ (List.getElem?_eq_getElem (by omega))
            have e2 := hc (m + 1) _ (List.getElem?_eq_getElem hlt)
            have hxy := List.pairwise_iff_getElem.1 hasc.out m (m + 1) (by omega) hlt (Nat.lt_succ_self _)
            have hlt' : (m : Int) + 1 < (r2.length : Int) := by omega
            generalize r2[m] = x at e1 hxy
            generalize r2[m + 1] = z at e2 hxy
            have hbl : Op.bytesLess x z = true := by rw [bytes_lt]; simpa using hxy
            clear hc hxy
            go_wp2
            go_quiet (fail)
            go_wp2
            go_roundw
            case rel => exact ⟨m + 1, _, by go_num, by omega, rfl⟩
            case measure => simp [intOf]; omega
          · clear hm
            have hlt' : ¬ ((m : Int) + 1 < (r2.length : Int)) := by omega
            go_wp2
            clear hlt hlt'
            -- THE SECOND LOOP: is the name among a's?
            go_loop [15, 16] (fun t i => ∃ k : Nat, k ≤ r1.length ∧ i = .int .i64 k ∧ t = .bool (seenB y r1 k)) (fun _ i => r1.length - (intOf i).toNat)
            case atStart => exact ⟨0, Nat.zero_le _, rfl, by rw [seenB_zero]⟩
            case round =>
              obtain ⟨k, hk, rfl, rfl⟩ := hrel
              by_cases hlt : k < r1.length
              · obtain ⟨g1, rfl, _, hc⟩ := hv1.out (by omega)
                have e1 := hc k _ (List.getElem?_eq_getElem hlt)
                have hlt' : (k : Int) < (r1.length : Int) := by omega
                have hS := hid (seenB_succ y r1 k hlt)
                generalize r1[k] = x at e1 hS
                clear hc
                by_cases hxy : x = y
                · subst hxy
                  go_wp2
                  go_round
                  case rel => exact ⟨k + 1, by omega, by go_num, by rw [hS.out]; simp⟩
                  case measure => simp [intOf]; omega
                · have hxy' : (x == y) = false := by simpa using hxy
                  replace hxy := hid hxy
                  go_wp2
                  go_round
                  case rel => exact ⟨k + 1, by omega, by go_num, by rw [hS.out]; simp [hxy.out]⟩
                  case measure => simp [intOf]; omega
              · have hke : k = r1.length := by omega
                subst hke
                clear hlt hk
                by_cases hin : y ∈ r1
                · rw [seenB_all_true hin]
                  have hr := hT1.out hin
                  subst hr
                  have hsame := hid (same_any _ _ r1 (w7.drewN n) (hR1.out.kept (Below.ofDrewN (Below.refl _ _) n) (Nat.le_refl _)) (hR2.out.kept (Below.ofDrewN (Below.refl _ _) n) (Nat.le_refl _)) (by omega))
                  go_wp2_with (go_at_call 10; refine hsame.out.mono ?_; rintro e w9 ⟨rfl, n9, rfl⟩)
                  go_ret
                  first | exact ⟨rfl, Below.ofDrewN hB8.out _⟩ | exact ⟨rfl, Below.ofDrewN (Below.ofDrewN hB8.out _) _⟩
                · rw [seenB_all_false hin]
                  obtain ⟨l1, l2, hr2, hr1, hn1⟩ := hT2.out hin
                  have hle2 : r2.length = l1.length + 1 + l2.length := by rw [hr2]; simp; omega
                  have hle1 : r1.length = l1.length + l2.length := by rw [hr1]; simp
                  have hle : ((r2.length : Int) == (r1.length : Int) + 1) = true := by simp; omega
                  have h2a : ∀ k (h : k < l1.length), r2[k]? = some l1[k] ∧ r1[k]? = some l1[k] := fun k h => by
                    rw [hr2, hr1]; simp [List.getElem?_append_left h, h]
                  have h2b : r2[l1.length]? = some y := by rw [hr2]; simp
                  have h2c : ∀ m (h : l1.length ≤ m) (h' : m + 1 < r2.length), ∃ x, r2[m + 1]? = some x ∧ r1[m]? = some x := fun m h h' => by
                    have hl : m - l1.length < l2.length := by omega
                    refine ⟨l2[m - l1.length], ?_, ?_⟩
                    · rw [hr2, List.getElem?_append_right (by omega), show m + 1 - l1.length = (m - l1.length) + 1 by omega]; simp [hl]
                    · rw [hr1, List.getElem?_append_right h]; simp [hl]
                  have hn1' : ∀ k (h : k < l1.length), l1[k] ≠ y := fun k h e => hn1 (e ▸ List.getElem_mem h)
                  replace hle2 := hid hle2
                  replace hle1 := hid hle1
                  replace h2a := hid h2a
                  replace h2b := hid h2b
                  replace h2c := hid h2c
                  replace hn1' := hid hn1'
                  clear hr2 hr1 hn1 hT1 hT2 hin hasc
                  go_wp2
                  -- THE THIRD LOOP: b is a with the name in its place
                  go_loopw [17, 18, 19] (fun j pt i wr => ∃ k n : Nat, Hid (k ≤ r2.length) ∧ i = .int .i64 k ∧ wr = w7.drewN n ∧ ((k ≤ l1.length ∧ pt = .bool false ∧ j = .int .i64 k) ∨ ∃ m : Nat, k = m + 1 ∧ l1.length ≤ m ∧ pt = .bool true ∧ j = .int .i64 m)) (fun _ _ i _ => r2.length - (intOf i).toNat)
                  case atStart => exact ⟨0, _, Nat.zero_le _, rfl, rfl, Or.inl ⟨Nat.zero_le _, rfl, rfl⟩⟩
                  case round =>
                    obtain ⟨k, n2, hk, rfl, rfl, hcase⟩ := hrel
                    rcases hcase with ⟨hk1, rfl, rfl⟩ | ⟨m, rfl, hm1, rfl, rfl⟩
                    · have hlt : k < r2.length := by have := hle2.out; omega
                      obtain ⟨g2, rfl, _, hc2⟩ := hv2.out (by omega)
                      have hlt' : (k : Int) < (r2.length : Int) := by omega
                      by_cases hkl : k < l1.length
                      · obtain ⟨x2, x1⟩ := h2a.out k hkl
                        obtain ⟨g1, rfl, _, hc1⟩ := hv1.out (by have := hle1.out; omega)
                        have e2 := hc2 k _ x2
                        have e1 := hc1 k _ x1
                        have hxy := hn1'.out k hkl
                        have hk1' : (k : Int) < (r1.length : Int) := by have := hle1.out; omega
                        have hk1'' : decide (r1.length ≤ k) = false := by simp; omega
                        generalize l1[k] = x at e1 e2 hxy
                        have hxy' : (x == y) = false := by simpa using hxy
                        clear hc1 hc2 x1 x2 hxy
                        go_wp2
                        go_quiet (fail)
                        go_wp2
                        go_roundw
                        case rel => exact ⟨k + 1, _, hid (by omega), by go_num, rfl, Or.inl ⟨by omega, rfl, by go_num⟩⟩
                        case measure => simp [intOf]; omega
                      · obtain rfl : k = l1.length := by omega
                        have e2 := hc2 _ _ h2b.out
                        clear hc2
                        go_wp2
                        go_roundw
                        case rel => exact ⟨l1.length + 1, _, hid (by omega), by go_num, rfl, Or.inr ⟨l1.length, rfl, Nat.le_refl _, rfl, rfl⟩⟩
                        case measure => simp [intOf]; omega
                    · by_cases hlt : m + 1 < r2.length
                      · obtain ⟨g2, rfl, _, hc2⟩ := hv2.out (by omega)
                        obtain ⟨x, x2, x1⟩ := h2c.out m hm1 hlt
                        have hmr : m < r1.length := by have := hle1.out; have := hle2.out; omega
                        obtain ⟨g1, rfl, _, hc1⟩ := hv1.out (by omega)
                        have e2 := hc2 _ _ x2
                        have e1 := hc1 _ _ x1
                        have hlt' : (m : Int) + 1 < (r2.length : Int) := by omega
                        have hk1' : (m : Int) < (r1.length : Int) := by omega
                        have hk1'' : decide (r1.length ≤ m) = false := by simp; omega
                        clear hc1 hc2 x1 x2
                        go_wp2
                        go_quiet (fail)
                        go_wp2
                        go_roundw
                        case rel => exact ⟨m + 1 + 1, _, hid (by omega), by go_num, rfl, Or.inr ⟨m + 1, rfl, by omega, rfl, by go_num⟩⟩
                        case measure => simp [intOf]; omega
                      · have hlt' : ¬ ((m : Int) + 1 < (r2.length : Int)) := by omega
                        go_wp2
                        go_ret
                        exact ⟨rfl, Below.ofDrewN hB8.out _⟩
  | some a =>
    go_wp2_with (first
      | (at_make; refine wpList_make_full _ rfl _ _ 22 rfl w'.heap.size 9 i0 (.string ⟨#[]⟩) 1 Try.underlying22 hi hz0 hz1 _ _ _ _ ns.length rfl rfl rfl rfl (by rw [hz2]; omega) (by unfold maxLen; omega) (Nat.le_refl _) ?_; intro w1 hrow1 hg1; obtain ⟨cur, hcur, hcl⟩ := made_row hrow1; replace hcur := hid hcur; have hB1 : Hid (Below w'.heap.size w' w1) := (Below.refl _ _).grown hg1 (Nat.le_refl _) (fun j hj => by cases hj); clear hrow1 hg1)
      | ((with_reducible refine wpList_copy_splice ?_ (.tmp 47) (.tmp 48) 22 22 ?_ 9 Try.underlying22 Try.size9 (some ⟨w'.heap.size, 0, none⟩) (some a) ns.length ns.length ns.length cap ?_ ?_ w'.heap.size 0 cur 9 ?_ (ns.map encStr) ?_ ?_ ?_ (enc_one ns) w'.heap.size w' ?_ ?_ ?_); exact rfl; exact rfl; exact rfl; exact rfl; exact hcur.out; exact (by simp); exact (fun h => ⟨rfl, src_pos hv.out hB1.out h⟩); exact (by simp; omega); exact hB1.out; exact Nat.le_refl _; intro w2 hrow2 hB2; have hR2 := hid (reads_row (cap := ns.length) hrow2.out (splice_get cur ns (by omega)) rfl); have hBw := hid hB2; clear hrow2 hcur hB1 hB2)
      | (at_make; refine wpList_make_full _ rfl _ _ 22 rfl w2.heap.size 9 i0 (.string ⟨#[]⟩) 1 Try.underlying22 hi hz0 hz1 _ _ _ _ (ns.length + 1) rfl rfl (by simp) (by simp) (by rw [hz2]; omega) (by unfold maxLen; omega) (Nat.le_refl _) ?_; intro w3 hrow3 hg3; obtain ⟨curM, hcurM, hclM⟩ := made_row hrow3; replace hcurM := hid hcurM; have hB3 : Hid (Below w2.heap.size w2 w3) := (Below.refl _ _).grown hg3 (Nat.le_refl _) (fun j hj => by cases hj); clear hrow3 hg3)
      | ((with_reducible refine wpList_copy_splice ?_ (.tmp 58) (.tmp 59) 22 22 ?_ 9 Try.underlying22 Try.size9 (some ⟨w2.heap.size, 0, none⟩) (some ⟨w'.heap.size, 0, none⟩) (ns.length + 1) (ns.length + 1) ns.length ns.length ?_ ?_ w2.heap.size 0 curM 9 ?_ (ns.map encStr) ?_ ?_ ?_ (enc_one ns) w2.heap.size w2 ?_ ?_ ?_); exact rfl; exact rfl; exact rfl; exact rfl; exact hcurM.out; exact (by simp); exact (fun h => ⟨rfl, src_pos hR2.out.holding.1 hB3.out h⟩); exact (by simp; omega); exact hB3.out; exact Nat.le_refl _; intro w4 hrow4 hB4; obtain ⟨X, hX, hF⟩ := last_cell hrow4.out hclM; replace hB4 := hid hB4)
      | fail)
    -- BOTH CALLS
    have hRm := more_reads (cap := ns.length + 1) (p ++ s) hrow4.out hclM
    have hBg : Below w2.heap.size w2 (w4.setCell ⟨w2.heap.size, ns.length, none⟩ (encStr (p ++ s))) := hB4.out.setCell (Nat.le_refl _) _
    have hR5 := hR2.out.kept hBg (Nat.le_refl _)
    have hB5 : Below w'.heap.size w' (w4.setCell ⟨w2.heap.size, ns.length, none⟩ (encStr (p ++ s))) := hBw.out.trans (hBg.mono hBw.out.size)
    have hl2 : ∀ x ∈ ns ++ [p ++ s], x.length ≤ maxLen := fun x hx => by
      rcases List.mem_append.1 hx with h | h
      · exact hl.out x h
      · simp at h; subst h; unfold maxLen; simp; omega
    have hn2 : (ns ++ [p ++ s]).length ≤ 70000 := by simp; omega
    clear hrow4 hclM hB4 hX hF hBg hR2 hBw hcurM hB3 hcat hnn
    generalize w4.setCell ⟨w2.heap.size, ns.length, none⟩ (encStr (p ++ s)) = W5 at *
    generalize hvm : Value.slice (some ⟨w2.heap.size, 0, none⟩) (ns.length + 1) (ns.length + 1) = vm at *
    generalize Value.slice (some ⟨w'.heap.size, 0, none⟩) ns.length ns.length = v0 at *
    have hc1 := hid (twice_any v0 ns p s hps.out hss.out W5 hR5 (by omega) hl.out)
    refine hc1.out.mono ?_
    rintro e w6 ⟨va, va2, rfl, hB6, hnil6, hset6⟩
    have hRm6 := hRm.kept hB6 (Nat.le_refl _)
    have hc2 := hid (twice_any vm (ns ++ [p ++ s]) p s hps.out hss.out w6 hRm6 hn2 hl2)
    have hB6' := hid (hB5.trans (hB6.mono hB5.size))
    replace hB6 := hid hB6
    clear hc1 hR5 hRm hB5 hl2 hn2 hRm6
    go_wp2_with fail
    refine hc2.out.mono ?_
    rintro e w7 ⟨vb, vb2, rfl, hB7, hnil7, hset7⟩
    have hB8 := hid (hB6'.out.trans (hB7.mono hB6'.out.size))
    replace hB7 := hid hB7
    clear hc2
    by_cases hne : p = [] ∧ s = []
    · obtain ⟨rfl, rfl⟩ := hnil6 hne
      obtain ⟨rfl, rfl⟩ := hnil7 hne
      obtain ⟨rfl, rfl⟩ := hne
      have hen := eql_nil
      clear hset6 hset7 hnil6 hnil7
      go_wp2
      go_ret
      exact ⟨rfl, hB8.out⟩
    · obtain ⟨rfl, r1, hR1, hI1⟩ := hset6 hne
      obtain ⟨rfl, r2, hR2, hI2⟩ := hset7 hne
      replace hR1 := hid (hR1.kept hB7.out (Nat.le_refl _))
      replace hR2 := hid hR2
      replace hI1 := hid hI1
      replace hI2 := hid hI2
      have hln1 := isSet_length hI1.out
      have hln2 := isSet_length hI2.out
      simp only [List.length_append, List.length_cons, List.length_nil] at hln2
      clear hset6 hset7 hnil6 hnil7
      obtain ⟨ad1, cap1, rfl, hv1⟩ := hR1.out.shape
      obtain ⟨ad2, cap2, rfl, hv2⟩ := hR2.out.shape
      replace hv1 := hid hv1
      replace hv2 := hid hv2
      have hb1 : (r1.length : Int) ≤ 70000 := by omega
      have hb2 : (r2.length : Int) ≤ 70000 := by omega
      replace hln1 := hid hln1
      replace hln2 := hid hln2
      replace hlen := hid hlen
      replace hlp := hid hlp
      replace hls := hid hls
      have hasc := hid hI2.out.1
      have hT1 : Hid (p ++ s ∈ r1 → r1 = r2) := fun h => takes_same hI1.out hI2.out h
      have hT2 : Hid (p ++ s ∉ r1 → ∃ l1 l2, r2 = l1 ++ (p ++ s) :: l2 ∧ r1 = l1 ++ l2 ∧ p ++ s ∉ l1) := fun h => takes_new hI1.out hI2.out h
      clear hp hs hn hI1 hI2 hlen hlp hls hps hss hB7 hB6 hB6' hln1 hln2
      generalize p ++ s = y at *
      have hps : p ≠ [] ∨ (p = [] ∧ s.isEmpty = false) := by
        by_cases h : p = []
        · exact Or.inr ⟨h, by cases hs : s with | nil => exact absurd ⟨h, hs⟩ hne | cons _ _ => rfl⟩
        · exact Or.inl h
      clear hne
      rcases hps with hp0 | ⟨rfl, hs0⟩
      all_goals
        go_wp2
        -- THE FIRST LOOP: b is strictly ascending
        go_loopw [14] (fun i wr => ∃ m n : Nat, i = .int .i64 ((m + 1 : Nat) : Int) ∧ m ≤ r2.length ∧ wr = w7.drewN n) (fun i _ => r2.length + 1 - (intOf i).toNat)
        case atStart => exact ⟨0, 0, rfl, Nat.zero_le _, rfl⟩
        case round =>
          obtain ⟨m, n, rfl, hm, rfl⟩ := hrel
          by_cases hlt : m + 1 < r2.length
          · obtain ⟨g2, rfl, _, hc⟩ := hv2.out (by omega)
            have e1 := hc m _ (List.getElem?_eq_getElem (by omega))
            have e2 := hc (m + 1) _ (List.getElem?_eq_getElem hlt)
            have hxy := List.pairwise_iff_getElem.1 hasc.out m (m + 1) (by omega) hlt (Nat.lt_succ_self _)
            have hlt' : (m : Int) + 1 < (r2.length : Int) := by omega
            generalize r2[m] = x at e1 hxy
            generalize r2[m + 1] = z at e2 hxy
            have hbl : Op.bytesLess x z = true := by rw [bytes_lt]; simpa using hxy
            clear hc hxy
            go_wp2
            go_quiet (fail)
            go_wp2
            go_roundw
            case rel => exact ⟨m + 1, _, by go_num, by omega, rfl⟩
            case measure => simp [intOf]; omega
          · clear hm
            have hlt' : ¬ ((m : Int) + 1 < (r2.length : Int)) := by omega
            go_wp2
            clear hlt hlt'
            -- THE SECOND LOOP: is the name among a's?
            go_loop [15, 16] (fun t i => ∃ k : Nat, k ≤ r1.length ∧ i = .int .i64 k ∧ t = .bool (seenB y r1 k)) (fun _ i => r1.length - (intOf i).toNat)
            case atStart => exact ⟨0, Nat.zero_le _, rfl, by rw [seenB_zero]⟩
            case round =>
              obtain ⟨k, hk, rfl, rfl⟩ := hrel
              by_cases hlt : k < r1.length
              · obtain ⟨g1, rfl, _, hc⟩ := hv1.out (by omega)
                have e1 := hc k _ (List.getElem?_eq_getElem hlt)
                have hlt' : (k : Int) < (r1.length : Int) := by omega
                have hS := hid (seenB_succ y r1 k hlt)
                generalize r1[k] = x at e1 hS
                clear hc
                by_cases hxy : x = y
                · subst hxy
                  go_wp2
                  go_round
                  case rel => exact ⟨k + 1, by omega, by go_num, by rw [hS.out]; simp⟩
                  case measure => simp [intOf]; omega
                · have hxy' : (x == y) = false := by simpa using hxy
                  replace hxy := hid hxy
                  go_wp2
                  go_round
                  case rel => exact ⟨k + 1, by omega, by go_num, by rw [hS.out]; simp [hxy.out]⟩
                  case measure => simp [intOf]; omega
              · have hke : k = r1.length := by omega
                subst hke
                clear hlt hk
                by_cases hin : y ∈ r1
                · rw [seenB_all_true hin]
                  have hr := hT1.out hin
                  subst hr
                  have hsame := hid (same_any _ _ r1 (w7.drewN n) (hR1.out.kept (Below.ofDrewN (Below.refl _ _) n) (Nat.le_refl _)) (hR2.out.kept (Below.ofDrewN (Below.refl _ _) n) (Nat.le_refl _)) (by omega))
                  go_wp2_with (go_at_call 10; refine hsame.out.mono ?_; rintro e w9 ⟨rfl, n9, rfl⟩)
                  go_ret
                  first | exact ⟨rfl, Below.ofDrewN hB8.out _⟩ | exact ⟨rfl, Below.ofDrewN (Below.ofDrewN hB8.out _) _⟩
                · rw [seenB_all_false hin]
                  obtain ⟨l1, l2, hr2, hr1, hn1⟩ := hT2.out hin
                  have hle2 : r2.length = l1.length + 1 + l2.length := by rw [hr2]; simp; omega
                  have hle1 : r1.length = l1.length + l2.length := by rw [hr1]; simp
                  have hle : ((r2.length : Int) == (r1.length : Int) + 1) = true := by simp; omega
                  have h2a : ∀ k (h : k < l1.length), r2[k]? = some l1[k] ∧ r1[k]? = some l1[k] := fun k h => by
                    rw [hr2, hr1]; simp [List.getElem?_append_left h, h]
                  have h2b : r2[l1.length]? = some y := by rw [hr2]; simp
                  have h2c : ∀ m (h : l1.length ≤ m) (h' : m + 1 < r2.length), ∃ x, r2[m + 1]? = some x ∧ r1[m]? = some x := fun m h h' => by
                    have hl : m - l1.length < l2.length := by omega
                    refine ⟨l2[m - l1.length], ?_, ?_⟩
                    · rw [hr2, List.getElem?_append_right (by omega), show m + 1 - l1.length = (m - l1.length) + 1 by omega]; simp [hl]
                    · rw [hr1, List.getElem?_append_right h]; simp [hl]
                  have hn1' : ∀ k (h : k < l1.length), l1[k] ≠ y := fun k h e => hn1 (e ▸ List.getElem_mem h)
                  replace hle2 := hid hle2
                  replace hle1 := hid hle1
                  replace h2a := hid h2a
                  replace h2b := hid h2b
                  replace h2c := hid h2c
                  replace hn1' := hid hn1'
                  clear hr2 hr1 hn1 hT1 hT2 hin hasc
                  go_wp2
                  -- THE THIRD LOOP: b is a with the name in its place
                  go_loopw [17, 18, 19] (fun j pt i wr => ∃ k n : Nat, Hid (k ≤ r2.length) ∧ i = .int .i64 k ∧ wr = w7.drewN n ∧ ((k ≤ l1.length ∧ pt = .bool false ∧ j = .int .i64 k) ∨ ∃ m : Nat, k = m + 1 ∧ l1.length ≤ m ∧ pt = .bool true ∧ j = .int .i64 m)) (fun _ _ i _ => r2.length - (intOf i).toNat)
                  case atStart => exact ⟨0, _, Nat.zero_le _, rfl, rfl, Or.inl ⟨Nat.zero_le _, rfl, rfl⟩⟩
                  case round =>
                    obtain ⟨k, n2, hk, rfl, rfl, hcase⟩ := hrel
                    rcases hcase with ⟨hk1, rfl, rfl⟩ | ⟨m, rfl, hm1, rfl, rfl⟩
                    · have hlt : k < r2.length := by have := hle2.out; omega
                      obtain ⟨g2, rfl, _, hc2⟩ := hv2.out (by omega)
                      have hlt' : (k : Int) < (r2.length : Int) := by omega
                      by_cases hkl : k < l1.length
                      · obtain ⟨x2, x1⟩ := h2a.out k hkl
                        obtain ⟨g1, rfl, _, hc1⟩ := hv1.out (by have := hle1.out; omega)
                        have e2 := hc2 k _ x2
                        have e1 := hc1 k _ x1
                        have hxy := hn1'.out k hkl
                        have hk1' : (k : Int) < (r1.length : Int) := by have := hle1.out; omega
                        have hk1'' : decide (r1.length ≤ k) = false := by simp; omega
                        generalize l1[k] = x at e1 e2 hxy
                        have hxy' : (x == y) = false := by simpa using hxy
                        clear hc1 hc2 x1 x2 hxy
                        go_wp2
                        go_quiet (fail)
                        go_wp2
                        go_roundw
                        case rel => exact ⟨k + 1, _, hid (by omega), by go_num, rfl, Or.inl ⟨by omega, rfl, by go_num⟩⟩
                        case measure => simp [intOf]; omega
                      · obtain rfl : k = l1.length := by omega
                        have e2 := hc2 _ _ h2b.out
                        clear hc2
                        go_wp2
                        go_roundw
                        case rel => exact ⟨l1.length + 1, _, hid (by omega), by go_num, rfl, Or.inr ⟨l1.length, rfl, Nat.le_refl _, rfl, rfl⟩⟩
                        case measure => simp [intOf]; omega
                    · by_cases hlt : m + 1 < r2.length
                      · obtain ⟨g2, rfl, _, hc2⟩ := hv2.out (by omega)
                        obtain ⟨x, x2, x1⟩ := h2c.out m hm1 hlt
                        have hmr : m < r1.length := by have := hle1.out; have := hle2.out; omega
                        obtain ⟨g1, rfl, _, hc1⟩ := hv1.out (by omega)
                        have e2 := hc2 _ _ x2
                        have e1 := hc1 _ _ x1
                        have hlt' : (m : Int) + 1 < (r2.length : Int) := by omega
                        have hk1' : (m : Int) < (r1.length : Int) := by omega
                        have hk1'' : decide (r1.length ≤ m) = false := by simp; omega
                        clear hc1 hc2 x1 x2
                        go_wp2
                        go_quiet (fail)
                        go_wp2
                        go_roundw
                        case rel => exact ⟨m + 1 + 1, _, hid (by omega), by go_num, rfl, Or.inr ⟨m + 1, rfl, by omega, rfl, by go_num⟩⟩
                        case measure => simp [intOf]; omega
                      · have hlt' : ¬ ((m : Int) + 1 < (r2.length : Int)) := by omega
                        go_wp2
                        go_ret
                        exact ⟨rfl, Below.ofDrewN hB8.out _⟩
end Go.Proofs.Qxb6618623a
