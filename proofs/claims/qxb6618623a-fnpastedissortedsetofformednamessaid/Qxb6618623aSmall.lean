/-
  THE SMALL WALKS of the laws: zzBytes, zzTooBig, zzSameStrings.
-/
import Derived.Test.Qxb6618623aTwice
set_option linter.unusedSimpArgs false
set_option linter.unusedVariables false
namespace Go.Proofs.Qxb6618623a
open Go.RowKit Go.Maps Go.Sort Go.MapKept Plain

/-- What a slice of strings that came in holds. -/
def Holding (w : World) (ad : Option Addr) (ns : List Str) : Prop := 0 < ns.length → ∃ b off, ad = some ⟨b, off, none⟩ ∧ ∀ j x, ns[j]? = some x → w.cell? ⟨b, off + j, none⟩ = some (encStr x)

/-- It returns a bool. -/
def SomeBool (e : Ending) : Prop := ∃ b, e = .returned (.bool b)

set_option maxHeartbeats 1000000 in
set_option maxRecDepth 20000 in
theorem tooBig_any (ad : Option Addr) (cap : Nat) (ns : List Str) (p s : Str) (hp : p.length ≤ maxLen) (hs : s.length ≤ maxLen) (w : World) (hv : Holding w ad ns) (hn : ns.length ≤ maxLen) (hl : ∀ x ∈ ns, x.length ≤ maxLen) :
    Calls Try.prog 6 #[.slice ad ns.length cap, encStr p, encStr s] w fun e w' => SomeBool e ∧ w' = w := by
  replace hv := hid hv
  replace hl := hid hl
  unfold maxLen at hp hs hn
  go_enter Try.func6, Try.ntmps6
  go_wp2
  go_loop [7, 8] (fun t i => ∃ (k : Nat) (z : Int), k ≤ ns.length ∧ i = .int .i64 k ∧ t = .int .i64 z) (fun _ i => ns.length - (intOf i).toNat)
  case atStart => exact ⟨0, _, Nat.zero_le _, rfl, rfl⟩
  case round =>
    obtain ⟨k, z, hk, rfl, rfl⟩ := hrel
    by_cases hlt : k < ns.length
    · obtain ⟨b, off, rfl, hc⟩ := hv.out (by omega)
      have hck := hc k _ (List.getElem?_eq_getElem hlt)
      have hxl := hl.out _ (List.getElem_mem hlt)
      generalize ns[k] = x at hck hxl
      unfold maxLen at hxl
      clear hc
      go_wp2
      · go_ret
        exact ⟨⟨_, rfl⟩, rfl⟩
      · go_round
        case rel => exact ⟨k + 1, _, by omega, by go_num, rfl⟩
        case measure => simp [intOf]; omega
    · go_wp2
      go_ret
      exact ⟨⟨_, rfl⟩, rfl⟩

set_option maxHeartbeats 1000000 in
set_option maxRecDepth 20000 in
theorem bytes_any (ad : Option Addr) (cap : Nat) (ns : List Str) (p s : Str) (hp : p.length ≤ maxLen) (hs : s.length ≤ maxLen) (w : World) (hv : Holding w ad ns) (hn : ns.length ≤ maxLen) (hl : ∀ x ∈ ns, x.length ≤ maxLen) :
    Calls Try.prog 9 #[.slice ad ns.length cap, encStr p, encStr s] w fun e w' => SomeBool e ∧ w' = w := by
  replace hv := hid hv
  replace hl := hid hl
  unfold maxLen at hp hs hn
  go_enter Try.func9, Try.ntmps9
  go_wp2
  · go_ret
    exact ⟨⟨_, rfl⟩, rfl⟩
  go_loop [7, 8] (fun t i => ∃ (k : Nat) (z : Int), k ≤ ns.length ∧ i = .int .i64 k ∧ t = .int .i64 z) (fun _ i => ns.length - (intOf i).toNat)
  case atStart => exact ⟨0, _, Nat.zero_le _, rfl, rfl⟩
  case round =>
    obtain ⟨k, z, hk, rfl, rfl⟩ := hrel
    by_cases hlt : k < ns.length
    · obtain ⟨b, off, rfl, hc⟩ := hv.out (by omega)
      have hck := hc k _ (List.getElem?_eq_getElem hlt)
      have hxl := hl.out _ (List.getElem_mem hlt)
      generalize ns[k] = x at hck hxl
      unfold maxLen at hxl
      clear hc
      go_wp2
      all_goals first
        | (go_ret; exact ⟨⟨_, rfl⟩, rfl⟩)
        | (go_round
           case rel => exact ⟨k + 1, _, by omega, by go_num, rfl⟩
           case measure => simp [intOf]; omega)
    · go_wp2
      all_goals
        go_ret
        exact ⟨⟨_, rfl⟩, rfl⟩

set_option maxHeartbeats 1000000 in
set_option maxRecDepth 20000 in
/-- The same text under the other law's name. -/
theorem bytes2_any (ad : Option Addr) (cap : Nat) (ns : List Str) (p s : Str) (hp : p.length ≤ maxLen) (hs : s.length ≤ maxLen) (w : World) (hv : Holding w ad ns) (hn : ns.length ≤ maxLen) (hl : ∀ x ∈ ns, x.length ≤ maxLen) :
    Calls Try.prog 5 #[.slice ad ns.length cap, encStr p, encStr s] w fun e w' => SomeBool e ∧ w' = w := by
  replace hv := hid hv
  replace hl := hid hl
  unfold maxLen at hp hs hn
  go_enter Try.func5, Try.ntmps5
  go_wp2
  · go_ret
    exact ⟨⟨_, rfl⟩, rfl⟩
  go_loop [7, 8] (fun t i => ∃ (k : Nat) (z : Int), k ≤ ns.length ∧ i = .int .i64 k ∧ t = .int .i64 z) (fun _ i => ns.length - (intOf i).toNat)
  case atStart => exact ⟨0, _, Nat.zero_le _, rfl, rfl⟩
  case round =>
    obtain ⟨k, z, hk, rfl, rfl⟩ := hrel
    by_cases hlt : k < ns.length
    · obtain ⟨b, off, rfl, hc⟩ := hv.out (by omega)
      have hck := hc k _ (List.getElem?_eq_getElem hlt)
      have hxl := hl.out _ (List.getElem_mem hlt)
      generalize ns[k] = x at hck hxl
      unfold maxLen at hxl
      clear hc
      go_wp2
      all_goals first
        | (go_ret; exact ⟨⟨_, rfl⟩, rfl⟩)
        | (go_round
           case rel => exact ⟨k + 1, _, by omega, by go_num, rfl⟩
           case measure => simp [intOf]; omega)
    · go_wp2
      all_goals
        go_ret
        exact ⟨⟨_, rfl⟩, rfl⟩

/-! ### zzSameStrings -/
set_option maxHeartbeats 1000000 in
set_option maxRecDepth 20000 in
theorem same_any (v1 v2 : Value) (r : List Str) (w : World) (h1 : Reads w v1 r) (h2 : Reads w v2 r) (hr : r.length ≤ 70000) :
    Calls Try.prog 10 #[v1, v2] w fun e w' => e = .returned (.bool true) ∧ ∃ n, w' = w.drewN n := by
  obtain ⟨ad1, cap1, rfl, hv1⟩ := h1.shape
  obtain ⟨ad2, cap2, rfl, hv2⟩ := h2.shape
  clear h1 h2
  replace hv1 := hid hv1
  replace hv2 := hid hv2
  have hr' : (r.length : Int) ≤ 70000 := by omega
  clear hr
  go_enter Try.func10, Try.ntmps10
  go_wp2
  go_loopw [5] (fun i wr => ∃ k : Nat, k ≤ r.length ∧ i = .int .i64 k ∧ ∃ n, wr = w.drewN n) (fun i _ => r.length - (intOf i).toNat)
  case atStart => exact ⟨0, Nat.zero_le _, rfl, 0, rfl⟩
  case round =>
    obtain ⟨k, hk, rfl, n, rfl⟩ := hrel
    by_cases hlt : k < r.length
    · obtain ⟨g1, rfl, _, hc1⟩ := hv1.out (by omega)
      obtain ⟨g2, rfl, _, hc2⟩ := hv2.out (by omega)
      have e1 := hc1 k _ (List.getElem?_eq_getElem hlt)
      have e2 := hc2 k _ (List.getElem?_eq_getElem hlt)
      have hlt' : (k : Int) < (r.length : Int) := by omega
      generalize r[k] = x at e1 e2
      clear hc1 hc2
      go_wp2
      go_quiet (fail)
      go_wp2
      go_roundw
      case rel => exact ⟨k + 1, by omega, by go_num, _, rfl⟩
      case measure => simp [intOf]; omega
    · go_wp2
      go_ret
      exact ⟨rfl, n, rfl⟩
end Go.Proofs.Qxb6618623a
