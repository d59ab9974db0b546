/-
  THE WALKS of zzForms and zzFind.
-/
import Derived.Test.Qxb6618623aLaw4
set_option linter.unusedSimpArgs false
set_option linter.unusedVariables false
namespace Go.Proofs.Qxb6618623a
open Go.RowKit Go.Maps Go.Sort Go.MapKept Plain

/-! ### the plain facts -/
theorem pre_false {p s x : Str} {k : Nat} (hk : k < p.length) (hx : k < x.length) (h : x[k] ≠ p[k]) : formed p s x = false := by
  have : Lib.hasPrefix x p = false := by
    cases e : Lib.hasPrefix x p with
    | false => rfl
    | true =>
      exfalso
      obtain ⟨t, rfl⟩ := List.isPrefixOf_iff_prefix.1 e
      exact h (by rw [List.getElem_append_left hk])
  simp [formed, this]
theorem suf_false {p s x : Str} {o k : Nat} (ho : x.length = o + s.length) (hk : k < s.length) (h : x[o + k] ≠ s[k]) : formed p s x = false := by
  have : Lib.hasSuffix x s = false := by
    cases e : Lib.hasSuffix x s with
    | false => rfl
    | true =>
      exfalso
      obtain ⟨t, rfl⟩ := List.isSuffixOf_iff_suffix.1 e
      have : t.length = o := by simp at ho; omega
      subst this
      exact h (by rw [List.getElem_append_right (by omega)]; simp)
  simp [formed, this]
theorem short_false {p s x : Str} (h : x.length < p.length ∨ x.length < s.length) : formed p s x = false := by
  cases e : formed p s x with
  | false => rfl
  | true =>
    exfalso
    simp only [formed, Lib.hasPrefix, Lib.hasSuffix, Bool.and_eq_true, List.isPrefixOf_iff_prefix, List.isSuffixOf_iff_suffix] at e
    have := e.1.length_le
    have := e.2.length_le
    omega
theorem all_true {p s x : Str} {o : Nat} (ho : x.length = o + s.length) (h1 : x.take p.length = p) (h2 : (x.drop o).take s.length = s) : formed p s x = true := by
  simp only [formed, Lib.hasPrefix, Lib.hasSuffix, Bool.and_eq_true, List.isPrefixOf_iff_prefix, List.isSuffixOf_iff_suffix]
  refine ⟨⟨x.drop p.length, by have := List.take_append_drop p.length x; rw [h1] at this; exact this⟩, ⟨x.take o, ?_⟩⟩
  rw [List.take_of_length_le (by simp; omega)] at h2
  rw [← h2]; simp
theorem take_grow {a b : Str} {k : Nat} (h : a.take k = b.take k) (h1 : k < a.length) (h2 : k < b.length) (e : a[k] = b[k]) : a.take (k + 1) = b.take (k + 1) := by
  rw [List.take_succ_eq_append_getElem h1, List.take_succ_eq_append_getElem h2, h, e]
theorem dd (w : World) (n m : Nat) : ∃ k, (w.drewN n).drewN m = w.drewN k := ⟨n + m, by simp⟩
theorem byte_at (x : Str) (k : Nat) (h : k < x.length) (h' : k < (⟨x.toArray⟩ : ByteArray).size) : (⟨x.toArray⟩ : ByteArray)[k] = x[k] := rfl

set_option maxHeartbeats 1000000 in
set_option maxRecDepth 20000 in
theorem zzforms_any (p s x : Str) (hp : p.length ≤ maxLen) (hs : s.length ≤ maxLen) (hx : x.length ≤ maxLen) (w : World) :
    Calls Try.prog 12 #[encStr p, encStr s, encStr x] w fun e w' => e = .returned (.bool (formed p s x)) ∧ ∃ n, w' = w.drewN n := by
  unfold maxLen at hp hs hx
  by_cases hl1 : x.length < p.length
  · have hl1' : (x.length : Int) < (p.length : Int) := by omega
    have hf := hid (short_false (p := p) (s := s) (Or.inl hl1))
    go_enter Try.func12, Try.ntmps12
    go_wp2
    go_ret
    exact ⟨by rw [hf.out]; rfl, 0, rfl⟩
  by_cases hl2 : x.length < s.length
  · have hl1' : ¬ ((x.length : Int) < (p.length : Int)) := by omega
    have hl2' : (x.length : Int) < (s.length : Int) := by omega
    have hf := hid (short_false (p := p) (s := s) (Or.inr hl2))
    go_enter Try.func12, Try.ntmps12
    go_wp2
    go_ret
    exact ⟨by rw [hf.out]; rfl, 0, rfl⟩
  obtain ⟨o, ho⟩ : ∃ o, x.length = o + s.length := ⟨x.length - s.length, by omega⟩
  replace ho := hid ho
  have hl1' : ¬ ((x.length : Int) < (p.length : Int)) := by omega
  have hl2' : ¬ ((x.length : Int) < (s.length : Int)) := by omega
  have hoff : (x.length : Int) - (s.length : Int) = (o : Int) := by have := ho.out; omega
  have hob : (o : Int) ≤ x.length := by omega
  generalize hF : formed p s x = F
  replace hF := hid hF
  go_enter Try.func12, Try.ntmps12
  go_wp2
  go_loopw [7] (fun i wr => ∃ k n : Nat, k ≤ p.length ∧ i = .int .i64 k ∧ Hid (x.take k = p.take k) ∧ wr = w.drewN n) (fun i _ => p.length - (intOf i).toNat)
  case atStart => exact ⟨0, 0, Nat.zero_le _, rfl, rfl, rfl⟩
  case round =>
    obtain ⟨k, n, hk, rfl, hT, rfl⟩ := hrel
    by_cases hlt : k < p.length
    · have hlt' : (k : Int) < (p.length : Int) := by omega
      have hlx : k < x.length := by omega
      have hlx' : (k : Int) < (x.length : Int) := by omega
      have ha := byte_at x k hlx hlx
      have hb := byte_at p k hlt hlt
      by_cases hab : x[k] = p[k]
      · have hT' := hid (take_grow hT.out hlx hlt hab)
        rw [hab] at ha
        generalize p[k] = b at ha hb
        clear hab
        go_wp2
        go_quiet (fail)
        go_wp2
        go_roundw
        case rel => exact ⟨k + 1, _, by omega, by go_num, hT', rfl⟩
        case measure => simp [intOf]; omega
      · have hff := pre_false (s := s) hlt hlx hab
        rw [hF.out] at hff
        generalize p[k] = b at hab hb
        generalize x[k] = a at hab ha
        have hne : ((a.toNat : Int) != (b.toNat : Int)) = true := by
          simp; intro e; exact hab (UInt8.toNat_inj.1 (by omega))
        subst hff
        clear hab
        go_wp2
        go_quiet (fail)
        go_wp2
        go_ret
        exact ⟨rfl, dd _ _ _⟩
    · have hke : k = p.length := by omega
      subst hke
      have hTp : Hid (x.take p.length = p) := by have := hT.out; rw [List.take_length] at this; exact this
      have hlt' : ¬ ((p.length : Int) < (p.length : Int)) := by omega
      clear hlt hk hT
      go_wp2
      go_loopw [9] (fun i wr => ∃ k n : Nat, k ≤ s.length ∧ i = .int .i64 k ∧ Hid ((x.drop o).take k = s.take k) ∧ wr = w.drewN n) (fun i _ => s.length - (intOf i).toNat)
      case atStart => exact ⟨0, n, Nat.zero_le _, rfl, rfl, rfl⟩
      case round =>
        obtain ⟨k, n, hk, rfl, hT, rfl⟩ := hrel
        by_cases hlt : k < s.length
        · have hlt' : (k : Int) < (s.length : Int) := by omega
          obtain ⟨q, hq⟩ : ∃ q, q = o + k := ⟨_, rfl⟩
          have hlx : q < x.length := by have := ho.out; omega
          have hlx' : (q : Int) < (x.length : Int) := by omega
          have hw : IntKind.i64.wrap ((o : Int) + (k : Int)) = (q : Int) := by rw [IntKind.wrap_i64]; omega
          have ha := byte_at x q hlx hlx
          have hb := byte_at s k hlt hlt
          by_cases hab : x[q] = s[k]
          · have hT' : Hid ((x.drop o).take (k + 1) = s.take (k + 1)) := take_grow hT.out (by simp; omega) hlt (by subst hq; simpa using hab)
            rw [hab] at ha
            generalize s[k] = b at ha hb
            clear hab hq
            go_wp2
            go_quiet (fail)
            go_wp2
            go_roundw
            case rel => exact ⟨k + 1, _, by omega, by go_num, hT', rfl⟩
            case measure => simp [intOf]; omega
          · have hff : formed p s x = false := by subst hq; exact suf_false (p := p) ho.out hlt hab
            rw [hF.out] at hff
            generalize s[k] = b at hab hb
            generalize x[q] = a at hab ha
            have hne : ((a.toNat : Int) != (b.toNat : Int)) = true := by
              simp; intro e; exact hab (UInt8.toNat_inj.1 (by omega))
            subst hff
            clear hab hq
            go_wp2
            go_quiet (fail)
            go_wp2
            go_ret
            exact ⟨rfl, dd _ _ _⟩
        · have hke : k = s.length := by omega
          subst hke
          have hTs : (x.drop o).take s.length = s := by have := hT.out; rw [List.take_length] at this; exact this
          have hft := all_true ho.out hTp.out hTs
          rw [hF.out] at hft
          subst hft
          clear hTs hT hlt hk
          have hlt' : ¬ ((s.length : Int) < (s.length : Int)) := by omega
          go_wp2
          go_ret
          exact ⟨rfl, _, rfl⟩
/-! ### zzFind -/
set_option maxHeartbeats 1000000 in
set_option maxRecDepth 20000 in
theorem find_any (v : Value) (r : List Str) (x : Str) (w : World) (hv : Reads w v r) (hr : r.length ≤ 70000) (hasc : r.Pairwise (· < ·)) (jx : Nat) (hj : r[jx]? = some x) :
    Calls Try.prog 13 #[v, encStr x] w fun e w' => e = .returned (.int .i64 jx) ∧ w' = w := by
  have hjl := (List.getElem?_eq_some_iff.1 hj).1
  have hjx := (List.getElem?_eq_some_iff.1 hj).2
  obtain ⟨g, cap, rfl, hg, hc⟩ := hv.pos (by omega)
  have hlo : ∀ m (h : m < r.length), m < jx → Op.bytesLess r[m] x = true := fun m h hm => by
    rw [bytes_lt, ← hjx]; simpa using List.pairwise_iff_getElem.1 hasc m jx h hjl hm
  have hhi : ∀ m (h : m < r.length), jx ≤ m → Op.bytesLess r[m] x = false := fun m h hm => by
    rw [bytes_lt, ← hjx]
    by_cases e : jx = m
    · subst e; simp [List.lt_irrefl]
    · have := List.pairwise_iff_getElem.1 hasc jx m hjl h (by omega)
      simpa using fun h' => List.lt_irrefl _ (List.lt_trans this h')
  replace hlo := hid hlo
  replace hhi := hid hhi
  replace hc := hid hc
  replace hj := hid hj
  have hrb : (r.length : Int) ≤ 70000 := by omega
  clear hv hasc hjx hr
  go_enter Try.func13, Try.ntmps13
  go_wp2
  go_loop [5, 6] (fun lo hi => ∃ l h : Nat, lo = .int .i64 l ∧ hi = .int .i64 h ∧ l ≤ jx ∧ jx ≤ h ∧ h ≤ r.length) (fun lo hi => (intOf hi).toNat - (intOf lo).toNat)
  case atStart => exact ⟨0, r.length, rfl, rfl, Nat.zero_le _, by omega, Nat.le_refl _⟩
  case round =>
    obtain ⟨l, h, rfl, rfl, hl, hh, hhr⟩ := hrel
    by_cases hlt : l < h
    · obtain ⟨m, hm⟩ : ∃ m, m = l + (h - l) / 2 := ⟨_, rfl⟩
      have hlt' : (l : Int) < (h : Int) := by omega
      have hmr : m < r.length := by omega
      have hmr' : (m : Int) < (r.length : Int) := by omega
      have e1 := hc.out m _ (List.getElem?_eq_getElem hmr)
      have hmid : (l : Int) + ((h : Int) - (l : Int)) / 2 = (m : Int) := by omega
      by_cases hmj : m < jx
      · have hb := hlo.out m hmr hmj
        generalize r[m] = y at e1 hb
        replace hm := hid hm
        go_wp2
        go_round
        case rel => exact ⟨m + 1, h, by go_num, rfl, by omega, hh, hhr⟩
        case measure => simp [intOf]; have := hm.out; omega
      · have hb := hhi.out m hmr (by omega)
        generalize r[m] = y at e1 hb
        replace hm := hid hm
        go_wp2
        go_round
        case rel => exact ⟨l, m, rfl, rfl, hl, by omega, by omega⟩
        case measure => simp [intOf]; have := hm.out; omega
    · obtain rfl : l = jx := by omega
      have hlt' : ¬ ((l : Int) < (h : Int)) := by omega
      have hjl' : (l : Int) < (r.length : Int) := by omega
      have e1 := hc.out l _ hj.out
      go_wp2
      go_ret
      exact ⟨rfl, rfl⟩
end Go.Proofs.Qxb6618623a
