/- spec.Header's end: a member's length. -/
import Derived.Test.YtmiemfgcggkbnaaSoB
import Derived.Test.YtmiemfgcggkbnaaQSx2
namespace Go.Proofs.Ytmiemfgcggkbnaa.QS
set_option linter.unusedVariables false
set_option linter.unusedSimpArgs false
open Go.RowKit Go.Proofs.YtmiemfgcggkbnaaW.PrintWords Go.Proofs.YtmiemfgcggkbnaaW.PrintLast Go.Proofs.YtmiemfgcggkbnaaW.PrintMore
theorem rd_in {l : List Int} (hb : bytesIn l) {i : Int} (h0 : 0 ≤ i) (h : i < (l.length : Int)) : 0 ≤ rd l i ∧ rd l i ≤ 255 := by
  apply hb
  unfold rd
  rw [List.getD_eq_getElem?_getD, List.getElem?_eq_getElem (show i.toNat < l.length by omega)]
  exact List.getElem_mem _
theorem base_end (l : List Int) (hl : l.length ≤ 2147483647) (a : Nat) (ha : a ≤ 10) : ∀ (d i k : Nat) (n : Int), i + d = a + 5 → a ≤ i → 3 * d + 2 < k → ∃ x y ok, spec_Base128.l0 k l (a : Int) n (i : Int) = some (x, y, ok) ∧ (ok = true → 1 ≤ y ∧ y ≤ (a : Int) + 5)
  | 0, i, k, n, h, hi, hk => by
    obtain ⟨k, rfl⟩ : ∃ m, k = m + 1 := ⟨k - 1, by omega⟩
    obtain ⟨k, rfl⟩ : ∃ m, k = m + 1 := ⟨k - 1, by omega⟩
    refine ⟨0, 0, false, ?_, fun h => by cases h⟩
    have hw : wrap64 ((a : Int) + 5) = (a : Int) + 5 := by unfold wrap64; omega
    simp only [spec_Base128.l0, spec_Base128.j1]
    by_cases h1 : (i : Int) < (l.length : Int)
    · rw [if_pos h1, hw, if_neg (by rw [decide_eq_true_eq]; omega)]
    · rw [if_neg h1, if_neg (by decide)]
  | d + 1, i, k, n, h, hi, hk => by
    obtain ⟨k, rfl⟩ : ∃ m, k = m + 1 := ⟨k - 1, by omega⟩
    obtain ⟨k, rfl⟩ : ∃ m, k = m + 1 := ⟨k - 1, by omega⟩
    obtain ⟨k, rfl⟩ : ∃ m, k = m + 1 := ⟨k - 1, by omega⟩
    have hw : wrap64 ((a : Int) + 5) = (a : Int) + 5 := by unfold wrap64; omega
    have hw1 : wrap64 ((i : Int) + 1) = ((i + 1 : Nat) : Int) := by unfold wrap64; omega
    by_cases h1 : (i : Int) < (l.length : Int)
    · have step : ∃ x y ok, spec_Base128.j2 (k + 1) l (a : Int) n (i : Int) false = some (x, y, ok) ∧ (ok = true → 1 ≤ y ∧ y ≤ (a : Int) + 5) := by
        simp only [spec_Base128.j2]
        rw [if_neg (by decide), if_pos (by omega), if_pos h1, hw1]
        by_cases h2 : rd l (i : Int) < 128
        · rw [if_pos h2]
          exact ⟨_, _, _, rfl, fun _ => by omega⟩
        · rw [if_neg h2]
          exact base_end l hl a ha d (i + 1) k _ (by omega) (by omega) (by omega)
      have e : spec_Base128.l0 (k + 1 + 1 + 1) l (a : Int) n (i : Int) = spec_Base128.j1 (k + 1 + 1) l (a : Int) n (i : Int) true := by
        conv => lhs; unfold spec_Base128.l0
        rw [if_pos h1, hw, decide_eq_true (by omega)]
      rw [e]
      conv => enter [1, x, 1, y, 1, ok, 1, 1]; unfold spec_Base128.j1
      rw [if_pos rfl]
      by_cases h3 : (i : Int) = (a : Int)
      · rw [if_pos h3, if_pos (by omega), if_pos h1]
        cases hb : (rd l (i : Int) == 128) with
        | true =>
          simp only [spec_Base128.j2]
          rw [if_pos trivial]
          exact ⟨_, _, _, rfl, fun h => by cases h⟩
        | false => exact step
      · rw [if_neg h3]
        exact step
    · refine ⟨0, 0, false, ?_, fun h => by cases h⟩
      simp only [spec_Base128.l0, spec_Base128.j1]
      rw [if_neg h1, if_neg (by decide)]
/-- The long form: at its end the length is 128 or more, or it is none. -/
theorem long_end (l : List Int) (hl : l.length ≤ 2147483647) (n c t : Int) (b : Bool) : ∀ (d : Nat) (x1 x92 len : Int) (k : Nat), n - x92 ≤ d → 0 ≤ x92 → 0 ≤ x1 → x1 + (n - x92) ≤ (l.length : Int) → n ≤ 2147483647 → d < k →
    ∃ r1 r2 r3 r4 r5 r6, spec_Header.l0 k l x1 n x92 c t len b = some (r1, r2, r3, r4, r5, r6) ∧ (r6 = true → 128 ≤ r3)
  | d, x1, x92, len, k, h, h0, h1, hx, hm, hk => by
    obtain ⟨k, rfl⟩ : ∃ m, k = m + 1 := ⟨k - 1, by omega⟩
    simp only [spec_Header.l0]
    by_cases c1 : x92 < n
    · rw [if_pos c1]
      have hw1 : wrap64 (x1 + 1) = x1 + 1 := by unfold wrap64; omega
      have hw2 : wrap64 (x92 + 1) = x92 + 1 := by unfold wrap64; omega
      obtain ⟨d, rfl⟩ : ∃ m, d = m + 1 := ⟨d - 1, by omega⟩
      have step := fun len' => long_end l hl n c t b d (x1 + 1) (x92 + 1) len' k (by omega) (by omega) (by omega) (by omega) (by omega) (by omega)
      rw [hw1, hw2]
      by_cases c2 : x92 = 0
      · rw [if_pos c2, if_pos h1, if_pos (by omega)]
        by_cases c3 : rd l x1 = 0
        · rw [if_pos c3]
          exact ⟨_, _, _, _, _, _, rfl, fun h => by cases h⟩
        · rw [if_neg c3]
          by_cases c4 : len ≥ 8388608
          · rw [if_pos c4]
            exact ⟨_, _, _, _, _, _, rfl, fun h => by cases h⟩
          · rw [if_neg c4]
            exact step _
      · rw [if_neg c2]
        by_cases c4 : len ≥ 8388608
        · rw [if_pos c4]
          exact ⟨_, _, _, _, _, _, rfl, fun h => by cases h⟩
        · rw [if_neg c4, if_pos h1, if_pos (by omega)]
          exact step _
    · rw [if_neg c1]
      exact ⟨_, _, _, _, _, _, rfl, fun h => of_decide_eq_true h⟩
theorem len_end (l : List Int) (hb : bytesIn l) (hl : l.length ≤ 2147483647) (x1 c t : Int) (b : Bool) (k : Nat) (h0 : 0 ≤ x1) (hx : x1 ≤ 7) (hk : l.length + 10 < k) :
    ∃ r1 r2 r3 r4 r5 r6, spec_Header.j0 k l x1 c t 0 b = some (r1, r2, r3, r4, r5, r6) ∧ (r6 = true → r3 ≤ 127 → 0 ≤ r3 ∧ 1 ≤ r5 ∧ r5 ≤ 8) := by
  obtain ⟨k, rfl⟩ : ∃ m, k = m + 1 := ⟨k - 1, by omega⟩
  obtain ⟨k, rfl⟩ : ∃ m, k = m + 1 := ⟨k - 1, by omega⟩
  simp only [spec_Header.j0]
  by_cases c1 : x1 ≥ (l.length : Int)
  · rw [if_pos c1]
    exact ⟨_, _, _, _, _, _, rfl, fun h => by cases h⟩
  · rw [if_neg c1, if_pos h0, if_pos (by omega)]
    have hr := rd_in hb h0 (show x1 < (l.length : Int) by omega)
    have hwr : wrap64 (rd l x1) = rd l x1 := by unfold wrap64; omega
    have hw1 : wrap64 (x1 + 1) = x1 + 1 := by unfold wrap64; omega
    have hw2 : wrap64 ((l.length : Int) - (x1 + 1)) = (l.length : Int) - (x1 + 1) := by unfold wrap64; omega
    rw [hwr, hw1, hw2]
    by_cases c2 : rd l x1 < 128
    · rw [if_pos c2]
      exact ⟨_, _, _, _, _, _, rfl, fun _ _ => by omega⟩
    · rw [if_neg c2]
      obtain ⟨n, hn⟩ : ∃ n, n = Go.bits .and .i64 (rd l x1) 127 := ⟨_, rfl⟩
      rw [← hn]
      by_cases c3 : n = 0
      · rw [if_pos c3]
        simp only [spec_Header.j1]
        rw [if_pos trivial]
        exact ⟨_, _, _, _, _, _, rfl, fun h => by cases h⟩
      · rw [if_neg c3]
        simp only [spec_Header.j1]
        by_cases c4 : n > (l.length : Int) - (x1 + 1)
        · rw [if_pos (decide_eq_true c4)]
          exact ⟨_, _, _, _, _, _, rfl, fun h => by cases h⟩
        · rw [if_neg (by rw [decide_eq_true_eq]; exact c4)]
          obtain ⟨r1, r2, r3, r4, r5, r6, he, hp⟩ := long_end l hl n c t b n.toNat (x1 + 1) 0 0 k (by omega) (by omega) (by omega) (by omega) (by omega) (by omega)
          exact ⟨r1, r2, r3, r4, r5, r6, he, fun h h9 => by have := hp h; omega⟩
theorem header_end (l : List Int) (hb : bytesIn l) (hl : l.length ≤ 2147483647) :
    ∃ r1 r2 r3 r4 r5 r6, spec_Header.f (l.length + 60) l 0 = some (r1, r2, r3, r4, r5, r6) ∧ (r6 = true → r3 ≤ 127 → 0 ≤ r3 ∧ 1 ≤ r5 ∧ r5 ≤ 8) := by
  unfold spec_Header.f
  by_cases c1 : (0 : Int) ≥ (l.length : Int)
  · rw [if_pos c1]
    exact ⟨_, _, _, _, _, _, rfl, fun h => by cases h⟩
  · rw [if_neg c1, if_pos (by omega), if_pos (by omega)]
    have hw : wrap64 ((0 : Int) + 1) = ((1 : Nat) : Int) := by unfold wrap64; rfl
    rw [hw]
    by_cases c2 : wrap64 (Go.bits .and .u8 (rd l 0) 31) = 31
    · rw [if_pos c2]
      obtain ⟨x, y, ok, he, hp⟩ := base_end l hl 1 (by omega) 5 1 (l.length + 60) 0 (by omega) (by omega) (by omega)
      unfold spec_Base128.f
      rw [he]
      simp only [Option.bind_some]
      cases ok with
      | false =>
        rw [if_neg (by decide)]
        exact ⟨_, _, _, _, _, _, rfl, fun h => by cases h⟩
      | true =>
        rw [if_pos rfl]
        have h9 := hp rfl
        by_cases c3 : x < 31
        · rw [if_pos c3]
          exact ⟨_, _, _, _, _, _, rfl, fun h => by cases h⟩
        · rw [if_neg c3]
          exact len_end l hb hl y _ _ _ _ (by omega) (by omega) (by omega)
    · rw [if_neg c2]
      exact len_end l hb hl _ _ _ _ _ (by omega) (by omega) (by omega)
end Go.Proofs.Ytmiemfgcggkbnaa.QS
