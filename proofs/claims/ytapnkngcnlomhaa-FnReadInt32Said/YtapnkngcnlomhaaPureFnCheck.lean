/- Bytes are an integer exactly if there are some, and none is too much: the law FnCheck answers true for every byte string (from 101 bytes on it is true at once). This text: the plain statement over lists of numbers. -/
import Derived.Test.YtapnkngcnlomhaaQAx1
import Derived.Test.YtapnkngcnlomhaaMath
set_option linter.unusedSimpArgs false
set_option linter.unusedVariables false
namespace Go.Proofs.Ytapnkngcnlomhaa.Pure
open Go.RowKit Go.Proofs.Ytapnkngcnlomhaa.QA Go.Proofs.YtapnkngcnlomhaaW.PrintWords Go.Proofs.YtapnkngcnlomhaaW.PrintLast Go.Proofs.Ytapnkngcnlomhaa.Math

/-- The bytes are an integer in as few bytes as it takes. -/
def short (l : List Int) : Bool := decide (0 < l.length) && (decide (l.length = 1) || !(decide (rd l 0 = 0 ∧ rd l 1 < 128) || decide (rd l 0 = 255 ∧ 128 ≤ rd l 1)))

theorem checkInteger_tells (l : List Int) (hb : Bytes l) : ∃ r, asn1_checkInteger.f l = some r ∧ r.isNone = short l := by
  have b1 := rd_byte hb 1
  have e1 : Go.bits .and .u8 (rd l 1) 128 = 128 * (rd l 1 / 128) := u8_and128 b1.1 b1.2
  unfold asn1_checkInteger.f short
  rw [e1]
  by_cases h0 : l.length = 0
  · refine ⟨some 0, ?_, ?_⟩ <;> simp [h0]
  by_cases h1 : l.length = 1
  · refine ⟨none, ?_, ?_⟩ <;> simp [h1]
  have h0' : ¬ ((l.length : Int) = 0) := by omega
  have h1' : ¬ ((l.length : Int) = 1) := by omega
  have h2 : 0 < (l.length : Int) := by omega
  have h3 : 1 < (l.length : Int) := by omega
  have h4 : 0 < l.length := by omega
  rw [if_neg h0', if_neg h1', if_pos h2]
  by_cases a0 : rd l 0 = 0
  · have a5 : ¬ (rd l 0 = 255) := by omega
    rw [if_pos a0, if_pos h3]
    by_cases c : rd l 1 < 128
    · rw [if_pos (by omega)]; exact ⟨_, rfl, by simp [h4, h1, a0, c]⟩
    · rw [if_neg (by omega), if_neg a5]; exact ⟨_, rfl, by simp [h4, h1, a0, c]⟩
  · rw [if_neg a0]
    by_cases a5 : rd l 0 = 255
    · rw [if_pos a5, if_pos h3]
      by_cases c : rd l 1 < 128
      · rw [if_neg (by omega)]; exact ⟨_, rfl, by simp [h4, h1, a0, a5, c]⟩
      · rw [if_pos (by omega)]; exact ⟨_, rfl, by simp [h4, h1, a0, a5]; omega⟩
    · rw [if_neg a5]; exact ⟨_, rfl, by simp [h4, h1, a0, a5]⟩

theorem shortest_tells (l : List Int) : spec_Shortest.f l = some (short l) := by
  unfold spec_Shortest.f short
  by_cases h2 : (l.length : Int) < 2
  · rw [if_pos h2]
    by_cases h1 : l.length = 1
    · simp [h1]
    · have : l.length = 0 := by omega
      simp [this]
  have h0 : 0 < (l.length : Int) := by omega
  have h3 : 1 < (l.length : Int) := by omega
  have h4 : 0 < l.length := by omega
  have h1 : ¬ (l.length = 1) := by omega
  rw [if_neg h2, if_pos h0]
  by_cases a0 : rd l 0 = 0
  · have a5 : ¬ (rd l 0 = 255) := by omega
    rw [if_pos a0, if_pos h3]
    by_cases c : rd l 1 < 128
    · rw [if_pos c]; simp [h4, h1, a0, c]
    · rw [if_neg c, if_neg a5]; simp [h4, h1, a0, c]
  · rw [if_neg a0]
    by_cases a5 : rd l 0 = 255
    · rw [if_pos a5, if_pos h3]; simp [h4, h1, a5]
    · rw [if_neg a5]; simp [h4, h1, a0, a5]

theorem copied_tells (l : List Int) (h : l.length ≤ 10000) : impl_copied.f l = some l := by simp [impl_copied.f]; omega
theorem short_tells (l : List Int) (h : l.length ≤ 10000) : impl_short.f l = some true := by simp [impl_short.f]; omega

theorem check_tells (l : List Int) (hb : Bytes l) (h : l.length ≤ 10000) : impl_Check.f l = some (short l) := by
  obtain ⟨r, hr, e⟩ := checkInteger_tells l hb
  simp only [impl_Check.f, copied_tells l h, short_tells l h, Option.bind_some, if_true, asn1_ZZCheckInteger.f, hr, e]
  cases short l <;> simp

theorem FnCheck : laws_FnCheck.Pure := by
  intro l hl hl2 hb
  unfold laws_FnCheck.f
  by_cases h1 : (l.length : Int) > 2147483647
  · rw [if_pos h1]
  rw [if_neg h1]
  by_cases h2 : (l.length : Int) > 100
  · rw [if_pos h2]
  rw [if_neg h2]
  have e2 : impl_Check.f [7] = some true := by rw [check_tells _ (bytes_single (by omega) (by omega)) (by simp)]; simp [short]
  rw [check_tells l hb (by omega), shortest_tells, e2]
  simp

end Go.Proofs.Ytapnkngcnlomhaa.Pure
