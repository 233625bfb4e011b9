/- An integer of 32 bits is read exactly from what is one in as few bytes as it takes: the law FnReadInt32 answers true for every byte string (from 101 bytes on it is true at once). This text: the plain statement over lists of numbers. -/
import Derived.Test.YtapnkngcnlomhaaQAx5
import Derived.Test.YtapnkngcnlomhaaInts
set_option linter.unusedSimpArgs false
set_option linter.unusedVariables false
namespace Go.Proofs.Ytapnkngcnlomhaa.Pure
open Go.RowKit Go.Proofs.Ytapnkngcnlomhaa.QA Go.Proofs.YtapnkngcnlomhaaW.PrintWords Go.Proofs.YtapnkngcnlomhaaW.PrintLast Go.Proofs.Ytapnkngcnlomhaa.Math Go.Proofs.Ytapnkngcnlomhaa.Ints

theorem fits (b : List Int) (hb : Bytes b) (h0 : 0 < b.length) (hl : b.length ≤ 4) : wrap32 (wrap64 (Sg b b.length)) = wrap64 (Sg b b.length) := by
  obtain ⟨r, e, r0, r1⟩ := U_split b hb (b.length - 1)
  have hr := rd_byte hb 0
  rw [show b.length - 1 + 1 = b.length by omega] at e
  unfold Sg
  rw [e]
  generalize rd b 0 = a at *
  have hn : b.length = 1 ∨ b.length = 2 ∨ b.length = 3 ∨ b.length = 4 := by omega
  clear e
  rcases hn with hn | hn | hn | hn <;> rw [hn] at r1 ⊢ <;> simp only [Nat.reduceMul, Nat.reduceSub, Int.reducePow, Int.mul_one, Int.ediv_one] at r1 ⊢ <;> unfold wrap64 wrap32 <;> split <;> omega

theorem too_great (b : List Int) (hb : Bytes b) (hs : short b = true) (h0 : 4 < b.length) (hl : b.length ≤ 8) : wrap64 (wrap32 (wrap64 (Sg b b.length))) ≠ wrap64 (Sg b b.length) := by
  obtain ⟨r, e, r0, r1⟩ := U_split2 b hb (b.length - 2)
  have hr := rd_byte hb 0
  have hr1 := rd_byte hb 1
  rw [show b.length - 2 + 2 = b.length by omega] at e
  have hs2 : ¬ (rd b 0 = 0 ∧ rd b 1 < 128) ∧ ¬ (rd b 0 = 255 ∧ 128 ≤ rd b 1) := by
    have h1 : b.length ≠ 1 := by omega
    simp only [short, h1, decide_false, Bool.false_or, Bool.and_eq_true, Bool.not_eq_true', Bool.or_eq_false_iff, decide_eq_false_iff_not] at hs
    exact hs.2
  unfold Sg
  rw [e]
  generalize rd b 0 = a at *
  generalize rd b 1 = c at *
  have hn : b.length = 5 ∨ b.length = 6 ∨ b.length = 7 ∨ b.length = 8 := by omega
  clear e hs
  rcases hn with hn | hn | hn | hn <;> rw [hn] at r1 ⊢ <;> simp only [Nat.reduceMul, Nat.reduceSub, Int.reducePow, Int.mul_one, Int.ediv_one] at r1 ⊢ <;> unfold wrap64 wrap32 <;> split <;> omega

theorem readInt32_tells (b : List Int) (hb : Bytes b) (hl : b.length ≤ 10000) (k : Nat) (hk : 10 ≤ k) :
    ∃ n ok, impl_ReadInt32.f k b = some (n, ok) ∧ ok = (short b && decide (b.length ≤ 4)) ∧ (ok = true → n = wrap64 (Sg b b.length)) := by
  obtain ⟨n, e, hp, ho, hv⟩ := parse_tells b hb k hk
  obtain ⟨r, hr, he⟩ := checkInteger_tells b hb
  unfold impl_ReadInt32.f
  rw [short_tells b hl]
  simp only [Option.bind_some, if_true]
  rw [copied_tells b hl]
  simp only [Option.bind_some, asn1_ZZInt32.f, asn1_parseInt32.f, hr, hp]
  cases r with
  | some c =>
    have hs : short b = false := by rw [← he]; rfl
    exact ⟨0, false, by simp, by rw [hs]; rfl, by simp⟩
  | none =>
    have hs : short b = true := by rw [← he]; rfl
    have h0 : 0 < b.length := by
      have hs2 := hs
      simp only [short, Bool.and_eq_true, decide_eq_true_eq] at hs2; exact hs2.1
    rw [hs]
    simp only [Option.isNone_none, if_true]
    cases e with
    | some c =>
      have h8 : ¬ (b.length ≤ 8) := by
        rw [hs] at ho; simpa using ho
      exact ⟨0, false, by simp, by simp; omega, by simp⟩
    | none =>
      have h8 : b.length ≤ 8 := by
        rw [hs] at ho; simpa using ho
      have ev := hv rfl
      simp only [Option.isNone_none, if_true]
      by_cases h4 : b.length ≤ 4
      · have hf := fits b hb h0 h4
        rw [← ev] at hf
        rw [if_pos (by rw [hf, ev]; unfold wrap64; omega), hf]
        exact ⟨n, true, rfl, by simp [h4], fun _ => ev⟩
      · have hf := too_great b hb hs (by omega) h8
        rw [← ev] at hf
        rw [if_neg (fun h => hf h.symm)]
        exact ⟨0, false, by simp, by simp; omega, by simp⟩

theorem seven32 (k : Nat) (hk : 10 ≤ k) : impl_ReadInt32.f k [7] = some (7, true) := by
  obtain ⟨n, ok, h, ho, hv⟩ := readInt32_tells [7] (bytes_single (by omega) (by omega)) (by simp) k hk
  have : ok = true := by rw [ho]; simp [short]
  subst this
  rw [h, hv rfl]
  simp [Sg, U, rd]
  unfold wrap64; omega

theorem FnReadInt32 : laws_FnReadInt32.Pure := by
  intro l hl hl2 hb
  refine ⟨20, ?_⟩
  unfold laws_FnReadInt32.f
  by_cases h1 : (l.length : Int) > 2147483647
  · rw [if_pos h1]
  rw [if_neg h1]
  by_cases h2 : (l.length : Int) > 100
  · rw [if_pos h2]
  rw [if_neg h2, shortest_tells, seven32 20 (by omega)]
  obtain ⟨n, ok, e, ho, hv⟩ := readInt32_tells l hb (by omega) 20 (by omega)
  rw [e]
  simp only [Option.bind_some]
  cases hs : short l with
  | false =>
    have : ok = false := by rw [ho, hs]; rfl
    simp [this]
  | true =>
    have h0 : 0 < l.length := by
      simp only [short, Bool.and_eq_true, decide_eq_true_eq] at hs; exact hs.1
    by_cases h8 : l.length ≤ 4
    · have o1 : ok = true := by rw [ho, hs]; simpa using h8
      have h8' : (l.length : Int) ≤ 4 := by omega
      rw [integer_tells l hb h0 (by omega) 20 (by omega), hv o1]
      have : wrap64 (wrap64 (Sg l l.length)) = wrap64 (Sg l l.length) := by unfold wrap64; omega
      simp [o1, h8, h8', this]
    · have o1 : ok = false := by rw [ho, hs]; simpa using h8
      have h8' : ¬ ((l.length : Int) ≤ 4) := by omega
      simp [o1, h8, h8']

end Go.Proofs.Ytapnkngcnlomhaa.Pure
