/- An integer of 64 bits is read exactly from what is one in as few bytes as it takes: the law FnReadInt64 answers true for every byte string (from 101 bytes on it is true at once). This text: the plain statement over lists of numbers. -/
import Derived.Test.YtapnkngcnlomhaaQAx5
import Derived.Test.YtapnkngcnlomhaaInts
set_option linter.unusedSimpArgs false
set_option linter.unusedVariables false
namespace Go.Proofs.Ytapnkngcnlomhaa.Pure
open Go.RowKit Go.Proofs.Ytapnkngcnlomhaa.QA Go.Proofs.YtapnkngcnlomhaaW.PrintWords Go.Proofs.YtapnkngcnlomhaaW.PrintLast Go.Proofs.Ytapnkngcnlomhaa.Math Go.Proofs.Ytapnkngcnlomhaa.Ints

theorem FnReadInt64 : laws_FnReadInt64.Pure := by
  intro l hl hl2 hb
  refine ⟨20, ?_⟩
  unfold laws_FnReadInt64.f
  by_cases h1 : (l.length : Int) > 2147483647
  · rw [if_pos h1]
  rw [if_neg h1]
  by_cases h2 : (l.length : Int) > 100
  · rw [if_pos h2]
  rw [if_neg h2, shortest_tells, seven64 20 (by omega)]
  obtain ⟨n, ok, e, ho, hv⟩ := readInt_tells l hb (by omega) 20 (by omega)
  rw [e]
  simp only [Option.bind_some]
  cases hs : short l with
  | false =>
    have : ok = false := by rw [ho, hs]; rfl
    simp [this]
  | true =>
    have h0 : 0 < l.length := by
      simp only [short, Bool.and_eq_true, decide_eq_true_eq] at hs; exact hs.1
    by_cases h8 : l.length ≤ 8
    · have o1 : ok = true := by rw [ho, hs]; simpa using h8
      have h8' : (l.length : Int) ≤ 8 := by omega
      rw [integer_tells l hb h0 h8 20 (by omega), hv o1]
      simp [o1, h8, h8']
    · have o1 : ok = false := by rw [ho, hs]; simpa using h8
      have h8' : ¬ ((l.length : Int) ≤ 8) := by omega
      simp [o1, h8, h8']

end Go.Proofs.Ytapnkngcnlomhaa.Pure
