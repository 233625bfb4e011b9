/- One byte is a truth, 0 or 255, and nothing else is: the law FnReadBool answers true for every byte string (of whatever length; from 101 bytes on it is true at once). This text: the plain statement over lists of numbers. -/
import Derived.Test.YtapnkngcnlomhaaQAx2
import Derived.Test.YtapnkngcnlomhaaMath
set_option linter.unusedSimpArgs false
set_option linter.unusedVariables false
namespace Go.Proofs.Ytapnkngcnlomhaa.Pure
open Go.RowKit Go.Proofs.Ytapnkngcnlomhaa.QA Go.Proofs.YtapnkngcnlomhaaW.PrintWords Go.Proofs.YtapnkngcnlomhaaW.PrintLast Go.Proofs.Ytapnkngcnlomhaa.Math

theorem readBool_tells (l : List Int) (h : l.length ≤ 10000) :
    impl_ReadBool.f l = some (decide (l.length = 1 ∧ rd l 0 = 255), decide (l.length = 1 ∧ (rd l 0 = 0 ∨ rd l 0 = 255))) := by
  have hs : impl_short.f l = some true := by simp [impl_short.f]; omega
  have hc : impl_copied.f l = some l := by simp [impl_copied.f]; omega
  simp only [impl_ReadBool.f, hs, hc, Option.bind_some, if_true, asn1_ZZBool.f, asn1_parseBool.f]
  by_cases h1 : l.length = 1
  · by_cases h2 : rd l 0 = 0
    · simp [h1, h2]
    · by_cases h3 : rd l 0 = 255
      · simp [h1, h3]
      · simp [h1, h2, h3]
  · have : ¬ ((l.length : Int) = 1) := by omega
    simp [this, h1]

theorem FnReadBool : laws_FnReadBool.Pure := by
  intro l hl hl2 hb
  unfold laws_FnReadBool.f
  by_cases h1 : (l.length : Int) > 2147483647
  · rw [if_pos h1]
  rw [if_neg h1]
  by_cases h2 : (l.length : Int) > 100
  · rw [if_pos h2]
  rw [if_neg h2]
  have e2 : impl_ReadBool.f [255] = some (true, true) := by rw [readBool_tells _ (by simp)]; simp [rd]
  rw [readBool_tells l (by omega), e2]
  simp only [Option.bind_some]
  by_cases h3 : l.length = 1
  · by_cases h4 : rd l 0 = 0
    · simp [h3, h4]
    · by_cases h5 : rd l 0 = 255
      · simp [h3, h5]
      · simp [h3, h4, h5]
  · have h3' : ¬ ((l.length : Int) = 1) := by omega
    simp [h3, h3']

end Go.Proofs.Ytapnkngcnlomhaa.Pure
