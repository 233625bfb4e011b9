/- No numbers, or a single one, are no object identifier: the law FnShortOID answers true for every list of integers (of two or more it is true at once). This text: the plain statement over lists of numbers. -/
import Derived.Test.YtmiemfgcggkbnaaQPx2
set_option linter.unusedSimpArgs false
set_option linter.unusedVariables false
namespace Go.Proofs.Ytmiemfgcggkbnaa.Pure
open Go.RowKit Go.Proofs.Ytmiemfgcggkbnaa.QP Go.Proofs.YtmiemfgcggkbnaaW.PrintWords Go.Proofs.YtmiemfgcggkbnaaW.PrintLast

theorem right123 : impl_PutOID.f 20 [1, 2, 3] = some ([42, 3], true) := by decide +kernel

theorem zzput_short (l : List Int) (h : l.length ≤ 1) (k : Nat) : ∃ c, asn1_ZZPutOID.f k l = some ([], some c) := by
  unfold asn1_ZZPutOID.f
  exact ⟨_, by rw [if_pos (.inl (by omega))]⟩

theorem put_short (l : List Int) (h : l.length ≤ 1) : impl_PutOID.f 20 l = some ([], false) := by
  have hz := fun k => zzput_short l h k
  unfold impl_PutOID.f
  rw [if_neg (by omega)]
  have last : ∀ k (x : Int), (l.length : Int) ≤ x → impl_PutOID.l0 (k + 1) l l (l.length : Int) x = some ([], false) := by
    intro k x hx
    obtain ⟨c, e⟩ := hz k
    rw [impl_PutOID.l0, if_neg (by omega), if_pos (by simp; omega), List.nil_append, e]
    rfl
  by_cases c : 0 < (l.length : Int)
  · rw [impl_PutOID.l0, if_pos c, if_pos (by omega), if_pos (by omega)]
    split
    · rfl
    · split
      · rfl
      · rw [show wrap64 ((0 : Int) + 1) = 1 by unfold wrap64; omega]
        exact last _ _ (by omega)
  · exact last _ _ (by omega)

theorem FnShortOID : laws_FnShortOID.Pure := by
  intro l hl hl2 hb
  refine ⟨20, ?_⟩
  unfold laws_FnShortOID.f
  by_cases h1 : (l.length : Int) > 2147483647
  · rw [if_pos h1]
  rw [if_neg h1]
  by_cases h2 : (l.length : Int) > 1
  · rw [if_pos h2]
  rw [if_neg h2, put_short l (by omega), right123]
  rfl

end Go.Proofs.Ytmiemfgcggkbnaa.Pure
