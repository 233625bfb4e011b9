/- A bit string is written as its bytes behind the number of bits of the last one that are not its own; it is read back exactly if these bits are 0: the law FnPutBits answers true for every byte string and length. This text: the plain statement over lists of numbers. -/
import Derived.Test.YtmiemfgcggkbnaaQBx2
import Derived.Test.YtmiemfgcggkbnaaMath
set_option linter.unusedSimpArgs false
set_option linter.unusedVariables false
namespace Go.Proofs.Ytmiemfgcggkbnaa.Pure
open Go.RowKit Go.Proofs.Ytmiemfgcggkbnaa.QB Go.Proofs.YtmiemfgcggkbnaaW.PrintWords Go.Proofs.YtmiemfgcggkbnaaW.PrintLast Go.Proofs.Ytmiemfgcggkbnaa.Math

theorem quo8 (x : Int) (n : Nat) (h0 : 0 ≤ x) (h1 : x ≤ 9223372036854775807) (hn : n ≤ 100) (h : wrap64 (Int.tdiv (wrap64 (x + 7)) 8) = n) : (x + 7) / 8 = n := by
  by_cases c : x + 7 ≤ 9223372036854775807
  · rw [wrap64_id (x := x + 7) (by omega) c, Int.tdiv_eq_ediv_of_nonneg (by omega), wrap64_id (by omega) (by omega)] at h
    exact h
  · exfalso
    have e : wrap64 (x + 7) = x + 7 - 18446744073709551616 := by unfold wrap64; omega
    have e2 : Int.tdiv (x + 7 - 18446744073709551616) 8 = -((18446744073709551616 - (x + 7)) / 8) := by
      rw [show x + 7 - 18446744073709551616 = -(18446744073709551616 - (x + 7)) by omega, Int.neg_tdiv, Int.tdiv_eq_ediv_of_nonneg (by omega)]
    rw [e, e2, wrap64_id (by omega) (by omega)] at h
    omega
theorem pad_is (x : Int) (n : Nat) (h0 : 0 ≤ x) (hn : n ≤ 100) (h : (x + 7) / 8 = n) : padOf x = 8 * (n : Int) - x := by
  unfold padOf
  rw [Int.tmod_eq_emod_of_nonneg h0, wrap64_id (by omega) (by omega), Int.tmod_eq_emod_of_nonneg (by omega)]
  omega
theorem rest_is (p : Int) (l : List Int) (hl : 0 < l.length) (h1 : l.length ≤ 100) : bitsRest (p :: l) = Go.bits .and .u8 (rd l (wrap64 ((l.length : Int) - 1))) (((shl .u8 1 p) - 1) % 256) := by
  unfold bitsRest
  have e : rd (p :: l) (wrap64 (((p :: l).length : Int) - 1)) = rd l (wrap64 ((l.length : Int) - 1)) := by
    rw [wrap64_id (by simp only [List.length_cons]; omega) (by simp only [List.length_cons]; omega), wrap64_id (by omega) (by omega)]
    obtain ⟨m, hm⟩ : ∃ m, l.length = m + 1 := ⟨l.length - 1, by omega⟩
    have e1 : (((p :: l).length : Int) - 1).toNat = m + 1 := by simp only [List.length_cons]; omega
    have e2 : ((l.length : Int) - 1).toNat = m := by omega
    unfold rd
    rw [e1, e2]
    rfl
  rw [e]
  rfl

theorem FnPutBits : laws_FnPutBits.Pure := by
  intro l a1 hl hl2 hb ha
  obtain ⟨ha0, ha1⟩ := wf_i64 ha
  refine ⟨5, ?_⟩
  unfold laws_FnPutBits.f
  have triv : laws_FnPutBits.j0 5 l a1 true = some true := by rw [laws_FnPutBits.j0, if_pos rfl]
  by_cases h1 : (l.length : Int) > 2147483647
  · rw [if_pos h1]
  rw [if_neg h1]
  by_cases h2 : (l.length : Int) > 100
  · rw [if_pos h2, triv]
  rw [if_neg h2]
  by_cases h3 : a1 < 0
  · rw [if_pos h3, triv]
  rw [if_neg h3]
  by_cases h4 : wrap64 (Int.tdiv (wrap64 (a1 + 7)) 8) = (l.length : Int)
  · rw [h4, bne_self_eq_false, laws_FnPutBits.j0, if_neg (by simp)]
    have q := quo8 a1 l.length (by omega) ha1 (by omega) h4
    have p := pad_is a1 l.length (by omega) (by omega) q
    have e1 : impl_PutBits.f l a1 = some (padOf a1 :: l) := by
      unfold impl_PutBits.f
      rw [if_pos ⟨by omega, by omega, by omega, h4.symm⟩]
    have ec : (wrap64 ((wrap64 (8 * (l.length : Int))) - a1)) % 256 = padOf a1 := by
      rw [wrap64_id (x := 8 * (l.length : Int)) (by omega) (by omega), wrap64_id (by omega) (by omega), p]; omega
    have r0 : rd (padOf a1 :: l) 0 = padOf a1 := rfl
    have eq : ∀ x : List Int, bytes_Equal.f x x = some true := by intro x; simp [bytes_Equal.f]
    have e2 : impl_ReadBits.f (padOf a1 :: l) = if isBits (padOf a1 :: l) then some (l, a1, true) else some ([], 0, false) := by
      unfold impl_ReadBits.f
      rw [if_pos ⟨by simp; omega, by rw [r0]; omega⟩, r0]
      have : 8 * (((padOf a1 :: l).length : Int) - 1) - padOf a1 = a1 := by rw [p]; simp; omega
      rw [this]
      rfl
    rw [e1]
    simp only [Option.bind_some]
    rw [e2, ec]
    by_cases c0 : (l.length : Int) = 0
    · have l0 : l = [] := List.eq_nil_of_length_eq_zero (by omega)
      subst l0
      have p0 : padOf a1 = 0 := by rw [p]; simp at q ⊢; omega
      rw [p0, if_pos (show isBits [0] by decide +kernel)]
      simp only [Option.bind_some]
      rw [if_pos c0]
      simp [eq]
    · have ib : isBits (padOf a1 :: l) ↔ Go.bits .and .u8 (rd l (wrap64 ((l.length : Int) - 1))) (((shl .u8 1 (padOf a1)) - 1) % 256) = 0 := by
        unfold isBits
        rw [rest_is _ l (by omega) (by omega), r0]
        constructor
        · exact fun h => h.2.2.2
        · exact fun h => ⟨by simp, by omega, by intro h; exfalso; simp only [List.length_cons] at h; omega, h⟩
      have w1 : wrap64 ((l.length : Int) - 1) = (l.length : Int) - 1 := wrap64_id (by omega) (by omega)
      by_cases c : isBits (padOf a1 :: l)
      · rw [if_pos c]
        have x0 := ib.mp c
        simp only [Option.bind_some]
        rw [if_neg c0, if_pos (by omega), if_pos (by omega), if_pos (by simp; omega), x0]
        simp [eq]
      · rw [if_neg c]
        have x0 := fun h => c (ib.mpr h)
        simp only [Option.bind_some]
        rw [if_neg c0, if_pos (by omega), if_pos (by omega), if_pos (by simp; omega)]
        simp [eq, x0]
        exact x0
  · rw [show (wrap64 (Int.tdiv (wrap64 (a1 + 7)) 8) != (l.length : Int)) = true from bne_iff_ne.mpr h4, triv]

end Go.Proofs.Ytmiemfgcggkbnaa.Pure
