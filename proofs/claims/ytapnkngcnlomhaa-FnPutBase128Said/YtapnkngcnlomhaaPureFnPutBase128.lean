/- A number is written in groups of seven bits, as few as it takes: the law FnPutBase128 answers true for every number of 64 bits (below 0 it is true at once). This text: the plain statement over numbers and lists. -/
import Derived.Test.YtapnkngcnlomhaaQAx3
import Derived.Test.YtapnkngcnlomhaaBase
set_option linter.unusedSimpArgs false
set_option linter.unusedVariables false
namespace Go.Proofs.Ytapnkngcnlomhaa.Pure
open Go.RowKit Go.Proofs.Ytapnkngcnlomhaa.QA Go.Proofs.YtapnkngcnlomhaaW.PrintWords Go.Proofs.YtapnkngcnlomhaaW.PrintLast Go.Proofs.Ytapnkngcnlomhaa.Math Go.Proofs.Ytapnkngcnlomhaa.Base

theorem FnPutBase128 : laws_FnPutBase128.Pure := by
  intro a h
  have hw := wf_i64 h
  refine ⟨12, ?_⟩
  unfold laws_FnPutBase128.f
  by_cases h0 : a < 0
  · rw [if_pos h0]
  obtain ⟨n, rfl⟩ := Int.eq_ofNat_of_zero_le (show 0 ≤ a by omega)
  have hn : n < 128 ^ 9 := by have hp : (128 : Nat) ^ 9 = 9223372036854775808 := by decide
                              omega
  have e1 : impl_PutBase128.f 12 n = some (enc n) := by
    unfold impl_PutBase128.f asn1_ZZPutBase128.f
    rw [if_neg h0, app_f 12 [] n hn (by omega) (by simp)]; rfl
  rw [if_neg h0, e1, put_f 12 n hn (by omega)]
  simp only [Option.bind_some, equal_self]

end Go.Proofs.Ytapnkngcnlomhaa.Pure
