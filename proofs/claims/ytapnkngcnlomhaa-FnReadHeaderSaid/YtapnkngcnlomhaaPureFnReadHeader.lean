/- From each place of each byte string on, a tag and a length are read exactly if both are as short as they can be, with at most 31 bits each: the law FnReadHeader answers true for every byte string and place (from 201 bytes on, and at places outside, it is true at once). This text: the plain statement over lists of numbers. -/
import Derived.Test.YtapnkngcnlomhaaQRx6
import Derived.Test.YtapnkngcnlomhaaRHdr
set_option linter.unusedSimpArgs false
set_option linter.unusedVariables false
namespace Go.Proofs.Ytapnkngcnlomhaa.Pure
open Go.RowKit Go.Proofs.Ytapnkngcnlomhaa.QR Go.Proofs.YtapnkngcnlomhaaW.PrintWords Go.Proofs.YtapnkngcnlomhaaW.PrintLast Go.Proofs.Ytapnkngcnlomhaa.Math Go.Proofs.Ytapnkngcnlomhaa.RRead Go.Proofs.Ytapnkngcnlomhaa.RHdr

theorem FnReadHeader : laws_FnReadHeader.Pure := by
  intro l i hl hl2 hb hi
  refine ⟨200, ?_⟩
  have tr : laws_FnReadHeader.j0 200 l i true = some true := by rw [laws_FnReadHeader.j0, if_pos rfl]
  unfold laws_FnReadHeader.f
  by_cases h1 : (l.length : Int) > 2147483647
  · rw [if_pos h1]
  rw [if_neg h1]
  by_cases h2 : (l.length : Int) > 200
  · rw [if_pos h2, tr]
  rw [if_neg h2]
  by_cases h3 : i < 0
  · rw [if_pos h3, tr]
  rw [if_neg h3]
  by_cases h4 : i > (l.length : Int)
  · rw [decide_eq_true h4, tr]
  rw [decide_eq_false h4, laws_FnReadHeader.j0, if_neg (by simp)]
  obtain ⟨c, t, n, m, o, ok, e1, s1⟩ := spec_f l hb (by omega) i (by omega) (by omega) 199 (by omega)
  obtain ⟨c', t', n', m', o', ok', e2, s2⟩ := read_tells l hb (by omega) i (by omega) 199 (by omega)
  obtain ⟨c3, t3, o3, m3, e3⟩ := three_tells 199 (by omega)
  rw [e1, e2, e3]
  simp only [Option.bind_some, laws_header.f]
  have ho : ok' = ok := s2.1.trans s1.1.symm
  rw [ho]
  cases hg : Hd l i with
  | none =>
    have o1 : ok = false := by rw [s1.1, hg]; rfl
    simp [o1]
  | some p =>
    obtain ⟨a1, a2, a3, a4, a5⟩ := p
    have o1 : ok = true := by rw [s1.1, hg]; rfl
    obtain ⟨x1, x2, x3, x4, x5⟩ := s1.2 _ _ _ _ _ hg
    obtain ⟨y1, y2, y3, y4, y5⟩ := s2.2 _ _ _ _ _ hg
    simp [o1, x1, x2, x3, x4, x5, y1, y2, y3, y4, y5]

end Go.Proofs.Ytapnkngcnlomhaa.Pure
