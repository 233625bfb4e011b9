/- The law FnReadGeneralized is true of every byte string. -/
import Derived.Test.YtmiemfgcggkbnaaLwGen
import Derived.Test.YtmiemfgcggkbnaaTGPure
set_option linter.unusedVariables false
namespace Go.Proofs.Ytmiemfgcggkbnaa.Pure
open Go.RowKit Go.Proofs.Ytmiemfgcggkbnaa.QG Go.Proofs.YtmiemfgcggkbnaaW.PrintWords Go.Proofs.YtmiemfgcggkbnaaW.PrintLast Go.Proofs.YtmiemfgcggkbnaaW.PrintMore
theorem law_gen (A0 : Option Addr) (c0 : Nat) (l : List Int) (w : World) (hr0 : Kd.C (Kd.int .u8) w A0 l.length l) (hc0 : l.length ≤ c0) (hb : bytesIn l) :
    Calls Try.prog 6 #[.slice A0 l.length c0] w fun e w' => e = .returned (.bool true) ∧ Below w.heap.size w w' := by
  have hs : spec_Generalized.f l = some (figN 4 l, figN 2 (x1L l), figN 2 (x2L l), figN 2 (x3L l), figN 2 (x4L l), figN 2 (x5L l), naI l, zoneV (x8L l), genOk l, zoneT (x8L l)) := by
    unfold spec_Generalized.f
    rw [if_pos (show ∀ x, x ∈ l → 0 ≤ x ∧ x ≤ 255 from hb)]
  by_cases h1 : 2147483647 < l.length
  · exact lawGen_e1 A0 c0 l 0 0 0 0 0 0 0 0 false false w hr0 hc0 h1
  by_cases h2 : 60 < l.length
  · exact lawGen_e2 A0 c0 l _ _ _ _ _ _ _ _ _ _ w hr0 hc0 hs (by omega) h2
  obtain ⟨s1, s2⟩ := gen_same hb
  cases ho : genOk l with
  | false =>
    have hu : gOk (strOfNums l) = false := by
      cases hu : gOk (strOfNums l) with
      | false => rfl
      | true => rw [(s2 hu).1] at ho; cases ho
    rw [ho] at hs
    have hr : impl_ReadGeneralized.f l = some (0, 0, 0, 0, 0, 0, 0, 0, false) := by
      unfold impl_ReadGeneralized.f
      rw [if_pos (by omega), hu, if_neg (by decide)]
    exact lawGen_no A0 c0 l _ _ _ _ _ _ _ _ false _ w hr0 hc0 hs hr gen_const (by omega)
  | true =>
    cases ht : zoneT (x8L l) with
    | false => exact lawGen_e3 A0 c0 l _ _ _ _ _ _ _ _ _ _ w hr0 hc0 hs (by omega) ho ht
    | true =>
      have hu := s1 ho ht
      obtain ⟨-, hf, e5, e6⟩ := s2 hu
      obtain ⟨f1, f2, f3, f4, f5, f6⟩ := rest6_of hf
      obtain ⟨a, b, c, d, e, f⟩ := six_of hf
      obtain ⟨d1, d2, d3, d4, d5, d6⟩ := @drg_str l
      have hg : impl_ReadGeneralized.f l = some (figN 4 l, figN 2 (x1L l), figN 2 (x2L l), figN 2 (x3L l), figN 2 (x4L l), figN 2 (x5L l), naI l, zoneV (x8L l), true) := by
        unfold impl_ReadGeneralized.f
        rw [if_pos (by omega), if_pos hu, d5, d4, d3, d2, d1, e5, e6, dv4_str hb, dv2_str (bytesIn_d hb _), dv2_str (bytesIn_d hb _), dv2_str (bytesIn_d hb _), dv2_str (bytesIn_d hb _), dv2_str (bytesIn_d hb _), f1, f2, f3, f4, f5, figN4_l a, figN_l b, figN_l c, figN_l d, figN_l e, figN_l f]
      rw [ho, ht] at hs
      exact lawGen_yes A0 c0 l _ _ _ _ _ _ _ _ true true w hr0 hc0 hs hg gen_const (by omega)
theorem law_gen_walk (a0 : Option Addr) (len0 cap0 : Nat) (z0 : List Int) (w : World) (w0 : (a0 = none ∧ len0 = 0 ∧ cap0 = 0 ∧ z0 = []) ∨ ∃ x, a0 = some x ∧ len0 ≤ cap0 ∧ cap0 ≤ maxLen ∧ z0.length = cap0 ∧ (∀ i, i < z0.length → w.cell? (x.add i) = some (.int .u8 (z0.getD i 0))) ∧ ∀ n ∈ z0, (Lit.int .u8 n).wf = true) :
    Calls Try.prog 6 #[.slice a0 len0 cap0] w fun e w' => e = .returned (.bool true) ∧ Below w.heap.size w w' := by
  obtain ⟨l0, rfl, hr0, hm0, hw0, hc0⟩ := ReadsInt.ofRowC w0
  exact law_gen _ _ l0 w (Kd.C_of_reads (d := (0 : Int)) (h1 := fun _ => rfl) hr0) hc0 (fun x h => wf_byte (hw0 x h))
end Go.Proofs.Ytmiemfgcggkbnaa.Pure
