/- The law FnSorted joined, and its argument opened. -/
import Derived.Test.YtmiemfgcggkbnaaSoU
import Derived.Deep.Slices
import Derived.WideShapes
import Derived.ChangeAt
import Derived.ProofKit
namespace Go.Proofs.Ytmiemfgcggkbnaa.QS
set_option linter.unusedVariables false
set_option linter.unusedSimpArgs false
open Go.RowKit Go.Proofs.YtmiemfgcggkbnaaW.PrintWords Go.Proofs.YtmiemfgcggkbnaaW.PrintLast Go.Proofs.YtmiemfgcggkbnaaW.PrintMore
theorem law_sorted (A : Option Addr) (c : Nat) (es : List El) (w : World) (hr : KV.C w A es.length es) (hg : ∀ e ∈ es, Good w e) : Calls Try.prog 3 #[.slice A es.length c] w fun e w' => e = .returned (.bool true) ∧ Below w.heap.size w w' := by
  by_cases h1 : 2147483647 < es.length
  · exact law_zz A c es w (zf_len A c es w h1)
  cases hf : es.all fitE with
  | false => exact law_zz A c es w (zf_no A c es w hr (by omega) hf)
  | true =>
    have hz := zf_yes A c es w hr (by omega) hf
    by_cases h2 : 20 < es.length
    · exact law_20 A c es w hz h2
    · exact law_main A c es w hr hg hf hz (by omega)
theorem wf_byte {x : Int} (h : (Lit.int .u8 x).wf = true) : 0 ≤ x ∧ x ≤ 255 := by
  simpa [Lit.wf, IntKind.min, IntKind.max, IntKind.signed, IntKind.bits] using h
open Go.ChangeShapes Go.WideShapes Go.ChangeAt in
theorem open_el {H : Type} {enc : TypeId × Value → H} {W : World} {fuel : Nat} {v : Value} {x : DataW H × List MemPlace} (h : DataW.trod enc Try.prog W 0 (fun _ => true) true fuel 25 [v] = some x) : ∃ e : El, v = e.v ∧ Good W e := by
  rcases open_ints Try.underlying25 Try.underlying5 (by kernel_rfl) h with ⟨hcs, _⟩ | ⟨a, l, c, zs, hcs, _, hl, hm, hz, _, hcell, hwz⟩
  · simp at hcs
    exact ⟨nilEl, hcs, good_nil W⟩
  · simp at hcs
    obtain ⟨l0, hl0, hr0, hm0, hw0, hc0⟩ := ReadsInt.ofRowC (w := W) (a := some a) (len := l) (cap := c) (zs := zs) (k := .u8) (.inr ⟨a, rfl, hl, hm, by simpa using hz, hcell, hwz⟩)
    subst hl0
    exact ⟨⟨some a, c, l0⟩, hcs, Kd.C_of_reads (d := (0 : Int)) (h1 := fun _ => rfl) hr0, hc0, fun x hx => wf_byte (hw0 x hx)⟩
open Go.ChangeShapes Go.WideShapes Go.ChangeAt in
theorem open_els {H : Type} {enc : TypeId × Value → H} {W : World} {fuel : Nat} {a : Option Addr} {len cap : Nat} {x : DataW H × List MemPlace} (h : DataW.trod enc Try.prog W 0 (fun _ => true) true fuel 22 [.slice a len cap] = some x) :
    ∃ es : List El, len = es.length ∧ KV.C W a es.length es ∧ ∀ e ∈ es, Good W e := by
  rcases Go.Deep.open_slice1 Try.underlying22 (by kernel_rfl) h with ⟨hcs, _⟩ | ⟨ad, len', cap', m, n, V, D, Pl, hcs, hb, hl, hm, hmm, hx, hall⟩
  · simp at hcs
    obtain ⟨rfl, rfl, rfl⟩ := hcs
    exact ⟨[], rfl, Kd.C_nil KV W, fun e he => by cases he⟩
  · simp at hcs
    obtain ⟨rfl, rfl, rfl⟩ := hcs
    simp at hmm
    have hch : ∀ i, ∃ e : El, i < len → V i = e.v ∧ Good W e := fun i => by
      by_cases hi : i < len
      · obtain ⟨e, he⟩ := open_el (hall i (by omega)).2
        exact ⟨e, fun _ => he⟩
      · exact ⟨nilEl, fun h => absurd h hi⟩
    obtain ⟨f, hf⟩ := Classical.axiomOfChoice hch
    refine ⟨(List.range len).map f, by simp, ?_, fun e he => ?_⟩
    · refine Kd.C_of_reads (d := nilEl) (h1 := El.one) (show ReadsOf El.v nilEl W (some ad) _ _ from ⟨rfl, by simp; unfold maxLen at hm; omega, fun _ => ⟨ad, rfl, fun j hj => ?_⟩⟩)
      have hj' : j < len := by simpa using hj
      rw [(hall j (by omega)).1, (hf j hj').1]
      simp [List.getD_eq_getElem?_getD, hj']
    · obtain ⟨i, hi, rfl⟩ := List.mem_map.1 he
      exact (hf i (List.mem_range.1 hi)).2
end Go.Proofs.Ytmiemfgcggkbnaa.QS
