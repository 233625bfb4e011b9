/- setEncoder.Encode's first loop, told. -/
import Derived.Test.YtmiemfgcggkbnaaSoH
namespace Go.Proofs.Ytmiemfgcggkbnaa.QS
set_option linter.unusedVariables false
set_option linter.unusedSimpArgs false
open Go.RowKit Go.Proofs.YtmiemfgcggkbnaaW.PrintWords Go.Proofs.YtmiemfgcggkbnaaW.PrintLast Go.Proofs.YtmiemfgcggkbnaaW.PrintMore
theorem info25 : (Try.prog.info? 25).map (fun i => (i.zero, i.size, i.bytes)) = some (some (.slice none 0 0), 1, 24) := by kernel_rfl
theorem add_block (a : Addr) (j : Nat) : (a.add j).block = a.block := by unfold Addr.add; split <;> rfl
theorem add_zero_off (g k : Nat) : (⟨g, 0, none⟩ : Addr).add k = ⟨g, k, none⟩ := by
  unfold Addr.add
  split
  · rename_i h0; rw [h0]
  · simp
/-- What the first loop has made after k rounds. -/
def Inv1 (w : World) (vl : Value) (es : List El) (k : Nat) (wr : World) : Prop :=
  Below w.heap.size w wr ∧ ∃ ps : List El, ps.length = k ∧ ps.map (·.l) = (es.take k).map (·.l) ∧ KV.R 25 wr w.heap.size (fun _ => True) vl (ps ++ List.replicate (es.length - k) nilEl) ∧
    ∀ p ∈ ps, Good wr p ∧ ∀ ad, p.a = some ad → w.heap.size ≤ ad.block ∧ ad.block < wr.heap.size ∧ some ad.block ≠ vl.ownBlock
theorem inv1_cell {w wr : World} {es : List El} {k g n cap : Nat} (h : Inv1 w (.slice (some ⟨g, 0, none⟩) n cap) es k wr) (hk : k < es.length) : wr.cell? ((⟨g, 0, none⟩ : Addr).add k) = some (.slice none 0 0) ∧ wr.frozen? ((⟨g, 0, none⟩ : Addr).add k) = false ∧ g < wr.heap.size ∧ w.heap.size ≤ g := by
  obtain ⟨hb, ps, hl, hm, ho, hp⟩ := h
  obtain ⟨g', cap', cur, hv, hbg, hh, hnc, hcm, hcs, htake⟩ := row_form ho ⟨g, by simp [Value.ownBlock]⟩
  injection hv with e1 e2 e3
  injection e1 with e1
  injection e1 with e1
  subst e1
  have h9 : (cur.toList.take (ps ++ List.replicate (es.length - k) nilEl).length)[k]? = (encs El.v (ps ++ List.replicate (es.length - k) nilEl))[k]? := by rw [htake]
  have hlen : (ps ++ List.replicate (es.length - k) nilEl).length = es.length := by simp; omega
  rw [List.getElem?_take_of_lt (by omega)] at h9
  rw [add_zero_off]
  refine ⟨?_, by simp [World.frozen?, hh], (Array.getElem?_eq_some_iff.1 hh).1, hbg⟩
  simp only [World.cell?, hh, Option.isSome_none, Bool.false_eq_true, if_false]
  rw [← Array.getElem?_toList, h9]
  simp only [encs, List.map_append, List.map_replicate]
  rw [List.getElem?_append_right (by simp [hl]), List.getElem?_replicate]
  simp [hl, El.v, nilEl]
  omega
/-- One round of the first loop. w1: the new row is made; w3: the encoder has written it. -/
theorem inv1_step {w wr w1 w3 : World} {es : List El} {k g n cap A5b c5 : Nat} (h : Inv1 w (.slice (some ⟨g, 0, none⟩) n cap) es k wr) (hk : k < es.length)
    (h1 : Below wr.heap.size wr w1) (hb5 : wr.heap.size ≤ A5b) (hlt5 : A5b < w1.heap.size)
    (h3 : (w1.setCell ((⟨g, 0, none⟩ : Addr).add k) (.slice (some ⟨A5b, 0, none⟩) (es.getD k nilEl).l.length c5)).grownBy w3 (some A5b))
    (ho : (Kd.int .u8).R 5 w3 wr.heap.size (fun _ => True) (.slice (some ⟨A5b, 0, none⟩) (es.getD k nilEl).l.length c5) (es.getD k nilEl).l) (hx : bytesIn (es.getD k nilEl).l) : Inv1 w (.slice (some ⟨g, 0, none⟩) n cap) es (k + 1) w3 := by
  obtain ⟨hcell, hfz, hgl, hgS⟩ := inv1_cell h hk
  obtain ⟨hb, ps, hl, hm, hR, hp⟩ := h
  have hw1 : wr.heap.size ≤ w1.heap.size := h1.size
  obtain ⟨x, hX⟩ : ∃ x, x = es.getD k nilEl := ⟨_, rfl⟩
  rw [← hX] at h3 ho hx
  have hsz2 : (w1.setCell ((⟨g, 0, none⟩ : Addr).add k) (.slice (some ⟨A5b, 0, none⟩) x.l.length c5)).heap.size = w1.heap.size := by simp [World.setCell]
  have hw3 : w1.heap.size ≤ w3.heap.size := by have := h3.size; omega
  -- an elder block, other than the row's, is as it was
  have hold : ∀ b, b < wr.heap.size → b ≠ g → w3.heap[b]? = wr.heap[b]? := by
    intro b hb1 hb2
    rw [h3.block b (by omega) (by intro h9; injection h9 with h9; omega), Below.heap_setCell w1 _ _ b (by rw [add_block]; exact hb2), h1.block b hb1]
  have hrow : w3.heap[g]? = (w1.setCell ((⟨g, 0, none⟩ : Addr).add k) (.slice (some ⟨A5b, 0, none⟩) x.l.length c5)).heap[g]? := h3.block g (by omega) (by intro h9; injection h9 with h9; omega)
  refine ⟨?_, ps ++ [⟨some ⟨A5b, 0, none⟩, c5, x.l⟩], by simp [hl], ?_, ?_, ?_⟩
  · refine ⟨?_, ?_, ?_, by have := hb.size; omega, fun b hb1 => ?_⟩
    · rw [h3.os]; exact h1.os.trans hb.os
    · rw [h3.tape]; exact h1.tape.trans hb.tape
    · rw [h3.output]; exact h1.output.trans hb.output
    · rw [hold b (by have := hb.size; omega) (by omega), hb.block b hb1]
  · rw [take_snoc es k nilEl hk, List.map_append, List.map_append, hm, ← hX]
    rfl
  · have hR1 : KV.R 25 w1 w.heap.size (fun _ => True) (.slice (some ⟨g, 0, none⟩) n cap) (ps ++ List.replicate (es.length - k) nilEl) := Kd.R_below hR h1
    rw [show es.length - k = (es.length - (k + 1)) + 1 by omega, List.replicate_succ] at hR1
    have hR2 := row_set (p := ⟨some ⟨A5b, 0, none⟩, c5, x.l⟩) hR1
    rw [hl] at hR2
    have hown := Kd.own_of_R (enc := El.v) (h1 := El.one) hR2
    have hown3 := own_move hown (w1 := w3) (fun b hb1 => by
      have e : b = g := by simpa [Value.ownBlock] using hb1.symm
      subst e
      exact hrow)
    have hR3 := Kd.R_of_own (enc := El.v) (h1 := El.one) (ok := fun _ => True) hown3 (fun _ _ => trivial)
    rw [List.append_assoc]
    exact hR3
  · intro p hpm
    rw [List.mem_append] at hpm
    rcases hpm with hpm | hpm
    · obtain ⟨hg, ha⟩ := hp p hpm
      refine ⟨hg.keep (fun ad had => ?_), fun ad had => ?_⟩
      · obtain ⟨a1, a2, a3⟩ := ha ad had
        exact hold ad.block a2 (fun h9 => a3 (by rw [h9]; simp [Value.ownBlock]))
      · obtain ⟨a1, a2, a3⟩ := ha ad had
        exact ⟨a1, by omega, a3⟩
    · rw [List.mem_singleton] at hpm
      subst hpm
      obtain ⟨A', c', e9, hc9, hr9⟩ := Kd.R_reads ho
      injection e9 with e1 e2 e3
      subst e1 e3
      refine ⟨⟨hr9, hc9, hx⟩, fun ad had => ?_⟩
      injection had with had
      subst had
      refine ⟨by have := hb.size; show w.heap.size ≤ A5b; omega, by show A5b < w3.heap.size; omega, ?_⟩
      simp only [Value.ownBlock]
      intro h9
      have h8 : A5b = g := by simpa using h9
      omega
end Go.Proofs.Ytmiemfgcggkbnaa.QS
