/- setEncoder.Encode's second loop, told. -/
import Derived.Test.YtmiemfgcggkbnaaSoI
namespace Go.Proofs.Ytmiemfgcggkbnaa.QS
set_option linter.unusedVariables false
set_option linter.unusedSimpArgs false
open Go.RowKit Go.Proofs.YtmiemfgcggkbnaaW.PrintWords Go.Proofs.YtmiemfgcggkbnaaW.PrintLast Go.Proofs.YtmiemfgcggkbnaaW.PrintMore
/-! the second loop: ws is the world behind the sort -/
def Inv2 (ws : World) (base : Nat) (v : Value) (es : List El) (N k : Nat) (wr : World) : Prop :=
  ws.grownBy wr v.ownBlock ∧ ∃ zs : List Int, (Kd.int .u8).R 5 wr base (fun _ => True) v zs ∧ zs.length = N ∧ zs.take (tot (es.take k)) = ((es.take k).map (·.l)).flatten
theorem grownBy_trans {a b c : World} {r : Option Nat} (h : a.grownBy b r) (h' : b.grownBy c r) : a.grownBy c r :=
  ⟨h'.os.trans h.os, h'.tape.trans h.tape, h'.output.trans h.output, by have := h.size; have := h'.size; omega, fun k hk hne => by rw [h'.block k (by have := h.size; omega) hne, h.block k hk hne]⟩
theorem cut_l25 (A : Option Addr) (n c : Nat) (j : Nat) (hm : j ≤ n) : ∀ W : World, (Instr.slice 25 (.slice A n c) (some (.int .i64 (j : Int))) none none).run Try.prog W = .ok (.slice (if c = j then A else A.map (·.add (j * 1))) (n - j) (c - j)) W := by
  intro W
  obtain ⟨i0, hi0, _, hsz, _⟩ := info_parts info5
  have h := cut_from 25 5 .i64 Try.underlying25 hi0 1 hsz A n c (j : Int) (by omega) (by omega) W
  rw [h]
  simp
/-- One round: its cut and its copy, and what they leave. -/
theorem inv2_step {ws wr : World} {base : Nat} {Av : Option Addr} {n cv : Nat} {es : List El} {k : Nat} (hnt : tot es = n) (h : Inv2 ws base (.slice Av n cv) es n k wr) (hk : k < es.length) (hg : Good wr (es.getD k nilEl)) :
    ∃ D w1, (∀ W, (Instr.slice 25 (.slice Av n cv) (some (.int .i64 ((tot (es.take k) : Nat) : Int))) none none).run Try.prog W = .ok (.slice D (n - tot (es.take k)) (cv - tot (es.take k))) W) ∧
      (Builtin.copy_ #[25, 25] 3 #[.slice D (n - tot (es.take k)) (cv - tot (es.take k)), .slice (es.getD k nilEl).a (es.getD k nilEl).l.length (es.getD k nilEl).c]).run Try.prog wr = .ok (goInt ((es.getD k nilEl).l.length : Int)) w1 ∧
      Inv2 ws base (.slice Av n cv) es n (k + 1) w1 := by
  obtain ⟨hgr, zs, ho, hl, ht⟩ := h
  have hsn := take_snoc es k nilEl hk
  have htk := tot_take es (k + 1)
  rw [hsn, tot_snoc] at htk
  obtain ⟨A', c', e9, hc9, hr9⟩ := Kd.R_reads ho
  injection e9 with e1 e2 e3
  subst e1 e3
  have hcut := cut_l25 Av n cv (tot (es.take k)) (by omega)
  obtain ⟨w1, hrun, ho1, hg1⟩ := R_copy_core (P := Try.prog) base 25 25 5 3 Try.underlying25 info5s (.slice Av n cv) zs (es.getD k nilEl).l (tot (es.take k)) (es.getD k nilEl).a (es.getD k nilEl).l.length (es.getD k nilEl).c
    (if cv = tot (es.take k) then Av else Av.map (·.add (tot (es.take k) * 1))) (cv - tot (es.take k)) (fun _ => True) ho hg.1 (by omega) (fun hy g cap hv => by
      injection hv with e1 e2 e3
      subst e1
      have hpos : 0 < (es.getD k nilEl).l.length := List.length_pos_iff.2 hy
      rw [if_neg (by omega)]
      simp [add_zero_off])
  rw [hl] at hrun
  refine ⟨_, w1, hcut, hrun, grownBy_trans hgr hg1, _, ho1, ?_, ?_⟩
  · rw [List.length_append, List.length_append, List.length_take, List.length_drop]
    omega
  · rw [hsn, tot_snoc, List.map_append, List.flatten_append, ← ht]
    have hlen : (zs.take (tot (es.take k))).length = tot (es.take k) := by rw [List.length_take]; omega
    rw [List.take_append, hlen, List.take_of_length_le (by omega), Nat.add_sub_cancel_left, List.take_append, List.take_of_length_le (Nat.le_refl _), Nat.sub_self, List.take_zero]
    simp
end Go.Proofs.Ytmiemfgcggkbnaa.QS
