/- slices.Concat walked. -/
import Derived.Test.YtmiemfgcggkbnaaSoP
namespace Go.Proofs.Ytmiemfgcggkbnaa.QS
set_option linter.unusedVariables false
set_option linter.unusedSimpArgs false
open Go.RowKit Go.Proofs.YtmiemfgcggkbnaaW.PrintWords Go.Proofs.YtmiemfgcggkbnaaW.PrintLast Go.Proofs.YtmiemfgcggkbnaaW.PrintMore
def flat (es : List El) : List Int := (es.map (·.l)).flatten
theorem flat_snoc (es : List El) (e : El) : flat (es ++ [e]) = flat es ++ e.l := by simp [flat]
theorem flat_len (es : List El) : (flat es).length = tot es := by simp [flat, tot, List.length_flatten, List.map_map, Function.comp_def]
set_option maxHeartbeats 8000000 in
set_option maxRecDepth 100000 in
theorem cc_Concat (A : Option Addr) (c : Nat) (es : List El) (w : World) (hr : KV.C w A es.length es) (hg : ∀ e ∈ es, Good w e) (ht : tot es ≤ 10000) (hn1 : es.length ≤ 1000) : Calls Try.prog 19 #[.slice A es.length c] w (ByTo w (flat es)) := by
  have HR := Aside0.mk hr
  have HG := Aside0.mk hg
  have HT := Aside0.mk ht
  have HN1 := Aside0.mk hn1
  have HB := Aside0.mk (Below.refl w.heap.size w)
  have hu22 := Try.underlying22
  clear hr hg ht
  go_enter Try.func19, Try.ntmps19
  go_wp2
  go_loopw [3, 11] (fun v3 v11 wr => ∃ k : Nat, v3 = .int .i64 (tot (es.take k) : Int) ∧ v11 = .int .i64 (k : Int) ∧ k ≤ es.length ∧ w = wr) (fun _ v11 _ => es.length - (intOf v11).toNat)
  case atStart => exact ⟨0, rfl, rfl, Nat.zero_le _, rfl⟩
  case round =>
    obtain ⟨k, rfl, rfl, hk, rfl⟩ := hrel
    by_cases hlt : k < es.length
    · have tl : decide ((k : Int) < (es.length : Int)) = true := decide_eq_true (by omega)
      have tln : decide (k < es.length) = true := decide_eq_true hlt
      have tq : (k : Int) < (es.length : Int) := by omega
      have p7 : (0 ≤ (k : Int)) = True := eq_true (by omega)
      have q7 := eq_true tq
      have q8 := eq_true hlt
      obtain ⟨ae, hA, hx⟩ := at_KV HR.out k hlt
      subst hA
      have HSN := Aside0.mk (show tot (es.take k) + (es.getD k nilEl).l.length = tot (es.take (k + 1)) from by rw [take_snoc es k nilEl hlt, tot_snoc])
      have HSB := Aside0.mk (show tot (es.take (k + 1)) ≤ 10000 from Nat.le_trans (tot_take es (k + 1)) HT.out)
      obtain ⟨x, hX⟩ : ∃ x, x = es.getD k nilEl := ⟨_, rfl⟩
      rw [← hX] at hx HSN
      obtain ⟨s0, hs0⟩ : ∃ s0, s0 = tot (es.take k) := ⟨_, rfl⟩
      rw [← hs0] at HSN ⊢
      have t0 : decide (wrap64 ((s0 : Int) + (x.l.length : Int)) < 0) = false := decide_eq_false (by have h1 := HSN.out; have h2 := HSB.out; unfold wrap64; omega)
      clear hX hs0
      go_wp2
      go_roundw
      case rel => exact ⟨k + 1, by have h1 := HSN.out; have h2 := HSB.out; congr 1; rw [← h1] at h2 ⊢; unfold wrap64; omega, by go_num, by omega, by first | rfl | trivial⟩
      case measure => simp [intOf]; omega
    · have hkeq : k = es.length := by omega
      have tl : decide ((k : Int) < (es.length : Int)) = false := decide_eq_false (by omega)
      have tln : decide (k < es.length) = false := decide_eq_false hlt
      have hte : tot (es.take k) = tot es := by rw [hkeq, List.take_length]
      rw [hte]
      clear hkeq hte
      go_wp2_with (go_at_call 46; (with_reducible refine (gr_Grow (tot es) _ HT.out).mono ?_); rintro e w2 ⟨v2, rfl, ho2, hb2⟩; have HO2 := Aside0.mk ho2; have HB2 := Aside0.mk hb2; clear ho2 hb2)
      go_loopw [6, 27] (fun v6 v27 wr2 => ∃ (k2 : Nat) (wc2 : World), v27 = .int .i64 (k2 : Int) ∧ k2 ≤ es.length ∧ Aside0 ((Kd.int .u8).R 5 wc2 w.heap.size (fun _ => True) v6 (flat (es.take k2))) ∧ Aside0 (Below w.heap.size w wc2) ∧ wr2 = wc2) (fun _ v27 _ => es.length - (intOf v27).toNat)
      case atStart => exact ⟨0, _, rfl, Nat.zero_le _, HO2, HB2, rfl⟩
      case round =>
        obtain ⟨k2, wc2, rfl, hk2, HO3, HB3, rfl⟩ := hrel
        by_cases hlt2 : k2 < es.length
        · have tl2 : decide ((k2 : Int) < (es.length : Int)) = true := decide_eq_true (by omega)
          have tln2 : decide (k2 < es.length) = true := decide_eq_true hlt2
          have tq2 : (k2 : Int) < (es.length : Int) := by omega
          have p72 : (0 ≤ (k2 : Int)) = True := eq_true (by omega)
          have q72 := eq_true tq2
          have q82 := eq_true hlt2
          obtain ⟨ae, hA, hx⟩ := at_KV (Kd.C_below HR.out HB3.out) k2 hlt2
          subst hA
          have HGX := Aside0.mk (((HG.out _ (getD_mem hlt2)).below HB3.out).1)
          have HFS := Aside0.mk (show flat (es.take k2) ++ (es.getD k2 nilEl).l = flat (es.take (k2 + 1)) from by rw [take_snoc es k2 nilEl hlt2, flat_snoc])
          have HFL := Aside0.mk (show (flat (es.take k2)).length + (es.getD k2 nilEl).l.length ≤ 10000 from by rw [← List.length_append, HFS.out, flat_len]; exact Nat.le_trans (tot_take es (k2 + 1)) HT.out)
          obtain ⟨x, hX⟩ : ∃ x, x = es.getD k2 nilEl := ⟨_, rfl⟩
          rw [← hX] at hx HGX HFS HFL
          clear hX
          go_wp2_with (first
            | ((with_reducible refine gate_builtin (b := .append) (xs := #[.tmp 31, .tmp 32]) rfl ?_); at_builtin; refine Kd.R_append_rows (Kd.int .u8) (w0 := w) w.heap.size rfl (.tmp 31) (.tmp 32) 25 5 (.int .u8 0) 1 rfl Try.underlying25 info5 rfl (by decide) (by decide) _ (flat (es.take k2)) x.l x.a x.l.length x.c (fun _ => True) (fun _ => False) rfl rfl ?aO ?aR (fun _ _ h => h) (fun _ h => h.elim) ?aF ?aB ?aS ?aL ?_; (case aR => exact HGX.out); (case aB => exact HB3.out); (case aF => exact (fun _ _ => trivial)); (case aO => exact HO3.out); (case aS => exact HB3.out.size); (case aL => have := HFL.out; omega); intro v9 w9 ho hb hg hat; rw [HFS.out] at ho; have HO9 := Aside0.mk ho; have HB9 := Aside0.mk hb; clear ho hb hg hat))
          go_roundw
          case rel => exact ⟨k2 + 1, _, by go_num, by omega, HO9, HB9, rfl⟩
          case measure => simp [intOf]; omega
        · have hkeq2 : k2 = es.length := by omega
          have tl2 : decide ((k2 : Int) < (es.length : Int)) = false := decide_eq_false (by omega)
          have tln2 : decide (k2 < es.length) = false := decide_eq_false hlt2
          have hO := HO3.out
          rw [hkeq2, List.take_length] at hO
          have HO4 := Aside0.mk hO
          clear hO hkeq2 HO3
          go_wp2
          go_ret
          exact ⟨_, rfl, HO4.out, HB3.out⟩
end Go.Proofs.Ytmiemfgcggkbnaa.QS
