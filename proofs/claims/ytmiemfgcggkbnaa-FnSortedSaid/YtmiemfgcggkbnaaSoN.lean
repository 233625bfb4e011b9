/- zzEncoded and ZZSorted walked. -/
import Derived.Test.YtmiemfgcggkbnaaSoM
namespace Go.Proofs.Ytmiemfgcggkbnaa.QS
set_option linter.unusedVariables false
set_option linter.unusedSimpArgs false
open Go.RowKit Go.Proofs.YtmiemfgcggkbnaaW.PrintWords Go.Proofs.YtmiemfgcggkbnaaW.PrintLast Go.Proofs.YtmiemfgcggkbnaaW.PrintMore
theorem info117 : (Try.prog.info? 117).map (fun i => (i.zero, i.size, i.bytes)) = some (some .nilIface, 1, 16) := by kernel_rfl
def SrtTo (w : World) (es : List El) (e : Ending) (w' : World) : Prop := ∃ (v : Value) (ls : List (List Int)), e = .returned v ∧ ls.Perm (es.map (·.l)) ∧ Asc ls ∧ (Kd.int .u8).R 5 w' w.heap.size (fun _ => True) v ls.flatten ∧ Below w.heap.size w w'
theorem zz_fin {w w1 w2 : World} {es : List El} {Av : Option Addr} {n cv : Nat} {zs : List Int} {ls : List (List Int)} (hB1 : Below w.heap.size w w1) (ho : (Kd.int .u8).R 5 w1 w.heap.size (fun _ => True) (.slice Av n cv) zs) (hg : w1.grownBy w2 (Value.slice Av n cv).ownBlock) : Below w.heap.size w w2 :=
  hB1.grown hg hB1.size (own_base (Kd.own_of_R ho))
set_option maxHeartbeats 8000000 in
set_option maxRecDepth 100000 in
theorem zz_Enc (A : Option Addr) (c : Nat) (es : List El) (w : World) (hr : KI.C w A es.length es) (hc : es.length ≤ c) (hg : ∀ e ∈ es, Good w e) (ht : tot es ≤ 1000000) (hn1 : es.length ≤ 1000) : Calls Try.prog 80 #[.iface 113 (.slice A es.length c)] w (SrtTo w es) := by
  have HR := Aside0.mk hr
  have HC := Aside0.mk hc
  have HG := Aside0.mk hg
  have HT := Aside0.mk ht
  have HN1 := Aside0.mk hn1
  have HB := Aside0.mk (Below.refl w.heap.size w)
  have hm1 := fun (w : World) => (show (Go.method 270 113 (.slice A es.length c) "Len").run Try.prog w = .ok (126, .slice A es.length c) w from by kernel_rfl)
  have hm2 := fun (w : World) => (show (Go.method 270 113 (.slice A es.length c) "Encode").run Try.prog w = .ok (125, .slice A es.length c) w from by kernel_rfl)
  clear hr hc hg ht hn1
  go_enter Try.func80, Try.ntmps80
  go_wp2_with (first
    | (go_at_call 126; (with_reducible refine (se_Len A c es _ HR.out HC.out HT.out).mono ?_); rintro e w' ⟨rfl, rfl⟩)
    | ((with_reducible refine gate_dst (N := 6) rfl ?_); refine Kd.R_make (Kd.int .u8) (w0 := w) w.heap.size 5 ?hg (N := 6) ?hd 25 (.tmp 5) (.tmp 5) rfl (tot es : Int) rfl rfl Try.underlying25 (.int .u8 0) 1 info5 rfl (by decide) (by decide) 0 (okp := fun _ => True) (ok := fun _ => True) ?hzero (fun _ h => h) trivial (by omega) (by have := HT.out; omega) ?hB ?hbase ?_; (case hd => rfl); (case hg => rfl); (case hzero => rfl); (case hB => exact HB.out); (case hbase => exact Nat.le_refl _); intro v1 w1 ho1 hb1 hg1 hnew1; (obtain ⟨Av, cv, hv⟩ := R_slice ho1); (rw [List.length_replicate, Int.toNat_natCast] at hv); subst hv; have HO1 := Aside0.mk ho1; have HB1 := Aside0.mk hb1; clear ho1 hb1 hg1 hnew1)
    | (go_at_call 125; (with_reducible refine (se_Encode A c es Av (tot es) cv w.heap.size _ _ (Kd.C_below HR.out HB1.out) (fun e he => (HG.out e he).below HB1.out) HO1.out rfl (by simp) HT.out HN1.out).mono ?_); rintro e w2 ⟨rfl, ls, hp, ha, ho2, hg2⟩; have HP := Aside0.mk hp; have HA := Aside0.mk ha; have HO2 := Aside0.mk ho2; have HB2 := Aside0.mk (zz_fin (es := es) (ls := ls) HB1.out HO1.out hg2); clear hp ha ho2 hg2))
  go_ret
  exact ⟨_, ls, rfl, HP.out, HA.out, HO2.out, HB2.out⟩
theorem srt_low {w wr w' : World} {es : List El} {e : Ending} (hb : Below w.heap.size w wr) (h : SrtTo wr es e w') : SrtTo w es e w' := by
  obtain ⟨v, ls, he, hp, ha, ho, hb2⟩ := h
  exact ⟨v, ls, he, hp, ha, Kd.R_lower ho hb.size, below_step hb hb2⟩
set_option maxHeartbeats 8000000 in
set_option maxRecDepth 100000 in
theorem zz_Sorted (A : Option Addr) (c : Nat) (es : List El) (w : World) (hr : KV.C w A es.length es) (hg : ∀ e ∈ es, Good w e) (ht : tot es ≤ 1000000) (hn1 : es.length ≤ 1000) : Calls Try.prog 45 #[.slice A es.length c] w (SrtTo w es) := by
  have HR := Aside0.mk hr
  have HG := Aside0.mk hg
  have HT := Aside0.mk ht
  have HN1 := Aside0.mk hn1
  have HB := Aside0.mk (Below.refl w.heap.size w)
  have HS := Aside0.mk (Kd.R_nil KI 117 w w.heap.size (fun _ => True))
  have hu22 := Try.underlying22
  clear hr hg ht
  go_enter Try.func45, Try.ntmps45
  go_wp2
  go_loopw [3, 8] (fun v3 v8 wr => ∃ (k : Nat) (wc : World), v8 = .int .i64 (k : Int) ∧ k ≤ es.length ∧ Aside0 (KI.R 117 wc w.heap.size (fun _ => True) v3 (es.take k)) ∧ Aside0 (Below w.heap.size w wc) ∧ wr = wc) (fun _ v8 _ => es.length - (intOf v8).toNat)
  case atStart => exact ⟨0, _, rfl, Nat.zero_le _, HS, HB, rfl⟩
  case round =>
    obtain ⟨k, wc, rfl, hk, HO, HBW, rfl⟩ := hrel
    by_cases hlt : k < es.length
    · have tl : decide ((k : Int) < (es.length : Int)) = true := decide_eq_true (by omega)
      have tln : decide (k < es.length) = true := decide_eq_true hlt
      have tq : (k : Int) < (es.length : Int) := by omega
      have p7 : (0 ≤ (k : Int)) = True := eq_true (by omega)
      have q7 := eq_true tq
      have q8 := eq_true hlt
      obtain ⟨ae, hA, hx⟩ := at_KV (Kd.C_below HR.out HBW.out) k hlt
      subst hA
      have HTS := Aside0.mk (take_snoc es k nilEl hlt)
      obtain ⟨x, hX⟩ : ∃ x, x = es.getD k nilEl := ⟨_, rfl⟩
      rw [← hX] at hx HTS
      clear hX
      obtain ⟨tk, hTK⟩ : ∃ tk, tk = es.take k := ⟨_, rfl⟩
      have HTL := Aside0.mk (show tk.length ≤ 1000 from by rw [hTK, List.length_take]; omega)
      rw [← hTK] at HO HTS
      clear hTK
      go_wp2_with (first
        | ((with_reducible refine gate_builtin (b := .append) (xs := #[.tmp 12, .tmp 15]) rfl ?_); at_builtin; refine Kd.R_append KI (w0 := w) w.heap.size rfl (.tmp 12) (.tmp 15) 113 117 .nilIface 16 rfl Try.underlying113 info117 rfl (by decide) (by decide) _ tk x [.iface 114 (.slice x.a x.l.length x.c)] (fun _ => True) (fun _ => False) rfl rfl ?aP (fun _ hk => hk.elim) ?aF ?aO ?aB ?aS ?aL ?_; (case aP => exact rfl); (case aF => exact fun _ _ => trivial); (case aO => exact HO.out); (case aB => exact HBW.out); (case aS => exact HBW.out.size); (case aL => have := HTL.out; omega); intro v9 w9 ho hb hg9 hat; rw [← HTS.out] at ho; have HO9 := Aside0.mk ho; have HB9 := Aside0.mk hb; clear ho hb hg9 hat))
      go_roundw
      case rel => exact ⟨k + 1, _, by go_num, by omega, HO9, HB9, rfl⟩
      case measure => simp [intOf]; omega
    · have hkeq : k = es.length := by omega
      have tl : decide ((k : Int) < (es.length : Int)) = false := decide_eq_false (by omega)
      have tln : decide (k < es.length) = false := decide_eq_false hlt
      have hO := HO.out
      rw [hkeq, List.take_length] at hO
      clear hkeq HO
      obtain ⟨A', c', hv, hc', hr'⟩ := Kd.R_reads hO
      subst hv
      have HC' := Aside0.mk hc'
      have HR' := Aside0.mk hr'
      clear hO hc' hr'
      go_wp2_with (go_at_call 80; (with_reducible refine (zz_Enc A' c' es _ HR'.out HC'.out (fun e he => (HG.out e he).below HBW.out) HT.out HN1.out).mono ?_); rintro e w2 ⟨v2, ls, rfl, hp, ha, ho2, hb2⟩; have HZ := Aside0.mk (srt_low HBW.out ⟨v2, ls, rfl, hp, ha, ho2, hb2⟩); clear hp ha ho2 hb2)
      go_ret
      exact HZ.out
end Go.Proofs.Ytmiemfgcggkbnaa.QS
