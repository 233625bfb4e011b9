/- The law FnSorted walked. -/
import Derived.Test.YtmiemfgcggkbnaaSoS
namespace Go.Proofs.Ytmiemfgcggkbnaa.QS
set_option linter.unusedVariables false
set_option linter.unusedSimpArgs false
open Go.RowKit Go.Proofs.YtmiemfgcggkbnaaW.PrintWords Go.Proofs.YtmiemfgcggkbnaaW.PrintLast Go.Proofs.YtmiemfgcggkbnaaW.PrintMore
theorem cc_Concat' (A : Option Addr) (n c : Nat) (es : List El) (w : World) (hn : n = es.length) (hr : KV.C w A es.length es) (hg : ∀ e ∈ es, Good w e) (ht : tot es ≤ 10000) (hn1 : es.length ≤ 1000) : Calls Try.prog 19 #[.slice A n c] w (ByTo w (flat es)) := by
  subst hn
  exact cc_Concat A c es w hr hg ht hn1
/-- Each member's length is between 1 and 135. -/
def Len1 (es : List El) : Prop := ∀ e ∈ es, 1 ≤ e.l.length ∧ e.l.length ≤ 135
theorem len1_snoc {es : List El} {e : El} (h : Len1 es) (h1 : 1 ≤ e.l.length) (h2 : e.l.length ≤ 135) : Len1 (es ++ [e]) := fun x hx => by
  rcases List.mem_append.1 hx with hx | hx
  · exact h x hx
  · rw [List.mem_singleton.1 hx]; exact ⟨h1, h2⟩
theorem tot_le : ∀ es : List El, Len1 es → tot es ≤ 135 * es.length
  | [], _ => by simp [tot]
  | e :: r, h => by
    have ih := tot_le r (fun x hx => h x (List.mem_cons_of_mem _ hx))
    have h1 := (h e List.mem_cons_self).2
    simp only [tot, List.map_cons, List.sum_cons, List.length_cons] at ih ⊢
    omega
theorem apart_of {w wz : World} {v : Value} {es : List El} {d : Nat} (hr : KV.R d wz w.heap.size (fun _ => True) v es) (hg : ∀ e ∈ es, Good w e) (hl : Len1 es) : ∀ e ∈ es, Apart v e := fun e he ad had => by
  obtain ⟨ad', h9, hlt⟩ := (hg e he).lt (by have := (hl e he).1; omega)
  rw [had] at h9
  obtain rfl := Option.some.inj h9
  intro h8
  have := own_base (Kd.own_of_R (enc := El.v) (h1 := El.one) hr) _ h8.symm
  omega
theorem eq_true_of {ls : List (List Int)} {es es' : List El} (hp : ls.Perm (es.map (·.l))) (ha : Asc ls) (hp' : es'.Perm es) (ha' : Asc (es'.map (·.l))) : bytes_Equal.f ls.flatten (flat es') = some true := by
  have h : ls = es'.map (·.l) := sorted_same (hp.trans (hp'.map _).symm) ha ha'
  unfold bytes_Equal.f flat
  rw [h]
  simp
theorem heap2 (W : World) (a b : Obj) : ((W.alloc a).alloc b).heap[W.heap.size]? = some a ∧ ((W.alloc a).alloc b).heap[W.heap.size + 1]? = some b := by
  constructor
  · show ((W.heap.push a).push b)[W.heap.size]? = some a
    simp [Array.getElem?_push]
  · show ((W.heap.push a).push b)[W.heap.size + 1]? = some b
    rw [show W.heap.size + 1 = (W.heap.push a).size by simp]
    exact Array.getElem?_push_size
theorem im_const (W : World) : Calls Try.prog 18 #[.slice (some ⟨W.heap.size + 1, 0, none⟩) 1 1] ((W.alloc (.cells #[.int .u8 5, .int .u8 0] 5)).alloc (.cells #[.slice (some ⟨W.heap.size, 0, none⟩) 2 2] 25))
    fun e w' => ∃ A c, e = .returned (.slice A 2 c) ∧ Below ((W.alloc (.cells #[.int .u8 5, .int .u8 0] 5)).alloc (.cells #[.slice (some ⟨W.heap.size, 0, none⟩) 2 2] 25)).heap.size ((W.alloc (.cells #[.int .u8 5, .int .u8 0] 5)).alloc (.cells #[.slice (some ⟨W.heap.size, 0, none⟩) 2 2] 25)) w' := by
  obtain ⟨h1, h2⟩ := heap2 W (.cells #[.int .u8 5, .int .u8 0] 5) (.cells #[.slice (some ⟨W.heap.size, 0, none⟩) 2 2] 25)
  generalize ((W.alloc (.cells #[.int .u8 5, .int .u8 0] 5)).alloc (.cells #[.slice (some ⟨W.heap.size, 0, none⟩) 2 2] 25)) = Z at h1 h2 ⊢
  have hC : KV.C Z (some ⟨W.heap.size + 1, 0, none⟩) [(⟨some ⟨W.heap.size, 0, none⟩, 2, [5, 0]⟩ : El)].length [⟨some ⟨W.heap.size, 0, none⟩, 2, [5, 0]⟩] :=
    Kd.C_of_reads (d := nilEl) (h1 := El.one) (show ReadsOf El.v nilEl Z _ 1 [⟨some ⟨W.heap.size, 0, none⟩, 2, [5, 0]⟩] from ⟨rfl, by omega, fun _ => ⟨_, rfl, fun j hj => by
      obtain rfl : j = 0 := by omega
      rw [add_zero_off]
      simp [World.cell?, h2, El.v]⟩⟩)
  have hG : ∀ e ∈ [(⟨some ⟨W.heap.size, 0, none⟩, 2, [5, 0]⟩ : El)], Good Z e := fun e he => by
    rw [List.mem_singleton.1 he]
    refine ⟨Kd.C_of_reads (d := (0 : Int)) (h1 := fun _ => rfl) (show ReadsOf (Value.int .u8) 0 Z (some ⟨W.heap.size, 0, none⟩) 2 [5, 0] from ⟨rfl, by omega, fun _ => ⟨_, rfl, fun j hj => ?_⟩⟩), Nat.le_refl 2, ?_⟩
    · rw [add_zero_off]
      rcases (by omega : j = 0 ∨ j = 1) with rfl | rfl <;> simp [World.cell?, h1]
    · intro x hx
      simp at hx
      omega
  refine (im_Sorted (some ⟨W.heap.size + 1, 0, none⟩) 1 [⟨some ⟨W.heap.size, 0, none⟩, 2, [5, 0]⟩] Z hC hG (by simp [tot]) (by simp)).mono fun e w' ⟨v, ls, he, hp, ha, ho, hb⟩ => ?_
  have hls : ls = [[5, 0]] := List.perm_singleton.1 hp
  rw [hls] at ho
  obtain ⟨A, c, hv⟩ := R_slice ho
  exact ⟨A, c, by rw [he, hv]; rfl, hb⟩
set_option maxHeartbeats 8000000 in
set_option maxRecDepth 100000 in
theorem law_main (A : Option Addr) (c : Nat) (es : List El) (w : World) (hr : KV.C w A es.length es) (hg : ∀ e ∈ es, Good w e) (hfit : es.all fitE = true) (hz : Calls Try.prog 12 #[.slice A es.length c] w fun e w' => e = .returned (.bool true) ∧ Below w.heap.size w w') (hl : es.length ≤ 20) : Calls Try.prog 3 #[.slice A es.length c] w fun e w' => e = .returned (.bool true) ∧ Below w.heap.size w w' := by
  have HZ := Aside0.mk hz
  have HR := Aside0.mk hr
  have HG := Aside0.mk hg
  have HF := Aside0.mk (fun e he => of_decide_eq_true (List.all_eq_true.1 hfit e he) : ∀ e ∈ es, e.l.length ≤ 2147483647)
  have HL := Aside0.mk hl
  have hu22 := Try.underlying22
  have hu27 := Try.underlying27
  have t1 : decide ((es.length : Int) > 20) = false := decide_eq_false (by omega)
  have t1' : decide ((20 : Int) < (es.length : Int)) = false := decide_eq_false (by omega)
  have t1n : decide (20 < es.length) = false := decide_eq_false (by omega)
  clear hz hr hg hfit
  go_enter Try.func3, Try.ntmps3
  go_wp2_with (first
    | (go_at_call 12; (with_reducible refine HZ.out.mono ?_); rintro e w1 ⟨rfl, hb⟩; have HB1 := Aside0.mk hb; clear hb)
    | (go_at_call 13; (with_reducible refine (cl_Clone A c es _ (Kd.C_below HR.out HB1.out) (by have := HL.out; omega)).mono ?_); rintro e w2 ⟨v2, rfl, ho, hb⟩; (obtain ⟨A2, c2, hv2, hc2, hr2⟩ := Kd.R_reads ho); subst hv2; have HO2 := Aside0.mk (Kd.R_lower ho HB1.out.size); have HB2 := Aside0.mk (below_step HB1.out hb); clear ho hb hc2 hr2))
  go_loopw [19] (fun v19 wr => ∃ (k : Nat) (wc : World), v19 = .int .i64 (k : Int) ∧ k ≤ es.length ∧ Aside0 (Len1 (es.take k)) ∧ Aside0 (KV.R 25 wc w.heap.size (fun _ => True) (.slice A2 es.length c2) es) ∧ Aside0 (Below w.heap.size w wc) ∧ wr = wc) (fun v19 _ => es.length - (intOf v19).toNat)
  case atStart => exact ⟨0, _, rfl, Nat.zero_le _, ⟨fun e he => by cases he⟩, HO2, HB2, rfl⟩
  case round =>
    clear HO2 HB2
    obtain ⟨k, wc, rfl, hk, HLN, HO3, HB3, rfl⟩ := hrel
    by_cases hlt : k < es.length
    · have tl : decide ((k : Int) < (es.length : Int)) = true := decide_eq_true (by omega)
      have tln : decide (k < es.length) = true := decide_eq_true hlt
      have tq : (k : Int) < (es.length : Int) := by omega
      have p7 : (0 ≤ (k : Int)) = True := eq_true (by omega)
      have q7 := eq_true tq
      have q8 := eq_true hlt
      obtain ⟨ae, hA, hx⟩ := at_KV (Kd.C_below HR.out HB3.out) k hlt
      subst hA
      have HGX := Aside0.mk ((HG.out _ (getD_mem hlt)).below HB3.out)
      have HFX := Aside0.mk (HF.out _ (getD_mem hlt))
      have HTS := Aside0.mk (take_snoc es k nilEl hlt)
      obtain ⟨x, hX⟩ : ∃ x, x = es.getD k nilEl := ⟨_, rfl⟩
      rw [← hX] at hx HGX HFX HTS
      clear hX
      have HG1 := Aside0.mk HGX.out.1
      have HG2 := Aside0.mk HGX.out.2.1
      obtain ⟨r1, r2, r3, r4, r5, r6, he, hp⟩ := header_end x.l HGX.out.2.2 HFX.out
      have HE := Aside0.mk he
      have HP := Aside0.mk hp
      clear he hp
      cases r6 with
      | false =>
        go_wp2_with (first
          | (go_at_call 14; (with_reducible refine (spec_Header.calls _ x.a x.c x.l 0 r1 r2 r3 r4 r5 false _ HG1.out HG2.out HE.out).mono ?_); rintro e w5 ⟨rfl, hb5⟩; have HB5 := Aside0.mk (below_step HB3.out hb5); have HO5 := Aside0.mk (Kd.R_below HO3.out hb5); clear hb5))
        go_ret
        exact ⟨rfl, below_alloc HB5.out _⟩
      | true =>
        by_cases h3 : r3 > 127
        · have t3 : decide (r3 > 127) = true := decide_eq_true h3
          have t3' : decide (127 < r3) = true := decide_eq_true h3
          clear h3
          go_wp2_with (first
            | (go_at_call 14; (with_reducible refine (spec_Header.calls _ x.a x.c x.l 0 r1 r2 r3 r4 r5 true _ HG1.out HG2.out HE.out).mono ?_); rintro e w5 ⟨rfl, hb5⟩; have HB5 := Aside0.mk (below_step HB3.out hb5); have HO5 := Aside0.mk (Kd.R_below HO3.out hb5); clear hb5))
          go_ret
          exact ⟨rfl, below_alloc HB5.out _⟩
        · have t3 : decide (r3 > 127) = false := decide_eq_false h3
          have t3' : decide (127 < r3) = false := decide_eq_false h3
          have HQ := Aside0.mk (HP.out rfl (by omega))
          clear h3
          have hws : wrap64 (r5 + r3) = r5 + r3 := by have h1 := HQ.out; unfold wrap64; by_cases h9 : r3 ≤ 127 <;> simp at t3 <;> omega
          by_cases h4 : r5 + r3 = (x.l.length : Int)
          · have HS := Aside0.mk h4
            have HR3 := Aside0.mk (show r3 ≤ 127 from by simp at t3; exact t3)
            clear h4
            have h4' : wrap64 (r5 + r3) = (x.l.length : Int) := hws.trans HS.out
            clear hws
            go_wp2_with (first
              | (go_at_call 14; (with_reducible refine (spec_Header.calls _ x.a x.c x.l 0 r1 r2 r3 r4 r5 true _ HG1.out HG2.out HE.out).mono ?_); rintro e w5 ⟨rfl, hb5⟩; have HB5 := Aside0.mk (below_step HB3.out hb5); have HO5 := Aside0.mk (Kd.R_below HO3.out hb5); clear hb5))
            go_roundw
            case rel => exact ⟨k + 1, _, by go_num, by omega, ⟨by rw [HTS.out]; exact len1_snoc HLN.out (by have h1 := HS.out; have h2 := HQ.out; have h3 := HR3.out; omega) (by have h1 := HS.out; have h2 := HQ.out; have h3 := HR3.out; omega)⟩, ⟨Kd.R_alloc HO5.out _⟩, ⟨below_alloc HB5.out _⟩, rfl⟩
            case measure => simp [intOf]; omega
          · have t4 : decide (r5 + r3 = (x.l.length : Int)) = false := decide_eq_false h4
            have t4b : ((r5 + r3) == (x.l.length : Int)) = false := by simp; exact h4
            clear h4
            go_wp2_with (first
              | (go_at_call 14; (with_reducible refine (spec_Header.calls _ x.a x.c x.l 0 r1 r2 r3 r4 r5 true _ HG1.out HG2.out HE.out).mono ?_); rintro e w5 ⟨rfl, hb5⟩; have HB5 := Aside0.mk (below_step HB3.out hb5); have HO5 := Aside0.mk (Kd.R_below HO3.out hb5); clear hb5))
            go_ret
            exact ⟨rfl, below_alloc HB5.out _⟩
    · have hkeq : k = es.length := by omega
      have tl : decide ((k : Int) < (es.length : Int)) = false := decide_eq_false (by omega)
      have tln : decide (k < es.length) = false := decide_eq_false hlt
      have HLE := Aside0.mk (show Len1 es from by have h9 := HLN.out; rw [hkeq, List.take_length] at h9; exact h9)
      have HTT := Aside0.mk (show tot es ≤ 10000 from by have h1 := tot_le es HLE.out; have h2 := HL.out; omega)
      clear hkeq HLN
      go_wp2_with (first
        | (go_at_call 15; (with_reducible refine (sort_call16 (.slice A2 es.length c2) es w.heap.size (fun _ => True) _ HO3.out (fun e he => (HG.out e he).below HB3.out) (apart_of HO3.out HG.out HLE.out) (by have := HL.out; omega)).mono ?_); rintro e ws ⟨rfl, es', hperm, hasc, hR', hg'⟩; have HPE := Aside0.mk hperm; have HAS := Aside0.mk hasc; have HR5 := Aside0.mk hR'; have HB5 := Aside0.mk (HB3.out.grown hg' HB3.out.size (own_base (Kd.own_of_R (enc := El.v) (h1 := El.one) HO3.out))); clear hperm hasc hR' hg')
        | (go_at_call 18; (with_reducible refine (im_Sorted A c es _ (Kd.C_below HR.out HB5.out) (fun e he => (HG.out e he).below HB5.out) HTT.out (by have := HL.out; omega)).mono ?_); rintro e w6 ⟨v6, ls, rfl, hp, ha, ho6, hb6⟩; have hq6 := eq_true_of hp ha HPE.out HAS.out; (obtain ⟨fl, hfl⟩ : ∃ fl, fl = ls.flatten := ⟨_, rfl⟩); rw [← hfl] at ho6 hq6; clear hfl; (obtain ⟨A6, c6, hv6, hc6, hr6⟩ := Kd.R_reads ho6); subst hv6; have HQ6 := Aside0.mk hq6; clear hq6; have HC6 := Aside0.mk hc6; have HR6 := Aside0.mk hr6; have HW6 := Aside0.mk (Kd.R_reads' (Kd.R_below HR5.out hb6)).2.2; have HB6 := Aside0.mk (below_step HB5.out hb6); clear hp ha ho6 hb6 hc6 hr6)
        | (go_at_call 19; (with_reducible refine (cc_Concat' A2 es.length c2 es' _ HPE.out.length_eq.symm HW6.out (fun e he => (HG.out e (HPE.out.mem_iff.1 he)).below HB6.out) (by have h1 := tot_perm HPE.out; have h2 := HTT.out; omega) (by have h1 := HPE.out.length_eq; have h2 := HL.out; omega)).mono ?_); rintro e w7 ⟨v7, rfl, ho7, hb7⟩; (obtain ⟨A7, c7, hv7, hc7, hr7⟩ := Kd.R_reads ho7); subst hv7; have HC7 := Aside0.mk hc7; have HR7 := Aside0.mk hr7; have HR8 := Aside0.mk (Kd.C_below HR6.out hb7); have HB7 := Aside0.mk (below_step HB6.out hb7); clear ho7 hb7 hc7 hr7)
        | (go_at_call 17; (with_reducible refine (bytes_Equal.calls A6 c6 fl A7 c7 (flat es') true _ HR8.out HC6.out HR7.out HC7.out HQ6.out).mono ?_); rintro e w8 ⟨rfl, hd⟩; have HB8 := Aside0.mk (below_step HB7.out hd.below); clear hd)
        | (go_at_call 18; (with_reducible refine (im_const w8).mono ?_); rintro e w9 ⟨A9, c9, rfl, hb9⟩; have HB9 := Aside0.mk (below_step (below_alloc (below_alloc HB8.out _) _) hb9); clear hb9))
      go_ret
      exact ⟨rfl, HB9.out⟩
end Go.Proofs.Ytmiemfgcggkbnaa.QS
