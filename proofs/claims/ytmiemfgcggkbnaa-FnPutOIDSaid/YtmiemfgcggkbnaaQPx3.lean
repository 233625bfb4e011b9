-- Written by a program of this work (wip/patch_print.py) for this claim.
import Derived.Test.YtmiemfgcggkbnaaQPx0
import Derived.Test.YtmiemfgcggkbnaaQPx2
namespace Go.Proofs.Ytmiemfgcggkbnaa.QP
open Go.RowKit Go.Proofs.YtmiemfgcggkbnaaW.PrintWords Go.Proofs.YtmiemfgcggkbnaaW.PrintLast Go.Proofs.YtmiemfgcggkbnaaW.PrintMore
attribute [local go_sem] max2_int min2_int max_two min_two max_three min_three max_four min_four   -- for this text's walks alone
set_option linter.unusedVariables false
set_option linter.unusedSimpArgs false

/-! ### asn1_parseObjectIdentifier: function 82 -/
mutual
def asn1_parseObjectIdentifier.j0 : Nat → List Int → List Int → Option Int → Int → Option (List Int × Option Int)
  | 0, _, _, _, _ => none
  | k + 1, x0, x2, x3, x5 => asn1_parseObjectIdentifier.l0 k x0 x2 x3 x5 2
def asn1_parseObjectIdentifier.l0 : Nat → List Int → List Int → Option Int → Int → Int → Option (List Int × Option Int)
  | 0, _, _, _, _, _ => none
  | k + 1, x0, x2, x3, x5, x6 => if x5 < (x0.length : Int) then ((asn1_parseBase128Int.f k x0 x5).bind fun bt155 => (if bt155.2.2.isNone = true then (if 0 ≤ x6 then (if x6 < (x2.length : Int) then (asn1_parseObjectIdentifier.l0 k x0 (x2.set (x6 : Int).toNat bt155.1) none bt155.2.1 (wrap64 (x6 + 1))) else (none)) else (none)) else (some (x2, some (bt155.2.2.getD 0))))) else (if 0 ≤ x6 then (if x6 ≤ (x2.length : Int) then (some ((x2.take (x6 : Int).toNat), x3)) else (none)) else (none))
end
def asn1_parseObjectIdentifier.f (k : Nat) (l0 : List Int) : Option (List Int × Option Int) := if (l0.length : Int) = 0 then (some (([] : List Int), some 4)) else (if 0 ≤ (wrap64 ((l0.length : Int) + 1)) then (if (wrap64 ((l0.length : Int) + 1) : Int).toNat ≤ 35184372088832 then ((some (List.replicate (wrap64 ((l0.length : Int) + 1) : Int).toNat 0 : List Int)).bind fun y144 => ((asn1_parseBase128Int.f k l0 0).bind fun bt147 => (if bt147.2.2.isNone = true then (if bt147.1 < 80 then (if 0 < (y144.length : Int) then (if 1 < (y144.length : Int) then (asn1_parseObjectIdentifier.j0 k l0 ((y144.set (0 : Int).toNat (wrap64 (Int.tdiv bt147.1 40))).set (1 : Int).toNat (Int.tmod bt147.1 40)) none bt147.2.1) else (none)) else (none)) else (if 0 < (y144.length : Int) then (if 1 < (y144.length : Int) then (asn1_parseObjectIdentifier.j0 k l0 ((y144.set (0 : Int).toNat 2).set (1 : Int).toNat (wrap64 (bt147.1 - 80))) none bt147.2.1) else (none)) else (none))) else (some (y144, some (bt147.2.2.getD 0)))))) else (none)) else (none))
theorem asn1_parseObjectIdentifier.mono_l : ∀ k, (∀ y0 y1 y2 y3, LeO (asn1_parseObjectIdentifier.j0 k y0 y1 y2 y3) (asn1_parseObjectIdentifier.j0 (k + 1) y0 y1 y2 y3)) ∧ (∀ y0 y1 y2 y3 y4, LeO (asn1_parseObjectIdentifier.l0 k y0 y1 y2 y3 y4) (asn1_parseObjectIdentifier.l0 (k + 1) y0 y1 y2 y3 y4))
  | 0 => ⟨fun _ _ _ _ r h => by simp [asn1_parseObjectIdentifier.j0] at h, fun _ _ _ _ _ r h => by simp [asn1_parseObjectIdentifier.l0] at h⟩
  | k + 1 => by
    obtain ⟨ih0, ih1⟩ := asn1_parseObjectIdentifier.mono_l k
    refine ⟨?_, ?_⟩
    · intro y0 y1 y2 y3
      unfold asn1_parseObjectIdentifier.j0
      repeat' first
      | (with_reducible exact ih0 _ _ _ _)
      | (with_reducible exact ih1 _ _ _ _ _)
      | (with_reducible exact asn1_parseBase128Int.mono _ _ _)
      | (with_reducible exact LeO.refl _)
      | (with_reducible exact LeO.none _)
      | (with_reducible refine LeO.ite ?_ ?_)
      | (with_reducible refine LeO.bind ?_ (fun _ => ?_))
      | exact ih0 _ _ _ _
      | exact ih1 _ _ _ _ _
      | exact asn1_parseBase128Int.mono _ _ _
      | exact LeO.none _
      | refine LeO.ite ?_ ?_
      | refine LeO.bind ?_ (fun _ => ?_)
    · intro y0 y1 y2 y3 y4
      unfold asn1_parseObjectIdentifier.l0
      repeat' first
      | (with_reducible exact ih0 _ _ _ _)
      | (with_reducible exact ih1 _ _ _ _ _)
      | (with_reducible exact asn1_parseBase128Int.mono _ _ _)
      | (with_reducible exact LeO.refl _)
      | (with_reducible exact LeO.none _)
      | (with_reducible refine LeO.ite ?_ ?_)
      | (with_reducible refine LeO.bind ?_ (fun _ => ?_))
      | exact ih0 _ _ _ _
      | exact ih1 _ _ _ _ _
      | exact asn1_parseBase128Int.mono _ _ _
      | exact LeO.none _
      | refine LeO.ite ?_ ?_
      | refine LeO.bind ?_ (fun _ => ?_)
theorem asn1_parseObjectIdentifier.mono : ∀ a0 k, LeO (asn1_parseObjectIdentifier.f k a0) (asn1_parseObjectIdentifier.f (k + 1) a0) := by
  intro a0 k
  obtain ⟨ih0, ih1⟩ := asn1_parseObjectIdentifier.mono_l k
  unfold asn1_parseObjectIdentifier.f
  repeat' first
      | (with_reducible exact ih0 _ _ _ _)
      | (with_reducible exact ih1 _ _ _ _ _)
      | (with_reducible exact asn1_parseBase128Int.mono _ _ _)
      | (with_reducible exact LeO.refl _)
      | (with_reducible exact LeO.none _)
      | (with_reducible refine LeO.ite ?_ ?_)
      | (with_reducible refine LeO.bind ?_ (fun _ => ?_))
      | exact ih0 _ _ _ _
      | exact ih1 _ _ _ _ _
      | exact asn1_parseBase128Int.mono _ _ _
      | exact LeO.none _
      | refine LeO.ite ?_ ?_
      | refine LeO.bind ?_ (fun _ => ?_)
set_option maxHeartbeats 8000000 in
set_option maxRecDepth 100000 in
theorem asn1_parseObjectIdentifier.calls (k : Nat) (A0 : Option Addr) (c0 : Nat) (l0 : List Int) (r1 : List Int) (r2 : Option Int) (w : World) (hr0 : Kd.C (Kd.int .u8) w A0 l0.length l0) (hc0 : l0.length ≤ c0) (h : asn1_parseObjectIdentifier.f k l0 = some (r1, r2)) :
    Calls Try.prog 82 #[.slice A0 l0.length c0] w fun e w' => ∃ v0_ : Value, e = .returned (.tuple #[v0_, errW r2]) ∧ Kd.R (Kd.int .i64) 3 w' w.heap.size (fun _ => True) v0_ r1 ∧ Below w.heap.size w w' := by
  have hu135 := Try.underlying135
  have hu72 := Try.underlying72
  have HR0 := Aside0.mk hr0
  have HC0 := Aside0.mk hc0
  clear hr0 hc0
  have HB := Aside0.mk (Below.refl w.heap.size w)
  have H : (if (l0.length : Int) = 0 then (some (([] : List Int), some 4)) else (if 0 ≤ (wrap64 ((l0.length : Int) + 1)) then (if (wrap64 ((l0.length : Int) + 1) : Int).toNat ≤ 35184372088832 then ((some (List.replicate (wrap64 ((l0.length : Int) + 1) : Int).toNat 0 : List Int)).bind fun y144 => ((asn1_parseBase128Int.f k l0 0).bind fun bt147 => (if bt147.2.2.isNone = true then (if bt147.1 < 80 then (if 0 < (y144.length : Int) then (if 1 < (y144.length : Int) then (asn1_parseObjectIdentifier.j0 k l0 ((y144.set (0 : Int).toNat (wrap64 (Int.tdiv bt147.1 40))).set (1 : Int).toNat (Int.tmod bt147.1 40)) none bt147.2.1) else (none)) else (none)) else (if 0 < (y144.length : Int) then (if 1 < (y144.length : Int) then (asn1_parseObjectIdentifier.j0 k l0 ((y144.set (0 : Int).toNat 2).set (1 : Int).toNat (wrap64 (bt147.1 - 80))) none bt147.2.1) else (none)) else (none))) else (some (y144, some (bt147.2.2.getD 0)))))) else (none)) else (none))) = some (r1, r2) := h
  clear h
  by_cases c2 : (l0.length : Int) = 0
  · rw [if_pos c2] at H
    have c2b0 : ((l0.length : Int) == 0) = true := beq_iff_eq.mpr c2
    have c2b1 : ((l0.length : Int) != 0) = false := bne_eq_false_iff_eq.mpr c2
    clear c2
    simp only [Option.some.injEq, Prod.mk.injEq] at H
    obtain ⟨rfl, rfl⟩ := H
    go_enter Try.func82, Try.ntmps82
    go_wp2
    go_ret2
    exact ⟨_, by first | rfl | (simp [errW_none, errW_some] <;> rfl) | (simp [*, errW_none, errW_some] <;> rfl), by first | exact Kd.R_nil _ _ _ _ _ | exact Kd.N_nil _ _ _ _ _ | exact Kd.V_nil _ _ _ _ _ | exact Kd.Q_nil _ _ _ _ _ | exact Kd.S_nil _ _ _ _ _, by repeat (first | (with_reducible first | exact HB.out | apply below_alloc | apply pw_below_drewN | apply below_drew1) | exact HB.out)⟩
  · rw [if_neg c2] at H
    have c2b0 : ((l0.length : Int) == 0) = false := beq_eq_false_iff_ne.mpr c2
    have c2b1 : ((l0.length : Int) != 0) = true := bne_iff_ne.mpr c2
    have c2b2 : ¬ (l0 = []) := fun h_ => c2 (by rw [h_]; rfl)
    obtain ⟨ji3, hji3⟩ : ∃ j_ : Int, (wrap64 ((l0.length : Int) + 1)) = j_ := ⟨_, rfl⟩
    replace H : (if 0 ≤ (ji3) then (if (ji3 : Int).toNat ≤ 35184372088832 then ((some (List.replicate (ji3 : Int).toNat 0 : List Int)).bind fun y144 => ((asn1_parseBase128Int.f k l0 0).bind fun bt147 => (if bt147.2.2.isNone = true then (if bt147.1 < 80 then (if 0 < (y144.length : Int) then (if 1 < (y144.length : Int) then (asn1_parseObjectIdentifier.j0 k l0 ((y144.set (0 : Int).toNat (wrap64 (Int.tdiv bt147.1 40))).set (1 : Int).toNat (Int.tmod bt147.1 40)) none bt147.2.1) else (none)) else (none)) else (if 0 < (y144.length : Int) then (if 1 < (y144.length : Int) then (asn1_parseObjectIdentifier.j0 k l0 ((y144.set (0 : Int).toNat 2).set (1 : Int).toNat (wrap64 (bt147.1 - 80))) none bt147.2.1) else (none)) else (none))) else (some (y144, some (bt147.2.2.getD 0)))))) else (none)) else (none)) = some (r1, r2) := by first | (rw [hji3] at H; exact H) | (simp only [hji3] at H ⊢; exact H)
    have hji3w : (IntKind.i64.wrap ((l0.length : Int) + 1)) = ji3 := (i64_w _).trans hji3
    by_cases c4 : 0 ≤ (ji3)
    · rw [if_pos c4] at H
      have c4b0 := eq_true c4
      have c4b1 : decide (0 ≤ (ji3)) = true := decide_eq_true c4
      clear c4
      by_cases c5 : (ji3 : Int).toNat ≤ 35184372088832
      · rw [if_pos c5] at H
        have c5b0 := eq_true c5
        have c5b1 : decide ((ji3 : Int).toNat ≤ 35184372088832) = true := decide_eq_true c5
        clear c5
        obtain ⟨y144, hy144⟩ : ∃ y_ : List Int, y_ = (List.replicate (ji3 : Int).toNat 0) := ⟨_, rfl⟩
        replace H : ((asn1_parseBase128Int.f k l0 0).bind fun bt147 => (if bt147.2.2.isNone = true then (if bt147.1 < 80 then (if 0 < (y144.length : Int) then (if 1 < (y144.length : Int) then (asn1_parseObjectIdentifier.j0 k l0 ((y144.set (0 : Int).toNat (wrap64 (Int.tdiv bt147.1 40))).set (1 : Int).toNat (Int.tmod bt147.1 40)) none bt147.2.1) else (none)) else (none)) else (if 0 < (y144.length : Int) then (if 1 < (y144.length : Int) then (asn1_parseObjectIdentifier.j0 k l0 ((y144.set (0 : Int).toNat 2).set (1 : Int).toNat (wrap64 (bt147.1 - 80))) none bt147.2.1) else (none)) else (none))) else (some (y144, some (bt147.2.2.getD 0))))) = some (r1, r2) := by first | (rw [hy144]; with_reducible exact H) | (have H2_ := (Option.bind_some _ _).symm.trans H; rw [hy144]; with_reducible exact H2_) | (have H2_ := (Option.bind_some _ _).symm.trans H; with_reducible exact H2_) | with_reducible exact H | (rw [hy144]; exact H) | exact H
        have Ny144 := Aside0.mk hy144
        clear hy144
        replace H := Option.bind_eq_some_iff.mp H
        obtain ⟨⟨t147, t148, t149⟩, A60, H⟩ := H
        replace H : (if t149.isNone = true then (if t147 < 80 then (if 0 < (y144.length : Int) then (if 1 < (y144.length : Int) then (asn1_parseObjectIdentifier.j0 k l0 ((y144.set (0 : Int).toNat (wrap64 (Int.tdiv t147 40))).set (1 : Int).toNat (Int.tmod t147 40)) none t148) else (none)) else (none)) else (if 0 < (y144.length : Int) then (if 1 < (y144.length : Int) then (asn1_parseObjectIdentifier.j0 k l0 ((y144.set (0 : Int).toNat 2).set (1 : Int).toNat (wrap64 (t147 - 80))) none t148) else (none)) else (none))) else (some (y144, some (t149.getD 0)))) = some (r1, r2) := H
        have A6 := Aside0.mk A60
        clear A60
        rcases t149 with _ | q150
        · have H1 : (if t147 < 80 then (if 0 < (y144.length : Int) then (if 1 < (y144.length : Int) then (asn1_parseObjectIdentifier.j0 k l0 ((y144.set (0 : Int).toNat (wrap64 (Int.tdiv t147 40))).set (1 : Int).toNat (Int.tmod t147 40)) none t148) else (none)) else (none)) else (if 0 < (y144.length : Int) then (if 1 < (y144.length : Int) then (asn1_parseObjectIdentifier.j0 k l0 ((y144.set (0 : Int).toNat 2).set (1 : Int).toNat (wrap64 (t147 - 80))) none t148) else (none)) else (none))) = some (r1, r2) := by rw [if_pos (show (none : Option Int).isNone = true by rfl)] at H; exact H
          clear H
          have H := H1
          clear H1
          try simp only [errW_none, errW_some]
          have HC7 := Aside0.mk H
          clear H
          go_enter Try.func82, Try.ntmps82
          go_upto_if 25 with (first | ((with_reducible refine gate_dst (N := 15) rfl ?_); refine Kd.R_make (Kd.int .i64) _ 3 rfl (N := 15) rfl 35 _ _ rfl ji3 rfl rfl Try.underlying35 (.int .i64 0) 8 info3 rfl (by decide) (by omega) 0 (ok := fun _ => True) (okp := fun _ => True) rfl (fun _ hk => hk) trivial (of_decide_eq_true (by first | (with_reducible assumption) | assumption)) (Nat.le_trans (Nat.mul_le_mul_right _ (of_decide_eq_true (by first | (with_reducible assumption) | assumption) : ji3.toNat ≤ 35184372088832)) (by omega)) (Below.refl _ _) (Nat.le_refl _) ?_; intro v145 w8 ho9 hb hg_ hnew_; clear hg_ hnew_; (first | rw [← Ny144.out] at ho9 | (simp only [Int.reduceToNat] at ho9; rw [← Ny144.out] at ho9)); have n0_ := Aside0.mk (Kd.R_lower ho9 (below_size (by repeat (first | (with_reducible first | exact HB.out | apply below_alloc | apply pw_below_drewN | apply below_drew1) | exact HB.out)))); have n1_ := Aside0.mk (below_step (by repeat (first | (with_reducible first | exact HB.out | apply below_alloc | apply pw_below_drewN | apply below_drew1) | exact HB.out)) hb); clear HB; have HO146 := n0_; have HB := n1_; clear n0_ n1_; clear hb ho9) | ((with_reducible refine gate_callee (f := 96) rfl ?_); refine goesL_ (some 18) rfl rfl Try.func96 (by kernel_rfl) rfl #[.slice A0 l0.length c0, .int .i64 0] rfl (by (try simp only [List.map_toArray, List.map_cons, List.map_nil]); first | done | rfl | (simp only [List.length_drop, List.length_take]; rfl)) ?_; (with_reducible refine (asn1_parseBase128Int.calls k _ _ l0 0 t147 t148 none _ ?side1 ?side2 A6.out).mono ?_); (case side1 => repeat (first | exact (Kd.C_below HR0.out HB.out) | (with_reducible refine Kd.C_alloc ?_ _) | (with_reducible refine Kd.C_drewN ?_ _) | (with_reducible refine Kd.C_drew ?_))); (case side2 => exact HC0.out); rintro e w10 ⟨rfl, hb⟩; refine ⟨_, rfl, ?_⟩; have n0_ := Aside0.mk (Kd.R_below (by (with_reducible repeat (first | apply Kd.R_alloc | apply Kd.R_drewN | apply Kd.R_drew)); exact HO146.out) hb); have n1_ := Aside0.mk (below_step (by repeat (first | (with_reducible first | exact HB.out | apply below_alloc | apply pw_below_drewN | apply below_drew1) | exact HB.out)) hb); clear HO146; clear HB; have HO146 := n0_; have HB := n1_; clear n0_ n1_; (try clear hb); (try clear hb2); (try clear hk); (try clear hi); (try simp only [errW_none, errW_some])))
          (try simp only [Act.put, List.setIfInBounds_toArray, List.set_cons_zero, List.set_cons_succ])
          go_cut [] (fun wc => ∃ (kq : Nat) (x2_6 : List Int), Aside0 (asn1_parseObjectIdentifier.j0 kq l0 x2_6 none t148 = some (r1, r2)) ∧ Aside0 (kq ≤ k) ∧ Aside0 (Kd.R (Kd.int .i64) 3 wc w.heap.size (fun _ => True) v145 x2_6) ∧ Aside0 (Below w.heap.size w wc))
          case first =>
            have H := HC7.out
            clear HC7
            by_cases c11 : t147 < 80
            · rw [if_pos c11] at H
              have c11b0 : decide (t147 < 80) = true := decide_eq_true c11
              clear c11
              (first | rw [c11b0] | (simp only [i64_w, i32_w]; rw [c11b0]) | skip)
              by_cases c12 : 0 < (y144.length : Int)
              · rw [if_pos c12] at H
                have c12b0 : decide (0 < (y144.length : Int)) = true := decide_eq_true c12
                have c12b1 : decide (0 < y144.length) = true := decide_eq_true (by omega)
                clear c12
                obtain ⟨y151, hy151⟩ : ∃ y_ : List Int, y_ = (y144.set (0 : Int).toNat (wrap64 (Int.tdiv t147 40))) := ⟨_, rfl⟩
                replace H : (if 1 < (y144.length : Int) then (asn1_parseObjectIdentifier.j0 k l0 (y151.set (1 : Int).toNat (Int.tmod t147 40)) none t148) else (none)) = some (r1, r2) := by first | (rw [hy151]; with_reducible exact H) | (have H2_ := (Option.bind_some _ _).symm.trans H; rw [hy151]; with_reducible exact H2_) | (have H2_ := (Option.bind_some _ _).symm.trans H; with_reducible exact H2_) | with_reducible exact H | (rw [hy151]; exact H) | exact H
                have Ny151 := Aside0.mk hy151
                clear hy151
                by_cases c14 : 1 < (y144.length : Int)
                · rw [if_pos c14] at H
                  have c14b0 : decide (1 < (y144.length : Int)) = true := decide_eq_true c14
                  have c14b1 : decide (1 < y144.length) = true := decide_eq_true (by omega)
                  clear c14
                  obtain ⟨y152, hy152⟩ : ∃ y_ : List Int, y_ = (y151.set (1 : Int).toNat (Int.tmod t147 40)) := ⟨_, rfl⟩
                  replace H : (asn1_parseObjectIdentifier.j0 k l0 y152 none t148) = some (r1, r2) := by first | (rw [hy152]; with_reducible exact H) | (have H2_ := (Option.bind_some _ _).symm.trans H; rw [hy152]; with_reducible exact H2_) | (have H2_ := (Option.bind_some _ _).symm.trans H; with_reducible exact H2_) | with_reducible exact H | (rw [hy152]; exact H) | exact H
                  have Ny152 := Aside0.mk hy152
                  clear hy152
                  have H' := Aside0.mk H
                  clear H
                  have p13 : 0 ≤ (0 : Int) := (by omega)
                  have q13 : (0 : Int) < ((y144.length : Int) : Int) := of_decide_eq_true (by first | (with_reducible assumption) | assumption)
                  have qi13 : (0 < y144.length) = True := eq_true (by omega)
                  obtain ⟨go13, co13, eo13, gb13, gl13, cl13, HG13⟩ := Kd.R_form HO146.out (by omega)
                  (first | cases eo13 | (injection eo13 with ea_ en_ ec_; (first | subst ea_ | (injection ea_ with ea_; subst ea_)); subst ec_; clear en_))
                  have GB13 := Aside0.mk gb13
                  have GG13 := Aside0.mk HG13
                  clear gb13 gl13 HG13
                  obtain ⟨hx13_0, hf13_0⟩ := Kd.R_celln 0 HO146.out (0 : Int) p13 q13
                  (try rw [show ((0 : Int)).toNat = 0 from rfl] at hx13_0)
                  (try simp only [Nat.reduceMul, Nat.zero_mul, Nat.zero_add, Nat.reduceAdd] at hx13_0)
                  (try rw [show ((0 : Int)).toNat = 0 from rfl] at hf13_0)
                  (try simp only [Nat.reduceMul, Nat.zero_mul, Nat.zero_add, Nat.reduceAdd] at hf13_0)
                  replace p13 := eq_true p13
                  replace q13 := eq_true q13
                  have HP16 := Kd.R_putg HO146.out (0 : Int) (wrap64 (Int.tdiv t147 40))
                  go_wp2_with (first | ((with_reducible refine gate_store (t := 3) (p := 29) rfl ?_); refine store_event (t := 3) (p := 29) (v := ?vo_w17) (w1 := (w10.setCell ⟨go13, (0 : Int).toNat, none⟩ (.int .i64 (wrap64 (Int.tdiv t147 40))))) ?hg ?ho ?hn ?hr ?_; (case ho => rfl); (case hg => rfl); (case hn => rfl); (case hr => first | (go_simp; done) | (go_simp; rfl)); intro w17 hw; have hg : w10.grownBy w17 (some go13) := (by rw [hw]; exact HP16.2); have hp_ : Kd.R (Kd.int .i64) 3 w17 w.heap.size (fun _ => True) (.slice (some ⟨go13, 0, none⟩) y144.length co13) y151 := (by rw [hw, Ny151.out]; exact HP16.1); clear HP16; have n0_ := Aside0.mk (hp_); have n1_ := Aside0.mk ((by rw [hw]; exact below_set (HB.out) GB13.out : Below w.heap.size w w17)); clear HO146; clear HB; have HO146 := n0_; have HB := n1_; clear n0_ n1_; clear hg hw hp_; have p15 : 0 ≤ (1 : Int) := (by omega); have q15 : (1 : Int) < ((y144.length : Int) : Int) := of_decide_eq_true (by first | (with_reducible assumption) | assumption); have qi15 : (1 < y144.length) = True := eq_true (by omega); obtain ⟨hx15_0, hf15_0⟩ := Kd.R_celln 0 HO146.out (1 : Int) p15 q15; (try rw [show ((1 : Int)).toNat = 1 from rfl] at hx15_0); (try simp only [Nat.reduceMul, Nat.zero_mul, Nat.zero_add, Nat.reduceAdd] at hx15_0); (try rw [show ((1 : Int)).toNat = 1 from rfl] at hf15_0); (try simp only [Nat.reduceMul, Nat.zero_mul, Nat.zero_add, Nat.reduceAdd] at hf15_0); replace p15 := eq_true p15; replace q15 := eq_true q15; obtain ⟨hy18_, hz18_⟩ := Kd.R_celln 0 HO146.out (1 : Int) (by omega) (of_decide_eq_true (by first | (with_reducible assumption) | assumption)); (try simp only [Int.reduceToNat, Int.toNat_zero, Int.toNat_ofNat, Nat.reduceMul, Nat.zero_mul, Nat.zero_add] at hy18_ hz18_); (try rw [show ((1 : Int)).toNat = 1 from rfl] at hy18_); (try rw [show ((1 : Int)).toNat = 1 from rfl] at hz18_); have HP18 := Kd.R_putg HO146.out (1 : Int) (Int.tmod t147 40)) | ((with_reducible refine gate_store (t := 3) (p := 33) rfl ?_); refine store_event (t := 3) (p := 33) (v := ?vo_w19) (w1 := (w17.setCell ⟨go13, (1 : Int).toNat, none⟩ (.int .i64 (Int.tmod t147 40)))) ?hg ?ho ?hn ?hr ?_; (case ho => rfl); (case hg => rfl); (case hn => rfl); (case hr => first | (go_simp; done) | (go_simp; rfl)); intro w19 hw; have hg : w17.grownBy w19 (some go13) := (by rw [hw]; exact HP18.2); have hp_ : Kd.R (Kd.int .i64) 3 w19 w.heap.size (fun _ => True) (.slice (some ⟨go13, 0, none⟩) y144.length co13) y152 := (by rw [hw, Ny152.out]; exact HP18.1); clear HP18; have n0_ := Aside0.mk (hp_); have n1_ := Aside0.mk ((by rw [hw]; exact below_set (HB.out) GB13.out : Below w.heap.size w w19)); clear HO146; clear HB; have HO146 := n0_; have HB := n1_; clear n0_ n1_; clear hg hw hp_))
                  go_meet
                  case rel => exact ⟨_, (y152), H', ⟨by first | omega | exact Nat.le_refl _⟩, ⟨by (with_reducible repeat (first | apply Kd.R_alloc | apply Kd.R_drewN | apply Kd.R_drew)); exact HO146.out⟩, ⟨by repeat (first | (with_reducible first | exact HB.out | apply below_alloc | apply pw_below_drewN | apply below_drew1) | exact HB.out)⟩⟩
                · rw [if_neg c14] at H
                  exact absurd H (by simp)
              · rw [if_neg c12] at H
                exact absurd H (by simp)
            · rw [if_neg c11] at H
              have c11b0 : decide (t147 < 80) = false := decide_eq_false c11
              clear c11
              (first | rw [c11b0] | (simp only [i64_w, i32_w]; rw [c11b0]) | skip)
              by_cases c20 : 0 < (y144.length : Int)
              · rw [if_pos c20] at H
                have c20b0 : decide (0 < (y144.length : Int)) = true := decide_eq_true c20
                have c20b1 : decide (0 < y144.length) = true := decide_eq_true (by omega)
                clear c20
                obtain ⟨y153, hy153⟩ : ∃ y_ : List Int, y_ = (y144.set (0 : Int).toNat 2) := ⟨_, rfl⟩
                replace H : (if 1 < (y144.length : Int) then (asn1_parseObjectIdentifier.j0 k l0 (y153.set (1 : Int).toNat (wrap64 (t147 - 80))) none t148) else (none)) = some (r1, r2) := by first | (rw [hy153]; with_reducible exact H) | (have H2_ := (Option.bind_some _ _).symm.trans H; rw [hy153]; with_reducible exact H2_) | (have H2_ := (Option.bind_some _ _).symm.trans H; with_reducible exact H2_) | with_reducible exact H | (rw [hy153]; exact H) | exact H
                have Ny153 := Aside0.mk hy153
                clear hy153
                by_cases c22 : 1 < (y144.length : Int)
                · rw [if_pos c22] at H
                  have c22b0 : decide (1 < (y144.length : Int)) = true := decide_eq_true c22
                  have c22b1 : decide (1 < y144.length) = true := decide_eq_true (by omega)
                  clear c22
                  obtain ⟨y154, hy154⟩ : ∃ y_ : List Int, y_ = (y153.set (1 : Int).toNat (wrap64 (t147 - 80))) := ⟨_, rfl⟩
                  replace H : (asn1_parseObjectIdentifier.j0 k l0 y154 none t148) = some (r1, r2) := by first | (rw [hy154]; with_reducible exact H) | (have H2_ := (Option.bind_some _ _).symm.trans H; rw [hy154]; with_reducible exact H2_) | (have H2_ := (Option.bind_some _ _).symm.trans H; with_reducible exact H2_) | with_reducible exact H | (rw [hy154]; exact H) | exact H
                  have Ny154 := Aside0.mk hy154
                  clear hy154
                  have H' := Aside0.mk H
                  clear H
                  have p21 : 0 ≤ (0 : Int) := (by omega)
                  have q21 : (0 : Int) < ((y144.length : Int) : Int) := of_decide_eq_true (by first | (with_reducible assumption) | assumption)
                  have qi21 : (0 < y144.length) = True := eq_true (by omega)
                  obtain ⟨go21, co21, eo21, gb21, gl21, cl21, HG21⟩ := Kd.R_form HO146.out (by omega)
                  (first | cases eo21 | (injection eo21 with ea_ en_ ec_; (first | subst ea_ | (injection ea_ with ea_; subst ea_)); subst ec_; clear en_))
                  have GB21 := Aside0.mk gb21
                  have GG21 := Aside0.mk HG21
                  clear gb21 gl21 HG21
                  obtain ⟨hx21_0, hf21_0⟩ := Kd.R_celln 0 HO146.out (0 : Int) p21 q21
                  (try rw [show ((0 : Int)).toNat = 0 from rfl] at hx21_0)
                  (try simp only [Nat.reduceMul, Nat.zero_mul, Nat.zero_add, Nat.reduceAdd] at hx21_0)
                  (try rw [show ((0 : Int)).toNat = 0 from rfl] at hf21_0)
                  (try simp only [Nat.reduceMul, Nat.zero_mul, Nat.zero_add, Nat.reduceAdd] at hf21_0)
                  replace p21 := eq_true p21
                  replace q21 := eq_true q21
                  have HP24 := Kd.R_putg HO146.out (0 : Int) 2
                  go_wp2_with (first | ((with_reducible refine gate_store (t := 3) (p := 35) rfl ?_); refine store_event (t := 3) (p := 35) (v := ?vo_w25) (w1 := (w10.setCell ⟨go21, (0 : Int).toNat, none⟩ (.int .i64 2))) ?hg ?ho ?hn ?hr ?_; (case ho => rfl); (case hg => rfl); (case hn => rfl); (case hr => first | (go_simp; done) | (go_simp; rfl)); intro w25 hw; have hg : w10.grownBy w25 (some go21) := (by rw [hw]; exact HP24.2); have hp_ : Kd.R (Kd.int .i64) 3 w25 w.heap.size (fun _ => True) (.slice (some ⟨go21, 0, none⟩) y144.length co21) y153 := (by rw [hw, Ny153.out]; exact HP24.1); clear HP24; have n0_ := Aside0.mk (hp_); have n1_ := Aside0.mk ((by rw [hw]; exact below_set (HB.out) GB21.out : Below w.heap.size w w25)); clear HO146; clear HB; have HO146 := n0_; have HB := n1_; clear n0_ n1_; clear hg hw hp_; have p23 : 0 ≤ (1 : Int) := (by omega); have q23 : (1 : Int) < ((y144.length : Int) : Int) := of_decide_eq_true (by first | (with_reducible assumption) | assumption); have qi23 : (1 < y144.length) = True := eq_true (by omega); obtain ⟨hx23_0, hf23_0⟩ := Kd.R_celln 0 HO146.out (1 : Int) p23 q23; (try rw [show ((1 : Int)).toNat = 1 from rfl] at hx23_0); (try simp only [Nat.reduceMul, Nat.zero_mul, Nat.zero_add, Nat.reduceAdd] at hx23_0); (try rw [show ((1 : Int)).toNat = 1 from rfl] at hf23_0); (try simp only [Nat.reduceMul, Nat.zero_mul, Nat.zero_add, Nat.reduceAdd] at hf23_0); replace p23 := eq_true p23; replace q23 := eq_true q23; obtain ⟨hy26_, hz26_⟩ := Kd.R_celln 0 HO146.out (1 : Int) (by omega) (of_decide_eq_true (by first | (with_reducible assumption) | assumption)); (try simp only [Int.reduceToNat, Int.toNat_zero, Int.toNat_ofNat, Nat.reduceMul, Nat.zero_mul, Nat.zero_add] at hy26_ hz26_); (try rw [show ((1 : Int)).toNat = 1 from rfl] at hy26_); (try rw [show ((1 : Int)).toNat = 1 from rfl] at hz26_); have HP26 := Kd.R_putg HO146.out (1 : Int) (wrap64 (t147 - 80))) | ((with_reducible refine gate_store (t := 3) (p := 39) rfl ?_); refine store_event (t := 3) (p := 39) (v := ?vo_w27) (w1 := (w25.setCell ⟨go21, (1 : Int).toNat, none⟩ (.int .i64 (wrap64 (t147 - 80))))) ?hg ?ho ?hn ?hr ?_; (case ho => rfl); (case hg => rfl); (case hn => rfl); (case hr => first | (go_simp; done) | (go_simp; rfl)); intro w27 hw; have hg : w25.grownBy w27 (some go21) := (by rw [hw]; exact HP26.2); have hp_ : Kd.R (Kd.int .i64) 3 w27 w.heap.size (fun _ => True) (.slice (some ⟨go21, 0, none⟩) y144.length co21) y154 := (by rw [hw, Ny154.out]; exact HP26.1); clear HP26; have n0_ := Aside0.mk (hp_); have n1_ := Aside0.mk ((by rw [hw]; exact below_set (HB.out) GB21.out : Below w.heap.size w w27)); clear HO146; clear HB; have HO146 := n0_; have HB := n1_; clear n0_ n1_; clear hg hw hp_))
                  go_meet
                  case rel => exact ⟨_, (y154), H', ⟨by first | omega | exact Nat.le_refl _⟩, ⟨by (with_reducible repeat (first | apply Kd.R_alloc | apply Kd.R_drewN | apply Kd.R_drew)); exact HO146.out⟩, ⟨by repeat (first | (with_reducible first | exact HB.out | apply below_alloc | apply pw_below_drewN | apply below_drew1) | exact HB.out)⟩⟩
                · rw [if_neg c22] at H
                  exact absurd H (by simp)
              · rw [if_neg c20] at H
                exact absurd H (by simp)
          case rest =>
            clear HC7
            try clear c1
            try clear p1
            try clear q1
            try clear hx1
            try clear qi1
            try clear hf1
            try clear c2
            try clear c2b0
            try clear c2b1
            try clear c2b2
            try clear p2
            try clear q2
            try clear hx2
            try clear qi2
            try clear hf2
            try clear c4
            try clear c4b0
            try clear c4b1
            try clear c5
            try clear c5b0
            try clear c5b1
            try clear p6
            try clear c8
            try clear c9
            try clear c11
            try clear c11b0
            try clear c12
            try clear c12b0
            try clear c12b1
            try clear p13
            try clear q13
            try clear hx13
            try clear qi13
            try clear hf13
            try clear c14
            try clear c14b0
            try clear c14b1
            try clear p15
            try clear q15
            try clear hx15
            try clear qi15
            try clear hf15
            try clear c20
            try clear c20b0
            try clear c20b1
            try clear p21
            try clear q21
            try clear hx21
            try clear qi21
            try clear hf21
            try clear c22
            try clear c22b0
            try clear c22b1
            try clear p23
            try clear q23
            try clear hx23
            try clear qi23
            try clear hf23
            try clear hx13_0
            try clear hx15_0
            try clear hx21_0
            try clear hx23_0
            try clear p13
            try clear p15
            try clear p21
            try clear p23
            try clear q13
            try clear q15
            try clear q150
            try clear q21
            try clear q23
            obtain ⟨kq, x2_6, HA, HJ6, HO_2, HB⟩ := hcut
            cases kq with
            | zero => exact absurd HA.out (by simp [asn1_parseObjectIdentifier.j0])
            | succ kj6 =>
              have H := HA.out
              clear HA
              simp only [asn1_parseObjectIdentifier.j0] at H
              have H' := Aside0.mk H
              clear H
              go_wp2
              go_loopg [3, 5, 6] kj6 (fun kq v3 v5 v6 w' => ∃ (x2_2 : List Int) (x3_2 : Option Int) (x5_2 : Int) (x6_2 : Int), v3 = errW x3_2 ∧ v5 = .int .i64 x5_2 ∧ v6 = .int .i64 x6_2 ∧ Aside0 (asn1_parseObjectIdentifier.l0 kq l0 x2_2 x3_2 x5_2 x6_2 = some (r1, r2)) ∧ Aside0 (kq ≤ kj6) ∧ Aside0 (Kd.R (Kd.int .i64) 3 w' w.heap.size (fun _ => True) v145 x2_2) ∧ Aside0 (Below w.heap.size w w'))
              case atStart => exact ⟨(x2_6), (none), (t148), (2), (by first | rfl | (simp; done) | (simp [*]; done)), (by first | rfl | (simp; done) | (simp [*]; done)), (by first | rfl | (simp; done) | (simp [*]; done)), H', ⟨Nat.le_refl _⟩, ⟨by (with_reducible repeat (first | apply Kd.R_alloc | apply Kd.R_drewN | apply Kd.R_drew)); exact HO_2.out⟩, ⟨by repeat (first | (with_reducible first | exact HB.out | apply below_alloc | apply pw_below_drewN | apply below_drew1) | exact HB.out)⟩⟩
              case round =>
                clear H'
                try clear c1
                try clear p1
                try clear q1
                try clear hx1
                try clear qi1
                try clear hf1
                try clear c2
                try clear c2b0
                try clear c2b1
                try clear c2b2
                try clear p2
                try clear q2
                try clear hx2
                try clear qi2
                try clear hf2
                try clear c4
                try clear c4b0
                try clear c4b1
                try clear c5
                try clear c5b0
                try clear c5b1
                try clear p6
                try clear c8
                try clear c9
                try clear c11
                try clear c11b0
                try clear c12
                try clear c12b0
                try clear c12b1
                try clear p13
                try clear q13
                try clear hx13
                try clear qi13
                try clear hf13
                try clear c14
                try clear c14b0
                try clear c14b1
                try clear p15
                try clear q15
                try clear hx15
                try clear qi15
                try clear hf15
                try clear c20
                try clear c20b0
                try clear c20b1
                try clear p21
                try clear q21
                try clear hx21
                try clear qi21
                try clear hf21
                try clear c22
                try clear c22b0
                try clear c22b1
                try clear p23
                try clear q23
                try clear hx23
                try clear qi23
                try clear hf23
                try clear hx13_0
                try clear hx15_0
                try clear hx21_0
                try clear hx23_0
                try clear p1
                try clear p13
                try clear p15
                try clear p2
                try clear p21
                try clear p23
                try clear p6
                try clear q1
                try clear q13
                try clear q15
                try clear q150
                try clear q2
                try clear q21
                try clear q23
                obtain ⟨x2_2, x3_2, x5_2, x6_2, rfl, rfl, rfl, HA, HK2, HO_2, HB⟩ := hrel
                cases gk with
                | zero => exact absurd HA.out (by simp [asn1_parseObjectIdentifier.l0])
                | succ k2 =>
                  have H := HA.out
                  clear HA
                  simp only [asn1_parseObjectIdentifier.l0] at H
                  by_cases c28 : x5_2 < (l0.length : Int)
                  · rw [if_pos c28] at H
                    have c28b0 : decide (x5_2 < (l0.length : Int)) = true := decide_eq_true c28
                    clear c28
                    replace H := Option.bind_eq_some_iff.mp H
                    obtain ⟨⟨t155, t156, t157⟩, A290, H⟩ := H
                    replace H : (if t157.isNone = true then (if 0 ≤ x6_2 then (if x6_2 < (x2_2.length : Int) then (asn1_parseObjectIdentifier.l0 k2 l0 (x2_2.set (x6_2 : Int).toNat t155) none t156 (wrap64 (x6_2 + 1))) else (none)) else (none)) else (some (x2_2, some (t157.getD 0)))) = some (r1, r2) := H
                    have A29 := Aside0.mk A290
                    clear A290
                    rcases t157 with _ | q158
                    · have H1 : (if 0 ≤ x6_2 then (if x6_2 < (x2_2.length : Int) then (asn1_parseObjectIdentifier.l0 k2 l0 (x2_2.set (x6_2 : Int).toNat t155) none t156 (wrap64 (x6_2 + 1))) else (none)) else (none)) = some (r1, r2) := by rw [if_pos (show (none : Option Int).isNone = true by rfl)] at H; exact H
                      clear H
                      have H := H1
                      clear H1
                      try simp only [errW_none, errW_some]
                      by_cases c30 : 0 ≤ x6_2
                      · rw [if_pos c30] at H
                        have c30b0 : decide (0 ≤ x6_2) = true := decide_eq_true c30
                        clear c30
                        by_cases c31 : x6_2 < (x2_2.length : Int)
                        · rw [if_pos c31] at H
                          have c31b0 : decide (x6_2 < (x2_2.length : Int)) = true := decide_eq_true c31
                          clear c31
                          obtain ⟨y159, hy159⟩ : ∃ y_ : List Int, y_ = (x2_2.set (x6_2 : Int).toNat t155) := ⟨_, rfl⟩
                          replace H : (asn1_parseObjectIdentifier.l0 k2 l0 y159 none t156 (wrap64 (x6_2 + 1))) = some (r1, r2) := by first | (rw [hy159]; with_reducible exact H) | (have H2_ := (Option.bind_some _ _).symm.trans H; rw [hy159]; with_reducible exact H2_) | (have H2_ := (Option.bind_some _ _).symm.trans H; with_reducible exact H2_) | with_reducible exact H | (rw [hy159]; exact H) | exact H
                          have Ny159 := Aside0.mk hy159
                          clear hy159
                          have H' := Aside0.mk H
                          clear H
                          go_wp2_with (first | ((with_reducible refine gate_callee (f := 96) rfl ?_); refine goesL_ (some 49) rfl rfl Try.func96 (by kernel_rfl) rfl #[.slice A0 l0.length c0, .int .i64 x5_2] rfl (by (try simp only [List.map_toArray, List.map_cons, List.map_nil]); first | done | rfl | (simp only [List.length_drop, List.length_take]; rfl)) ?_; (with_reducible refine (asn1_parseBase128Int.calls k2 _ _ l0 x5_2 t155 t156 none _ ?side1 ?side2 A29.out).mono ?_); (case side1 => repeat (first | exact (Kd.C_below HR0.out HB.out) | (with_reducible refine Kd.C_alloc ?_ _) | (with_reducible refine Kd.C_drewN ?_ _) | (with_reducible refine Kd.C_drew ?_))); (case side2 => exact HC0.out); rintro e w33 ⟨rfl, hb⟩; refine ⟨_, rfl, ?_⟩; have n0_ := Aside0.mk (Kd.R_below (by (with_reducible repeat (first | apply Kd.R_alloc | apply Kd.R_drewN | apply Kd.R_drew)); exact HO_2.out) hb); have n1_ := Aside0.mk (below_step (by repeat (first | (with_reducible first | exact HB.out | apply below_alloc | apply pw_below_drewN | apply below_drew1) | exact HB.out)) hb); clear HO_2; clear HB; have HO_2 := n0_; have HB := n1_; clear n0_ n1_; (try clear hb); (try clear hb2); (try clear hk); (try clear hi); (try simp only [errW_none, errW_some]); have p32 : 0 ≤ (x6_2 : Int) := of_decide_eq_true (by first | (with_reducible assumption) | assumption); have q32 : (x6_2 : Int) < ((x2_2.length : Int) : Int) := of_decide_eq_true (by first | (with_reducible assumption) | assumption); obtain ⟨go32, co32, eo32, gb32, gl32, cl32, HG32⟩ := Kd.R_form HO_2.out (by omega); (first | cases eo32 | (injection eo32 with ea_ en_ ec_; (first | subst ea_ | (injection ea_ with ea_; subst ea_)); subst ec_; clear en_)); have GB32 := Aside0.mk gb32; have GG32 := Aside0.mk HG32; clear gb32 gl32 HG32; obtain ⟨hx32_0, hf32_0⟩ := Kd.R_celln 0 HO_2.out (x6_2 : Int) p32 q32; replace p32 := eq_true p32; replace q32 := eq_true q32; obtain ⟨hy34_, hz34_⟩ := Kd.R_celln 0 HO_2.out (x6_2 : Int) (of_decide_eq_true (by first | (with_reducible assumption) | assumption)) (of_decide_eq_true (by first | (with_reducible assumption) | assumption)); have HP34 := Kd.R_putg HO_2.out (x6_2 : Int) t155) | ((with_reducible refine gate_store (t := 3) (p := 58) rfl ?_); refine store_event (t := 3) (p := 58) (v := ?vo_w35) (w1 := (w33.setCell ⟨go32, (x6_2 : Int).toNat, none⟩ (.int .i64 t155))) ?hg ?ho ?hn ?hr ?_; (case ho => rfl); (case hg => rfl); (case hn => rfl); (case hr => first | (go_simp; done) | (go_simp; rfl)); intro w35 hw; have hg : w33.grownBy w35 (some go32) := (by rw [hw]; exact HP34.2); have hp_ : Kd.R (Kd.int .i64) 3 w35 w.heap.size (fun _ => True) (.slice (some ⟨go32, 0, none⟩) x2_2.length co32) y159 := (by rw [hw, Ny159.out]; exact HP34.1); clear HP34; have n0_ := Aside0.mk (hp_); have n1_ := Aside0.mk ((by rw [hw]; exact below_set (HB.out) GB32.out : Below w.heap.size w w35)); clear HO_2; clear HB; have HO_2 := n0_; have HB := n1_; clear n0_ n1_; clear hg hw hp_))
                          go_roundg k2
                          case measure => have := HJ6.out; have := HK2.out; omega
                          case rel => exact ⟨(y159), (none), (t156), (wrap64 (x6_2 + 1)), (by first | rfl | (simp; done) | (simp [*]; done)), (by first | rfl | (simp; done) | (simp [*]; done)), (by first | rfl | (simp; done) | (simp [*]; done)), H', ⟨by have := HJ6.out; have := HK2.out; omega⟩, ⟨by (with_reducible repeat (first | apply Kd.R_alloc | apply Kd.R_drewN | apply Kd.R_drew)); exact HO_2.out⟩, ⟨by repeat (first | (with_reducible first | exact HB.out | apply below_alloc | apply pw_below_drewN | apply below_drew1) | exact HB.out)⟩⟩
                        · rw [if_neg c31] at H
                          exact absurd H (by simp)
                      · rw [if_neg c30] at H
                        exact absurd H (by simp)
                    · have H1 : (some (x2_2, some q158)) = some (r1, r2) := by rw [if_neg (show ¬ (some q158).isNone = true by simp)] at H; exact H
                      clear H
                      have H := H1
                      clear H1
                      try simp only [errW_none, errW_some]
                      simp only [Option.some.injEq, Prod.mk.injEq] at H
                      obtain ⟨rfl, rfl⟩ := H
                      go_wp2_with (first | ((with_reducible refine gate_callee (f := 96) rfl ?_); refine goesL_ (some 49) rfl rfl Try.func96 (by kernel_rfl) rfl #[.slice A0 l0.length c0, .int .i64 x5_2] rfl (by (try simp only [List.map_toArray, List.map_cons, List.map_nil]); first | done | rfl | (simp only [List.length_drop, List.length_take]; rfl)) ?_; (with_reducible refine (asn1_parseBase128Int.calls k2 _ _ l0 x5_2 t155 t156 (some q158) _ ?side1 ?side2 A29.out).mono ?_); (case side1 => repeat (first | exact (Kd.C_below HR0.out HB.out) | (with_reducible refine Kd.C_alloc ?_ _) | (with_reducible refine Kd.C_drewN ?_ _) | (with_reducible refine Kd.C_drew ?_))); (case side2 => exact HC0.out); rintro e w36 ⟨rfl, hb⟩; refine ⟨_, rfl, ?_⟩; have n0_ := Aside0.mk (Kd.R_below (by (with_reducible repeat (first | apply Kd.R_alloc | apply Kd.R_drewN | apply Kd.R_drew)); exact HO_2.out) hb); have n1_ := Aside0.mk (below_step (by repeat (first | (with_reducible first | exact HB.out | apply below_alloc | apply pw_below_drewN | apply below_drew1) | exact HB.out)) hb); clear HO_2; clear HB; have HO_2 := n0_; have HB := n1_; clear n0_ n1_; (try clear hb); (try clear hb2); (try clear hk); (try clear hi); (try simp only [errW_none, errW_some])))
                      go_ret2
                      exact ⟨_, by first | rfl | (simp [errW_none, errW_some] <;> rfl) | (simp only [← hji3]; first | rfl | (simp [errW_none, errW_some] <;> rfl)) | (simp [*, errW_none, errW_some] <;> rfl), by (with_reducible repeat (first | apply Kd.R_alloc | apply Kd.R_drewN | apply Kd.R_drew)); exact HO_2.out, by repeat (first | (with_reducible first | exact HB.out | apply below_alloc | apply pw_below_drewN | apply below_drew1) | exact HB.out)⟩
                  · rw [if_neg c28] at H
                    have c28b0 : decide (x5_2 < (l0.length : Int)) = false := decide_eq_false c28
                    clear c28
                    by_cases c37 : 0 ≤ x6_2
                    · rw [if_pos c37] at H
                      have c37b0 := eq_true c37
                      have c37b1 : decide (0 ≤ x6_2) = true := decide_eq_true c37
                      clear c37
                      by_cases c38 : x6_2 ≤ (x2_2.length : Int)
                      · rw [if_pos c38] at H
                        have c38b0 := eq_true c38
                        have c38b1 : decide (x6_2 ≤ (x2_2.length : Int)) = true := decide_eq_true c38
                        clear c38
                        obtain ⟨y160, hy160⟩ : ∃ y_ : List Int, y_ = (x2_2.take (x6_2 : Int).toNat) := ⟨_, rfl⟩
                        replace H : (some (y160, x3_2)) = some (r1, r2) := by first | (rw [hy160]; with_reducible exact H) | (have H2_ := (Option.bind_some _ _).symm.trans H; rw [hy160]; with_reducible exact H2_) | (have H2_ := (Option.bind_some _ _).symm.trans H; with_reducible exact H2_) | with_reducible exact H | (rw [hy160]; exact H) | exact H
                        have Ny160 := Aside0.mk hy160
                        clear hy160
                        simp only [Option.some.injEq, Prod.mk.injEq] at H
                        obtain ⟨rfl, rfl⟩ := H
                        obtain ⟨Ao39, co39, eo39⟩ := Kd.R_slice HO_2.out
                        subst eo39
                        have q40 : (x6_2 : Int) ≤ ((x2_2.length : Int) : Int) := of_decide_eq_true (by first | (with_reducible assumption) | assumption)
                        obtain ⟨i040, hi040, _, hsz40, _⟩ := info_parts info3
                        have hcut40 := cut_to (P := Try.prog) 75 3 .i64 Try.underlying75 hi040 Ao39 x2_2.length co39 x6_2 (of_decide_eq_true (by first | (with_reducible assumption) | assumption)) q40 (Kd.R_reads' HO_2.out).2.1
                        have hr40 := Kd.R_take (m := (x6_2 : Int).toNat) HO_2.out (by omega)
                        have hy40 : y160.length = (x6_2 : Int).toNat := (by rw [Ny160.out, List.length_take]; omega)
                        rw [← Ny160.out] at hr40
                        rw [← hy40] at hr40 hcut40
                        clear hy40 hi040 hsz40 HO_2
                        have HO162 := Aside0.mk hr40
                        clear hr40
                        replace q40 := eq_true q40
                        go_wp2
                        go_ret2
                        exact ⟨_, by first | rfl | (simp [errW_none, errW_some] <;> rfl) | (simp only [← hji3]; first | rfl | (simp [errW_none, errW_some] <;> rfl)) | (simp [*, errW_none, errW_some] <;> rfl), by (with_reducible repeat (first | apply Kd.R_alloc | apply Kd.R_drewN | apply Kd.R_drew)); exact HO162.out, by repeat (first | (with_reducible first | exact HB.out | apply below_alloc | apply pw_below_drewN | apply below_drew1) | exact HB.out)⟩
                      · rw [if_neg c38] at H
                        exact absurd H (by simp)
                    · rw [if_neg c37] at H
                      exact absurd H (by simp)
        · have H1 : (some (y144, some q150)) = some (r1, r2) := by rw [if_neg (show ¬ (some q150).isNone = true by simp)] at H; exact H
          clear H
          have H := H1
          clear H1
          try simp only [errW_none, errW_some]
          simp only [Option.some.injEq, Prod.mk.injEq] at H
          obtain ⟨rfl, rfl⟩ := H
          go_enter Try.func82, Try.ntmps82
          go_wp2_with (first | ((with_reducible refine gate_dst (N := 15) rfl ?_); refine Kd.R_make (Kd.int .i64) _ 3 rfl (N := 15) rfl 35 _ _ rfl ji3 rfl rfl Try.underlying35 (.int .i64 0) 8 info3 rfl (by decide) (by omega) 0 (ok := fun _ => True) (okp := fun _ => True) rfl (fun _ hk => hk) trivial (of_decide_eq_true (by first | (with_reducible assumption) | assumption)) (Nat.le_trans (Nat.mul_le_mul_right _ (of_decide_eq_true (by first | (with_reducible assumption) | assumption) : ji3.toNat ≤ 35184372088832)) (by omega)) (Below.refl _ _) (Nat.le_refl _) ?_; intro v145 w41 ho42 hb hg_ hnew_; clear hg_ hnew_; (first | rw [← Ny144.out] at ho42 | (simp only [Int.reduceToNat] at ho42; rw [← Ny144.out] at ho42)); have n0_ := Aside0.mk (Kd.R_lower ho42 (below_size (by repeat (first | (with_reducible first | exact HB.out | apply below_alloc | apply pw_below_drewN | apply below_drew1) | exact HB.out)))); have n1_ := Aside0.mk (below_step (by repeat (first | (with_reducible first | exact HB.out | apply below_alloc | apply pw_below_drewN | apply below_drew1) | exact HB.out)) hb); clear HB; have HO146 := n0_; have HB := n1_; clear n0_ n1_; clear hb ho42) | ((with_reducible refine gate_callee (f := 96) rfl ?_); refine goesL_ (some 18) rfl rfl Try.func96 (by kernel_rfl) rfl #[.slice A0 l0.length c0, .int .i64 0] rfl (by (try simp only [List.map_toArray, List.map_cons, List.map_nil]); first | done | rfl | (simp only [List.length_drop, List.length_take]; rfl)) ?_; (with_reducible refine (asn1_parseBase128Int.calls k _ _ l0 0 t147 t148 (some q150) _ ?side1 ?side2 A6.out).mono ?_); (case side1 => repeat (first | exact (Kd.C_below HR0.out HB.out) | (with_reducible refine Kd.C_alloc ?_ _) | (with_reducible refine Kd.C_drewN ?_ _) | (with_reducible refine Kd.C_drew ?_))); (case side2 => exact HC0.out); rintro e w43 ⟨rfl, hb⟩; refine ⟨_, rfl, ?_⟩; have n0_ := Aside0.mk (Kd.R_below (by (with_reducible repeat (first | apply Kd.R_alloc | apply Kd.R_drewN | apply Kd.R_drew)); exact HO146.out) hb); have n1_ := Aside0.mk (below_step (by repeat (first | (with_reducible first | exact HB.out | apply below_alloc | apply pw_below_drewN | apply below_drew1) | exact HB.out)) hb); clear HO146; clear HB; have HO146 := n0_; have HB := n1_; clear n0_ n1_; (try clear hb); (try clear hb2); (try clear hk); (try clear hi); (try simp only [errW_none, errW_some])))
          go_ret2
          exact ⟨_, by first | rfl | (simp [errW_none, errW_some] <;> rfl) | (simp only [← hji3]; first | rfl | (simp [errW_none, errW_some] <;> rfl)) | (simp [*, errW_none, errW_some] <;> rfl), by (with_reducible repeat (first | apply Kd.R_alloc | apply Kd.R_drewN | apply Kd.R_drew)); exact HO146.out, by repeat (first | (with_reducible first | exact HB.out | apply below_alloc | apply pw_below_drewN | apply below_drew1) | exact HB.out)⟩
      · rw [if_neg c5] at H
        exact absurd H (by simp)
    · rw [if_neg c4] at H
      exact absurd H (by simp)

/-! ### asn1_ZZOID: function 49 -/
def asn1_ZZOID.f (k : Nat) (l0 : List Int) : Option (List Int × Option Int) := (asn1_parseObjectIdentifier.f k l0).bind fun bt163 => (some (bt163.1, bt163.2))
theorem asn1_ZZOID.mono : ∀ a0 k, LeO (asn1_ZZOID.f k a0) (asn1_ZZOID.f (k + 1) a0) := by
  intro a0 k
  unfold asn1_ZZOID.f
  repeat' first
      | (with_reducible exact asn1_parseObjectIdentifier.mono _ _)
      | (with_reducible exact LeO.refl _)
      | (with_reducible exact LeO.none _)
      | (with_reducible refine LeO.ite ?_ ?_)
      | (with_reducible refine LeO.bind ?_ (fun _ => ?_))
      | exact asn1_parseObjectIdentifier.mono _ _
      | exact LeO.none _
      | refine LeO.ite ?_ ?_
      | refine LeO.bind ?_ (fun _ => ?_)
set_option maxHeartbeats 8000000 in
set_option maxRecDepth 100000 in
theorem asn1_ZZOID.calls (k : Nat) (A0 : Option Addr) (c0 : Nat) (l0 : List Int) (r1 : List Int) (r2 : Option Int) (w : World) (hr0 : Kd.C (Kd.int .u8) w A0 l0.length l0) (hc0 : l0.length ≤ c0) (h : asn1_ZZOID.f k l0 = some (r1, r2)) :
    Calls Try.prog 49 #[.slice A0 l0.length c0] w fun e w' => ∃ v0_ : Value, e = .returned (.tuple #[v0_, errW r2]) ∧ Kd.R (Kd.int .i64) 3 w' w.heap.size (fun _ => True) v0_ r1 ∧ Below w.heap.size w w' := by
  have HR0 := Aside0.mk hr0
  have HC0 := Aside0.mk hc0
  clear hr0 hc0
  have HB := Aside0.mk (Below.refl w.heap.size w)
  have H : ((asn1_parseObjectIdentifier.f k l0).bind fun bt163 => (some (bt163.1, bt163.2))) = some (r1, r2) := h
  clear h
  replace H := Option.bind_eq_some_iff.mp H
  obtain ⟨⟨t163, t164⟩, A20, H⟩ := H
  replace H : (some (t163, t164)) = some (r1, r2) := H
  have A2 := Aside0.mk A20
  clear A20
  simp only [Option.some.injEq, Prod.mk.injEq] at H
  obtain ⟨rfl, rfl⟩ := H
  go_enter Try.func49, Try.ntmps49
  go_wp2_with (first | ((with_reducible refine gate_callee (f := 82) rfl ?_); refine goesL_ (some 5) rfl rfl Try.func82 (by kernel_rfl) rfl #[.slice A0 l0.length c0] rfl (by (try simp only [List.map_toArray, List.map_cons, List.map_nil]); first | done | rfl | (simp only [List.length_drop, List.length_take]; rfl)) ?_; (with_reducible refine (asn1_parseObjectIdentifier.calls k _ _ l0 t163 t164 _ ?side1 ?side2 A2.out).mono ?_); (case side1 => repeat (first | exact HR0.out | (with_reducible refine Kd.C_alloc ?_ _) | (with_reducible refine Kd.C_drewN ?_ _) | (with_reducible refine Kd.C_drew ?_))); (case side2 => exact HC0.out); rintro e w3 ⟨v165, rfl, ho0, hb⟩; refine ⟨_, rfl, ?_⟩; have n0_ := Aside0.mk (Kd.R_lower ho0 (below_size (by repeat (first | (with_reducible first | exact HB.out | apply below_alloc | apply pw_below_drewN | apply below_drew1) | exact HB.out)))); have n1_ := Aside0.mk (below_step (by repeat (first | (with_reducible first | exact HB.out | apply below_alloc | apply pw_below_drewN | apply below_drew1) | exact HB.out)) hb); clear HB; have HO166 := n0_; have HB := n1_; clear n0_ n1_; (try clear hb); (try clear hb2); (try clear hk); (try clear hi); (try clear ho0); (try simp only [errW_none, errW_some])))
  go_ret2
  exact ⟨_, by first | rfl | (simp [errW_none, errW_some] <;> rfl) | (simp [*, errW_none, errW_some] <;> rfl), by (with_reducible repeat (first | apply Kd.R_alloc | apply Kd.R_drewN | apply Kd.R_drew)); exact HO166.out, by repeat (first | (with_reducible first | exact HB.out | apply below_alloc | apply pw_below_drewN | apply below_drew1) | exact HB.out)⟩

section
variable {P : Program} {ops : Array Oper} {rest : List Oper} {o : Oper} {a : Act} {Q : Exit → Act → World → Prop}
theorem append_types_ (t t2 e e2 : TypeId) (ht : P.underlying t = some (.slice e)) (ht2 : P.underlying t2 = some (.slice e2)) (ty : TypeId) (v x : Value) (W : World) :
    (Builtin.append_ #[t, t2] ty #[v, x]).run P W = (Builtin.append_ #[t, t] ty #[v, x]).run P W := by
  unfold Builtin.append_
  cases v <;> simp [run_underlying ht, run_underlying ht2]
/-- append(v, ys...), ys of another slice type than v. -/
theorem R_append_rows2_ {α : Type} (d : Kd α) {Rr : α → List Value → Prop} {w0 W : World} (base : Nat) (hgd : o.guard = none) (s x : Operand) (t t2 e e2 : TypeId) (z : Value) (bytes : Nat)
    (ho : o.op = .call { callee := .builtin .append, args := #[s, x], argTypes := #[t, t2] })
    (ht : P.underlying t = some (.slice e)) (ht2 : P.underlying t2 = some (.slice e2)) (hinfo : (P.info? e).map (fun i => (i.zero, i.size, i.bytes)) = some (some z, d.sz, bytes)) (hz : z.cells.size = d.sz) (hs0 : 0 < d.sz) (hb0 : 0 < bytes)
    (v : Value) (xs ys : List α) (A : Option Addr) (m c : Nat) (ok okp : Nat → Prop) (hs : a.eval s = v) (hx : a.eval x = .slice A m c)
    (HO : d.R e W base ok v xs) (HR : ReadsRow Rr d.sz W A m ys) (hKM : ∀ x cs, Rr x cs → d.M W base okp x cs) (hokp : ∀ k, okp k → ok k ∧ some k ≠ v.ownBlock) (hfresh : ∀ k, W.heap.size ≤ k → ok k)
    (HB : Below base w0 W) (hbase : base ≤ W.heap.size) (hl : (xs.length + m) * bytes ≤ 140737488355328)
    (h : ∀ v1 w1, d.R e w1 base ok v1 (xs ++ ys) → Below base w0 w1 → W.grownBy w1 v.ownBlock → (v1.ownBlock = v.ownBlock ∨ ∃ b, v1.ownBlock = some b ∧ W.heap.size ≤ b) → wpList P ops Q rest (a.put o.dst v1) w1) :
    wpList P ops Q (o :: rest) a W := by
  have key := Kd.R_append_rows (P := P) (ops := #[]) (rest := []) (o := { o with op := .call { callee := .builtin .append, args := #[.const v, .const (.slice A m c)], argTypes := #[t, t] }, guard := none, dst := some 0 }) (a := ⟨#[undef], []⟩)
    (Q := fun ex a' w' => ex = .normal ∧ ∃ v1, a' = ⟨#[v1], []⟩ ∧ d.R e w' base ok v1 (xs ++ ys) ∧ Below base w0 w' ∧ W.grownBy w' v.ownBlock ∧ (v1.ownBlock = v.ownBlock ∨ ∃ b, v1.ownBlock = some b ∧ W.heap.size ≤ b))
    d (w0 := w0) base rfl (.const v) (.const (.slice A m c)) t e z bytes rfl ht hinfo hz hs0 hb0 v xs ys A m c ok okp rfl rfl HO HR hKM hokp hfresh HB hbase hl (fun v1 w1 h1 h2 h3 h4 => ⟨rfl, v1, rfl, h1, h2, h3, h4⟩)
  unfold wpList at key
  rw [if_pos (by rfl)] at key
  have hty := append_types_ t t2 e e2 ht ht2 o.type v (.slice A m c) W
  rcases key with key | ⟨_, a', w', hh, _⟩
  · unfold Oper.wp execOp at key
    simp only [resolve, invoke, builtin, Sem.run_bind, Sem.run_pure, Result.andThen_ok, List.map_toArray, List.map_cons, List.map_nil] at key
    change Oper.upon P _ _ _ _ (((Builtin.append_ #[t, t] o.type #[v, .slice A m c]).run P W).andThen _) at key
    cases hr : (Builtin.append_ #[t, t] o.type #[v, .slice A m c]).run P W with
    | ok v1 w1 =>
      rw [hr] at key
      obtain ⟨_, v2, e1, h1, h2, h3, h4⟩ := key
      have e2 : v1 = v2 := by
        injection e1 with e1 _
        simpa using e1
      subst e2
      refine wpList_plain hgd fun K hK => ?_
      unfold Oper.wp execOp
      simp only [ho, resolve, invoke, builtin, Sem.run_bind, Sem.run_pure, Result.andThen_ok, List.map_toArray, List.map_cons, List.map_nil, hs, hx, hty, hr]
      exact hK _ _ (h v1 w1 h1 h2 h3 h4)
    | halt q w1 =>
      rw [hr] at key
      cases q <;> first | exact absurd key.1 (by simp) | exact absurd key (by simp [Result.andThen, Oper.upon])
  · cases hh
end

/-! ### impl_ReadOID: function 22 -/
def impl_ReadOID.f (k : Nat) (l0 : List Int) : Option (List Int × Bool) := (impl_short.f l0).bind fun t167 => (if t167 = true then ((impl_copied.f l0).bind fun t168 => ((asn1_ZZOID.f k t168).bind fun bt171 => (if bt171.2.isNone = true then (if ([] : List Int).length + bt171.1.length < 17592186044416 then (some ((([] : List Int) ++ bt171.1), true)) else (none)) else (some (([] : List Int), false))))) else (some (([] : List Int), false)))
theorem impl_ReadOID.mono : ∀ a0 k, LeO (impl_ReadOID.f k a0) (impl_ReadOID.f (k + 1) a0) := by
  intro a0 k
  unfold impl_ReadOID.f
  repeat' first
      | (with_reducible exact asn1_ZZOID.mono _ _)
      | (with_reducible exact LeO.refl _)
      | (with_reducible exact LeO.none _)
      | (with_reducible refine LeO.ite ?_ ?_)
      | (with_reducible refine LeO.bind ?_ (fun _ => ?_))
      | exact asn1_ZZOID.mono _ _
      | exact LeO.none _
      | refine LeO.ite ?_ ?_
      | refine LeO.bind ?_ (fun _ => ?_)
set_option maxHeartbeats 8000000 in
set_option maxRecDepth 100000 in
theorem impl_ReadOID.calls (k : Nat) (A0 : Option Addr) (c0 : Nat) (l0 : List Int) (r1 : List Int) (r2 : Bool) (w : World) (hr0 : Kd.C (Kd.int .u8) w A0 l0.length l0) (hc0 : l0.length ≤ c0) (h : impl_ReadOID.f k l0 = some (r1, r2)) :
    Calls Try.prog 22 #[.slice A0 l0.length c0] w fun e w' => ∃ v0_ : Value, e = .returned (.tuple #[v0_, .bool r2]) ∧ Kd.R (Kd.int .i64) 3 w' w.heap.size (fun _ => True) v0_ r1 ∧ Below w.heap.size w w' := by
  have hu72 := Try.underlying72
  have HR0 := Aside0.mk hr0
  have HC0 := Aside0.mk hc0
  clear hr0 hc0
  have HB := Aside0.mk (Below.refl w.heap.size w)
  have H : ((impl_short.f l0).bind fun t167 => (if t167 = true then ((impl_copied.f l0).bind fun t168 => ((asn1_ZZOID.f k t168).bind fun bt171 => (if bt171.2.isNone = true then (if ([] : List Int).length + bt171.1.length < 17592186044416 then (some ((([] : List Int) ++ bt171.1), true)) else (none)) else (some (([] : List Int), false))))) else (some (([] : List Int), false)))) = some (r1, r2) := h
  clear h
  replace H := Option.bind_eq_some_iff.mp H
  obtain ⟨t167, A20, H⟩ := H
  replace H : (if t167 = true then ((impl_copied.f l0).bind fun t168 => ((asn1_ZZOID.f k t168).bind fun bt171 => (if bt171.2.isNone = true then (if ([] : List Int).length + bt171.1.length < 17592186044416 then (some ((([] : List Int) ++ bt171.1), true)) else (none)) else (some (([] : List Int), false))))) else (some (([] : List Int), false))) = some (r1, r2) := H
  have A2 := Aside0.mk A20
  clear A20
  by_cases c3 : t167 = true
  · subst c3
    have H1 : ((impl_copied.f l0).bind fun t168 => ((asn1_ZZOID.f k t168).bind fun bt171 => (if bt171.2.isNone = true then (if ([] : List Int).length + bt171.1.length < 17592186044416 then (some ((([] : List Int) ++ bt171.1), true)) else (none)) else (some (([] : List Int), false))))) = some (r1, r2) := by rw [if_pos rfl] at H; exact H
    clear H
    have H := H1
    clear H1
    replace H := Option.bind_eq_some_iff.mp H
    obtain ⟨t168, A40, H⟩ := H
    replace H : ((asn1_ZZOID.f k t168).bind fun bt171 => (if bt171.2.isNone = true then (if ([] : List Int).length + bt171.1.length < 17592186044416 then (some ((([] : List Int) ++ bt171.1), true)) else (none)) else (some (([] : List Int), false)))) = some (r1, r2) := H
    have A4 := Aside0.mk A40
    clear A40
    replace H := Option.bind_eq_some_iff.mp H
    obtain ⟨⟨t171, t172⟩, A50, H⟩ := H
    replace H : (if t172.isNone = true then (if ([] : List Int).length + t171.length < 17592186044416 then (some ((([] : List Int) ++ t171), true)) else (none)) else (some (([] : List Int), false))) = some (r1, r2) := H
    have A5 := Aside0.mk A50
    clear A50
    rcases t172 with _ | q175
    · have H1 : (if ([] : List Int).length + t171.length < 17592186044416 then (some ((([] : List Int) ++ t171), true)) else (none)) = some (r1, r2) := by rw [if_pos (show (none : Option Int).isNone = true by rfl)] at H; exact H
      clear H
      have H := H1
      clear H1
      try simp only [errW_none, errW_some]
      by_cases c6 : ([] : List Int).length + t171.length < 17592186044416
      · rw [if_pos c6] at H
        have LMc6 := Aside0.mk c6
        clear c6
        obtain ⟨y176, hy176⟩ : ∃ y_ : List Int, y_ = (([] : List Int) ++ t171) := ⟨_, rfl⟩
        replace H : (some (y176, true)) = some (r1, r2) := by first | (rw [hy176]; with_reducible exact H) | (have H2_ := (Option.bind_some _ _).symm.trans H; rw [hy176]; with_reducible exact H2_) | (have H2_ := (Option.bind_some _ _).symm.trans H; with_reducible exact H2_) | with_reducible exact H | (rw [hy176]; exact H) | exact H
        have Ny176 := Aside0.mk hy176
        clear hy176
        simp only [Option.some.injEq, Prod.mk.injEq] at H
        obtain ⟨rfl, rfl⟩ := H
        go_enter Try.func22, Try.ntmps22
        go_wp2_with (first | ((with_reducible refine gate_callee (f := 48) rfl ?_); refine goesL_ (some 7) rfl rfl Try.func48 (by kernel_rfl) rfl #[.slice A0 l0.length c0] rfl (by (try simp only [List.map_toArray, List.map_cons, List.map_nil]); first | done | rfl | (simp only [List.length_drop, List.length_take]; rfl)) ?_; (with_reducible refine (impl_short.calls _ _ l0 true _ ?side1 ?side2 A2.out).mono ?_); (case side1 => repeat (first | exact HR0.out | (with_reducible refine Kd.C_alloc ?_ _) | (with_reducible refine Kd.C_drewN ?_ _) | (with_reducible refine Kd.C_drew ?_))); (case side2 => exact HC0.out); rintro e w' ⟨rfl, ⟨nd, rfl⟩⟩; refine ⟨_, rfl, ?_⟩) | ((with_reducible refine gate_callee (f := 44) rfl ?_); refine goesL_ (some 11) rfl rfl Try.func44 (by kernel_rfl) rfl #[.slice A0 l0.length c0] rfl (by (try simp only [List.map_toArray, List.map_cons, List.map_nil]); first | done | rfl | (simp only [List.length_drop, List.length_take]; rfl)) ?_; (with_reducible refine (impl_copied.calls _ _ l0 t168 _ ?side1 ?side2 A4.out).mono ?_); (case side1 => repeat (first | exact HR0.out | (with_reducible refine Kd.C_alloc ?_ _) | (with_reducible refine Kd.C_drewN ?_ _) | (with_reducible refine Kd.C_drew ?_))); (case side2 => exact HC0.out); rintro e w7 ⟨v169, rfl, ho0, hb⟩; refine ⟨_, rfl, ?_⟩; have n0_ := Aside0.mk (Kd.R_lower ho0 (below_size (by repeat (first | (with_reducible first | exact HB.out | apply below_alloc | apply pw_below_drewN | apply below_drew1) | exact HB.out)))); have n1_ := Aside0.mk (below_step (by repeat (first | (with_reducible first | exact HB.out | apply below_alloc | apply pw_below_drewN | apply below_drew1) | exact HB.out)) hb); clear HB; have HO170 := n0_; have HB := n1_; clear n0_ n1_; (try clear hb); (try clear hb2); (try clear hk); (try clear hi); (try clear ho0); obtain ⟨Ao8, co8, eo8⟩ := Kd.R_slice HO170.out; subst eo8) | ((with_reducible refine gate_callee (f := 49) rfl ?_); refine goesL_ (some 12) rfl rfl Try.func49 (by kernel_rfl) rfl #[.slice Ao8 t168.length co8] rfl (by (try simp only [List.map_toArray, List.map_cons, List.map_nil]); first | done | rfl | (simp only [List.length_drop, List.length_take]; rfl)) ?_; (with_reducible refine (asn1_ZZOID.calls k _ _ t168 t171 none _ ?side1 ?side2 A5.out).mono ?_); (case side1 => repeat (first | exact (Kd.R_reads' HO170.out).2.2 | (with_reducible refine Kd.C_alloc ?_ _) | (with_reducible refine Kd.C_drewN ?_ _) | (with_reducible refine Kd.C_drew ?_))); (case side2 => exact (Kd.R_reads' HO170.out).2.1); rintro e w9 ⟨v173, rfl, ho0, hb⟩; refine ⟨_, rfl, ?_⟩; have n0_ := Aside0.mk (Kd.R_below (by (with_reducible repeat (first | apply Kd.R_alloc | apply Kd.R_drewN | apply Kd.R_drew)); exact HO170.out) hb); have n1_ := Aside0.mk (Kd.R_lower ho0 (below_size (by repeat (first | (with_reducible first | exact HB.out | apply below_alloc | apply pw_below_drewN | apply below_drew1) | exact HB.out)))); have n2_ := Aside0.mk (below_step (by repeat (first | (with_reducible first | exact HB.out | apply below_alloc | apply pw_below_drewN | apply below_drew1) | exact HB.out)) hb); clear HO170; clear HB; have HO170 := n0_; have HO174 := n1_; have HB := n2_; clear n0_ n1_ n2_; (try clear hb); (try clear hb2); (try clear hk); (try clear hi); (try clear ho0); (try simp only [errW_none, errW_some]); obtain ⟨Ao11, co11, eo11⟩ := Kd.R_slice HO174.out; subst eo11) | ((with_reducible refine gate_builtin (b := .append) (xs := #[.const (.slice none 0 0), .tmp 17]) rfl ?_); at_builtin; refine R_append_rows2_ (Kd.int .i64) (w0 := w) w.heap.size rfl (.const (.slice none 0 0)) (.tmp 17) 35 75 3 3 (.int .i64 0) 8 rfl Try.underlying35 Try.underlying75 info3 rfl (by decide) (by omega) (.slice none 0 0) ([] : List Int) t171 _ _ _ (fun k_ => some k_ ≠ (.slice Ao11 t171.length co11 : Value).ownBlock) (fun _ => False) rfl rfl ?aO ?aR (fun _ _ h => h) (fun _ h => h.elim) ?aF ?aB ?aS ?aL ?_; (case aR => repeat (first | exact (Kd.R_reads' HO174.out).2.2 | (with_reducible refine Kd.C_alloc ?_ _) | (with_reducible refine Kd.C_drewN ?_ _) | (with_reducible refine Kd.C_drew ?_))); (case aB => exact (by repeat (first | (with_reducible first | exact HB.out | apply below_alloc | apply pw_below_drewN | apply below_drew1) | exact HB.out))); (case aF => exact (fun k_ hk => Kd.fresh' (Kd.R_lt (by (with_reducible repeat (first | apply Kd.R_alloc | apply Kd.R_drewN | apply Kd.R_drew)); exact HO174.out)) k_ hk)); (case aO => exact ((Kd.R_nil _ _ _ _ (fun k_ => some k_ ≠ (.slice Ao11 t171.length co11 : Value).ownBlock)))); (case aS => exact (below_size (by repeat (first | (with_reducible first | exact HB.out | apply below_alloc | apply pw_below_drewN | apply below_drew1) | exact HB.out)))); (case aL => have := LMc6.out; omega); intro v177 w10 ho hb hg hat; rw [← Ny176.out] at ho; have n0_ := Aside0.mk (Kd.R_grown (by (with_reducible repeat (first | apply Kd.R_alloc | apply Kd.R_drewN | apply Kd.R_drew)); exact HO170.out) hg (fun _ _ => by simp [Value.ownBlock])); have n1_ := Aside0.mk (Kd.R_after (Kd.R_apart_nil (by (with_reducible repeat (first | apply Kd.R_alloc | apply Kd.R_drewN | apply Kd.R_drew)); exact HO174.out)) hg hat); have n2_ := Aside0.mk (hb); have n3_ := Aside0.mk (ho); clear HO170; clear HO174; clear HB; have HO170 := n0_; have HO174 := n1_; have HB := n2_; have HO178 := n3_; clear n0_ n1_ n2_ n3_; clear ho hb hg hat))
        go_ret2
        exact ⟨_, by first | rfl | (simp [errW_none, errW_some] <;> rfl) | (simp [*, errW_none, errW_some] <;> rfl), by (with_reducible repeat (first | apply Kd.R_alloc | apply Kd.R_drewN | apply Kd.R_drew)); exact Kd.R_mono HO178.out (fun _ hk => trivial), by repeat (first | (with_reducible first | exact HB.out | apply below_alloc | apply pw_below_drewN | apply below_drew1) | exact HB.out)⟩
      · rw [if_neg c6] at H
        exact absurd H (by simp)
    · have H1 : (some (([] : List Int), false)) = some (r1, r2) := by rw [if_neg (show ¬ (some q175).isNone = true by simp)] at H; exact H
      clear H
      have H := H1
      clear H1
      try simp only [errW_none, errW_some]
      simp only [Option.some.injEq, Prod.mk.injEq] at H
      obtain ⟨rfl, rfl⟩ := H
      go_enter Try.func22, Try.ntmps22
      go_wp2_with (first | ((with_reducible refine gate_callee (f := 48) rfl ?_); refine goesL_ (some 7) rfl rfl Try.func48 (by kernel_rfl) rfl #[.slice A0 l0.length c0] rfl (by (try simp only [List.map_toArray, List.map_cons, List.map_nil]); first | done | rfl | (simp only [List.length_drop, List.length_take]; rfl)) ?_; (with_reducible refine (impl_short.calls _ _ l0 true _ ?side1 ?side2 A2.out).mono ?_); (case side1 => repeat (first | exact HR0.out | (with_reducible refine Kd.C_alloc ?_ _) | (with_reducible refine Kd.C_drewN ?_ _) | (with_reducible refine Kd.C_drew ?_))); (case side2 => exact HC0.out); rintro e w' ⟨rfl, ⟨nd, rfl⟩⟩; refine ⟨_, rfl, ?_⟩) | ((with_reducible refine gate_callee (f := 44) rfl ?_); refine goesL_ (some 11) rfl rfl Try.func44 (by kernel_rfl) rfl #[.slice A0 l0.length c0] rfl (by (try simp only [List.map_toArray, List.map_cons, List.map_nil]); first | done | rfl | (simp only [List.length_drop, List.length_take]; rfl)) ?_; (with_reducible refine (impl_copied.calls _ _ l0 t168 _ ?side1 ?side2 A4.out).mono ?_); (case side1 => repeat (first | exact HR0.out | (with_reducible refine Kd.C_alloc ?_ _) | (with_reducible refine Kd.C_drewN ?_ _) | (with_reducible refine Kd.C_drew ?_))); (case side2 => exact HC0.out); rintro e w12 ⟨v169, rfl, ho0, hb⟩; refine ⟨_, rfl, ?_⟩; have n0_ := Aside0.mk (Kd.R_lower ho0 (below_size (by repeat (first | (with_reducible first | exact HB.out | apply below_alloc | apply pw_below_drewN | apply below_drew1) | exact HB.out)))); have n1_ := Aside0.mk (below_step (by repeat (first | (with_reducible first | exact HB.out | apply below_alloc | apply pw_below_drewN | apply below_drew1) | exact HB.out)) hb); clear HB; have HO170 := n0_; have HB := n1_; clear n0_ n1_; (try clear hb); (try clear hb2); (try clear hk); (try clear hi); (try clear ho0); obtain ⟨Ao13, co13, eo13⟩ := Kd.R_slice HO170.out; subst eo13) | ((with_reducible refine gate_callee (f := 49) rfl ?_); refine goesL_ (some 12) rfl rfl Try.func49 (by kernel_rfl) rfl #[.slice Ao13 t168.length co13] rfl (by (try simp only [List.map_toArray, List.map_cons, List.map_nil]); first | done | rfl | (simp only [List.length_drop, List.length_take]; rfl)) ?_; (with_reducible refine (asn1_ZZOID.calls k _ _ t168 t171 (some q175) _ ?side1 ?side2 A5.out).mono ?_); (case side1 => repeat (first | exact (Kd.R_reads' HO170.out).2.2 | (with_reducible refine Kd.C_alloc ?_ _) | (with_reducible refine Kd.C_drewN ?_ _) | (with_reducible refine Kd.C_drew ?_))); (case side2 => exact (Kd.R_reads' HO170.out).2.1); rintro e w14 ⟨v173, rfl, ho0, hb⟩; refine ⟨_, rfl, ?_⟩; have n0_ := Aside0.mk (Kd.R_below (by (with_reducible repeat (first | apply Kd.R_alloc | apply Kd.R_drewN | apply Kd.R_drew)); exact HO170.out) hb); have n1_ := Aside0.mk (Kd.R_lower ho0 (below_size (by repeat (first | (with_reducible first | exact HB.out | apply below_alloc | apply pw_below_drewN | apply below_drew1) | exact HB.out)))); have n2_ := Aside0.mk (below_step (by repeat (first | (with_reducible first | exact HB.out | apply below_alloc | apply pw_below_drewN | apply below_drew1) | exact HB.out)) hb); clear HO170; clear HB; have HO170 := n0_; have HO174 := n1_; have HB := n2_; clear n0_ n1_ n2_; (try clear hb); (try clear hb2); (try clear hk); (try clear hi); (try clear ho0); (try simp only [errW_none, errW_some])))
      go_ret2
      exact ⟨_, by first | rfl | (simp [errW_none, errW_some] <;> rfl) | (simp [*, errW_none, errW_some] <;> rfl), by first | exact Kd.R_nil _ _ _ _ _ | exact Kd.N_nil _ _ _ _ _ | exact Kd.V_nil _ _ _ _ _ | exact Kd.Q_nil _ _ _ _ _ | exact Kd.S_nil _ _ _ _ _, by repeat (first | (with_reducible first | exact HB.out | apply below_alloc | apply pw_below_drewN | apply below_drew1) | exact HB.out)⟩
  · replace c3 := Bool.eq_false_iff.mpr c3
    subst c3
    have H1 : (some (([] : List Int), false)) = some (r1, r2) := by rw [if_neg (show ¬ (false = true) by decide)] at H; exact H
    clear H
    have H := H1
    clear H1
    simp only [Option.some.injEq, Prod.mk.injEq] at H
    obtain ⟨rfl, rfl⟩ := H
    go_enter Try.func22, Try.ntmps22
    go_wp2_with (first | ((with_reducible refine gate_callee (f := 48) rfl ?_); refine goesL_ (some 7) rfl rfl Try.func48 (by kernel_rfl) rfl #[.slice A0 l0.length c0] rfl (by (try simp only [List.map_toArray, List.map_cons, List.map_nil]); first | done | rfl | (simp only [List.length_drop, List.length_take]; rfl)) ?_; (with_reducible refine (impl_short.calls _ _ l0 false _ ?side1 ?side2 A2.out).mono ?_); (case side1 => repeat (first | exact HR0.out | (with_reducible refine Kd.C_alloc ?_ _) | (with_reducible refine Kd.C_drewN ?_ _) | (with_reducible refine Kd.C_drew ?_))); (case side2 => exact HC0.out); rintro e w' ⟨rfl, ⟨nd, rfl⟩⟩; refine ⟨_, rfl, ?_⟩))
    go_ret2
    exact ⟨_, by first | rfl | (simp [errW_none, errW_some] <;> rfl) | (simp [*, errW_none, errW_some] <;> rfl), by first | exact Kd.R_nil _ _ _ _ _ | exact Kd.N_nil _ _ _ _ _ | exact Kd.V_nil _ _ _ _ _ | exact Kd.Q_nil _ _ _ _ _ | exact Kd.S_nil _ _ _ _ _, by repeat (first | (with_reducible first | exact HB.out | apply below_alloc | apply pw_below_drewN | apply below_drew1) | exact HB.out)⟩

/-! ### spec_Put128: function 50 -/
def spec_Put128.l0 : Nat → Int → List Int → Option (List Int)
  | 0, _, _ => none
  | k + 1, x0, x3 => if x0 > 0 then ((some (([(Go.bits .or .i64 (Go.bits .and .i64 x0 127) 128) % 256] : List Int) : List Int)).bind fun y182 => (if y182.length + x3.length < 140737488355328 then (spec_Put128.l0 k (x0 / 128) (y182 ++ x3)) else (none))) else (some x3)
def spec_Put128.f (k : Nat) (a0 : Int) : Option (List Int) := spec_Put128.l0 k (a0 / 128) (([(Go.bits .and .i64 a0 127) % 256] : List Int))
theorem spec_Put128.mono_l : ∀ k, (∀ y0 y1, LeO (spec_Put128.l0 k y0 y1) (spec_Put128.l0 (k + 1) y0 y1))
  | 0 => fun _ _ r h => by simp [spec_Put128.l0] at h
  | k + 1 => by
    have ih0 := spec_Put128.mono_l k
    · intro y0 y1
      unfold spec_Put128.l0
      repeat' first
      | (with_reducible exact ih0 _ _)
      | (with_reducible exact LeO.refl _)
      | (with_reducible exact LeO.none _)
      | (with_reducible refine LeO.ite ?_ ?_)
      | (with_reducible refine LeO.bind ?_ (fun _ => ?_))
      | exact ih0 _ _
      | exact LeO.none _
      | refine LeO.ite ?_ ?_
      | refine LeO.bind ?_ (fun _ => ?_)
theorem spec_Put128.mono : ∀ a0 k, LeO (spec_Put128.f k a0) (spec_Put128.f (k + 1) a0) := by
  intro a0 k
  have ih0 := spec_Put128.mono_l k
  unfold spec_Put128.f
  repeat' first
      | (with_reducible exact ih0 _ _)
      | (with_reducible exact LeO.refl _)
      | (with_reducible exact LeO.none _)
      | (with_reducible refine LeO.ite ?_ ?_)
      | (with_reducible refine LeO.bind ?_ (fun _ => ?_))
      | exact ih0 _ _
      | exact LeO.none _
      | refine LeO.ite ?_ ?_
      | refine LeO.bind ?_ (fun _ => ?_)
set_option maxHeartbeats 8000000 in
set_option maxRecDepth 100000 in
theorem spec_Put128.calls (k : Nat) (a0 : Int) (r : List Int) (w : World) (h : spec_Put128.f k a0 = some r) :
    Calls Try.prog 50 #[.int .i64 a0] w fun e w' => ∃ v0_ : Value, e = .returned (v0_) ∧ Kd.R (Kd.int .u8) 5 w' w.heap.size (fun _ => True) v0_ r ∧ Below w.heap.size w w' := by
  have HB := Aside0.mk (Below.refl w.heap.size w)
  have H : (spec_Put128.l0 k (a0 / 128) (([(Go.bits .and .i64 a0 127) % 256] : List Int))) = some r := h
  clear h
  obtain ⟨y179, hy179⟩ : ∃ y_ : List Int, y_ = (([(Go.bits .and .i64 a0 127) % 256] : List Int)) := ⟨_, rfl⟩
  replace H : (spec_Put128.l0 k (a0 / 128) y179) = some r := by first | (rw [hy179]; with_reducible exact H) | (have H2_ := (Option.bind_some _ _).symm.trans H; rw [hy179]; with_reducible exact H2_) | (have H2_ := (Option.bind_some _ _).symm.trans H; with_reducible exact H2_) | with_reducible exact H | (rw [hy179]; exact H) | exact H
  have Ny179 := Aside0.mk hy179
  clear hy179
  have H' := Aside0.mk H
  clear H
  go_enter Try.func50, Try.ntmps50
  go_wp2_with (first | ((with_reducible refine gate_dst (N := 7) rfl ?_); refine Kd.R_lit (Kd.int .u8) _ 5 ?hg (N := 7) ?hd (xs := ([(Go.bits .and .i64 a0 127) % 256] : List Int)) (inner := [.int .u8 ((Go.bits .and .i64 a0 127) % 256)]) (ok := fun _ => True) (okp := fun _ => True) ?hr ?hp (fun _ hk => hk) trivial (Below.refl _ _) (Nat.le_refl _) (by simp) ?_; (case hd => rfl); (case hg => rfl); (case hr => first | (go_simp; done) | (go_simp; rfl)); (case hp => exact (Reps.one (show Kd.M (Kd.int .u8) _ _ _ ((Go.bits .and .i64 a0 127) % 256) [.int .u8 ((Go.bits .and .i64 a0 127) % 256)] from rfl) (Reps.none _ _))); intro v180 w2 ho3 hb hg_ hnew_; clear hg_ hnew_; (first | rw [← Ny179.out] at ho3 | (simp only [Int.reduceToNat] at ho3; rw [← Ny179.out] at ho3)); have n0_ := Aside0.mk (Kd.R_lower ho3 (below_size (by repeat (first | (with_reducible first | exact HB.out | apply below_alloc | apply pw_below_drewN | apply below_drew1) | exact HB.out)))); have n1_ := Aside0.mk (below_step (by repeat (first | (with_reducible first | exact HB.out | apply below_alloc | apply pw_below_drewN | apply below_drew1) | exact HB.out)) hb); clear HB; have HO181 := n0_; have HB := n1_; clear n0_ n1_; clear hb ho3))
  go_loopg [0, 3] k (fun kq v0 v3 w' => ∃ (x0_1 : Int) (x3_1 : List Int), v0 = .int .i64 x0_1 ∧ Aside0 (spec_Put128.l0 kq x0_1 x3_1 = some r) ∧ Aside0 (kq ≤ k) ∧ Aside0 (Kd.R (Kd.int .u8) 5 w' w.heap.size (fun _ => True) v3 x3_1) ∧ Aside0 (Below w.heap.size w w'))
  case atStart => exact ⟨(a0 / 128), (y179), (by first | rfl | (simp; done) | (simp [*]; done)), H', ⟨Nat.le_refl _⟩, ⟨by (with_reducible repeat (first | apply Kd.R_alloc | apply Kd.R_drewN | apply Kd.R_drew)); exact HO181.out⟩, ⟨by repeat (first | (with_reducible first | exact HB.out | apply below_alloc | apply pw_below_drewN | apply below_drew1) | exact HB.out)⟩⟩
  case round =>
    clear H'
    try clear p2
    obtain ⟨x0_1, x3_1, rfl, HA, HK1, HO_3, HB⟩ := hrel
    cases gk with
    | zero => exact absurd HA.out (by simp [spec_Put128.l0])
    | succ k1 =>
      have H := HA.out
      clear HA
      simp only [spec_Put128.l0] at H
      by_cases c4 : x0_1 > 0
      · rw [if_pos c4] at H
        have c4b0 : decide (0 < x0_1) = true := decide_eq_true c4
        clear c4
        obtain ⟨y182, hy182⟩ : ∃ y_ : List Int, y_ = (([(Go.bits .or .i64 (Go.bits .and .i64 x0_1 127) 128) % 256] : List Int)) := ⟨_, rfl⟩
        replace H : (if y182.length + x3_1.length < 140737488355328 then (spec_Put128.l0 k1 (x0_1 / 128) (y182 ++ x3_1)) else (none)) = some r := by first | (rw [hy182]; with_reducible exact H) | (have H2_ := (Option.bind_some _ _).symm.trans H; rw [hy182]; with_reducible exact H2_) | (have H2_ := (Option.bind_some _ _).symm.trans H; with_reducible exact H2_) | with_reducible exact H | (rw [hy182]; exact H) | exact H
        have Ny182 := Aside0.mk hy182
        clear hy182
        by_cases c5 : y182.length + x3_1.length < 140737488355328
        · rw [if_pos c5] at H
          have LMc5 := Aside0.mk c5
          clear c5
          obtain ⟨y185, hy185⟩ : ∃ y_ : List Int, y_ = (y182 ++ x3_1) := ⟨_, rfl⟩
          replace H : (spec_Put128.l0 k1 (x0_1 / 128) y185) = some r := by first | (rw [hy185]; with_reducible exact H) | (have H2_ := (Option.bind_some _ _).symm.trans H; rw [hy185]; with_reducible exact H2_) | (have H2_ := (Option.bind_some _ _).symm.trans H; with_reducible exact H2_) | with_reducible exact H | (rw [hy185]; exact H) | exact H
          have Ny185 := Aside0.mk hy185
          clear hy185
          have H' := Aside0.mk H
          clear H
          go_wp2_with (first | ((with_reducible refine gate_dst (N := 18) rfl ?_); refine Kd.R_lit (Kd.int .u8) _ 5 ?hg (N := 18) ?hd (xs := ([(Go.bits .or .i64 (Go.bits .and .i64 x0_1 127) 128) % 256] : List Int)) (inner := [.int .u8 ((Go.bits .or .i64 (Go.bits .and .i64 x0_1 127) 128) % 256)]) (ok := fun _ => True) (okp := fun _ => True) ?hr ?hp (fun _ hk => hk) trivial (Below.refl _ _) (Nat.le_refl _) (by simp) ?_; (case hd => rfl); (case hg => rfl); (case hr => first | (go_simp; done) | (go_simp; rfl)); (case hp => exact (Reps.one (show Kd.M (Kd.int .u8) _ _ _ ((Go.bits .or .i64 (Go.bits .and .i64 x0_1 127) 128) % 256) [.int .u8 ((Go.bits .or .i64 (Go.bits .and .i64 x0_1 127) 128) % 256)] from rfl) (Reps.none _ _))); intro v183 w6 ho7 hb hg_ hnew_; clear hg_ hnew_; (first | rw [← Ny182.out] at ho7 | (simp only [Int.reduceToNat] at ho7; rw [← Ny182.out] at ho7)); have n0_ := Aside0.mk (Kd.R_elder' (by (with_reducible repeat (first | apply Kd.R_alloc | apply Kd.R_drewN | apply Kd.R_drew)); exact HO_3.out) (Kd.R_base ho7) hb); have n1_ := Aside0.mk (Kd.R_lower (Kd.R_new' ho7 (Kd.R_lt (by (with_reducible repeat (first | apply Kd.R_alloc | apply Kd.R_drewN | apply Kd.R_drew)); exact HO_3.out))) (below_size (by repeat (first | (with_reducible first | exact HB.out | apply below_alloc | apply pw_below_drewN | apply below_drew1) | exact HB.out)))); have n2_ := Aside0.mk (below_step (by repeat (first | (with_reducible first | exact HB.out | apply below_alloc | apply pw_below_drewN | apply below_drew1) | exact HB.out)) hb); clear HO_3; clear HB; have HO_3 := n0_; have HO184 := n1_; have HB := n2_; clear n0_ n1_ n2_; clear hb ho7; obtain ⟨Ao9, co9, eo9⟩ := Kd.R_slice HO_3.out; subst eo9) | ((with_reducible refine gate_builtin (b := .append) (xs := #[.tmp 18, .tmp 19]) rfl ?_); at_builtin; refine Kd.R_append_rows (Kd.int .u8) (w0 := w) w.heap.size rfl (.tmp 18) (.tmp 19) 25 5 (.int .u8 0) 1 rfl Try.underlying25 info5 rfl (by decide) (by omega) v183 y182 x3_1 _ _ _ (fun k_ => some k_ ≠ (.slice Ao9 x3_1.length co9 : Value).ownBlock) (fun _ => False) rfl rfl ?aO ?aR (fun _ _ h => h) (fun _ h => h.elim) ?aF ?aB ?aS ?aL ?_; (case aR => repeat (first | exact (Kd.R_reads' HO_3.out).2.2 | (with_reducible refine Kd.C_alloc ?_ _) | (with_reducible refine Kd.C_drewN ?_ _) | (with_reducible refine Kd.C_drew ?_))); (case aB => exact (by repeat (first | (with_reducible first | exact HB.out | apply below_alloc | apply pw_below_drewN | apply below_drew1) | exact HB.out))); (case aF => exact (fun k_ hk => Kd.fresh' (Kd.R_lt (by (with_reducible repeat (first | apply Kd.R_alloc | apply Kd.R_drewN | apply Kd.R_drew)); exact HO_3.out)) k_ hk)); (case aO => exact (by (with_reducible repeat (first | apply Kd.R_alloc | apply Kd.R_drewN | apply Kd.R_drew)); exact Kd.R_mono HO184.out (fun _ hk => hk.2))); (case aS => exact (below_size (by repeat (first | (with_reducible first | exact HB.out | apply below_alloc | apply pw_below_drewN | apply below_drew1) | exact HB.out)))); (case aL => have := LMc5.out; omega); intro v186 w8 ho hb hg hat; rw [← Ny185.out] at ho; have n0_ := Aside0.mk (Kd.R_after (ok := (fun _ => True)) (by (with_reducible repeat (first | apply Kd.R_alloc | apply Kd.R_drewN | apply Kd.R_drew)); exact HO_3.out) hg hat); have n1_ := Aside0.mk (hb); have n2_ := Aside0.mk (ho); clear HO_3; clear HB; clear HO184; have HO_3 := n0_; have HB := n1_; have HO187 := n2_; clear n0_ n1_ n2_; clear ho hb hg hat))
          go_roundg k1
          case measure => have := HK1.out; omega
          case rel => exact ⟨(x0_1 / 128), (y185), (by first | rfl | (simp; done) | (simp [*]; done)), H', ⟨by have := HK1.out; omega⟩, ⟨by (with_reducible repeat (first | apply Kd.R_alloc | apply Kd.R_drewN | apply Kd.R_drew)); exact Kd.R_mono HO187.out (fun _ hk => trivial)⟩, ⟨by repeat (first | (with_reducible first | exact HB.out | apply below_alloc | apply pw_below_drewN | apply below_drew1) | exact HB.out)⟩⟩
        · rw [if_neg c5] at H
          exact absurd H (by simp)
      · rw [if_neg c4] at H
        have c4b0 : decide (0 < x0_1) = false := decide_eq_false c4
        clear c4
        obtain rfl := Option.some.inj H
        go_wp2
        go_ret
        exact ⟨_, by first | rfl | (simp [errW_none, errW_some] <;> rfl) | (simp [*, errW_none, errW_some] <;> rfl), by (with_reducible repeat (first | apply Kd.R_alloc | apply Kd.R_drewN | apply Kd.R_drew)); exact HO_3.out, by repeat (first | (with_reducible first | exact HB.out | apply below_alloc | apply pw_below_drewN | apply below_drew1) | exact HB.out)⟩

end Go.Proofs.Ytmiemfgcggkbnaa.QP
