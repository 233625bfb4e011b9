-- Written by a program of this work (wip/patch_print.py) for this claim.
import Derived.Test.YtapnkngcnlomhaaQOx0
import Derived.Test.YtapnkngcnlomhaaQOx1
namespace Go.Proofs.Ytapnkngcnlomhaa.QO
open Go.RowKit Go.Proofs.YtapnkngcnlomhaaW.PrintWords Go.Proofs.YtapnkngcnlomhaaW.PrintLast Go.Proofs.YtapnkngcnlomhaaW.PrintMore
attribute [local go_sem] max2_int min2_int max_two min_two max_three min_three max_four min_four   -- for this text's walks alone
set_option linter.unusedVariables false
set_option linter.unusedSimpArgs false

/-! ### asn1_parseObjectIdentifier: function 55 -/
mutual
def asn1_parseObjectIdentifier.j0 : Nat → List Int → List Int → Option Int → Int → Option (List Int × Option Int)
  | 0, _, _, _, _ => none
  | k + 1, x0, x2, x3, x5 => asn1_parseObjectIdentifier.l0 k x0 x2 x3 x5 2
def asn1_parseObjectIdentifier.l0 : Nat → List Int → List Int → Option Int → Int → Int → Option (List Int × Option Int)
  | 0, _, _, _, _, _ => none
  | k + 1, x0, x2, x3, x5, x6 => if x5 < (x0.length : Int) then ((asn1_parseBase128Int.f k x0 x5).bind fun bt140 => (if bt140.2.2.isNone = true then (if 0 ≤ x6 then (if x6 < (x2.length : Int) then (asn1_parseObjectIdentifier.l0 k x0 (x2.set (x6 : Int).toNat bt140.1) none bt140.2.1 (wrap64 (x6 + 1))) else (none)) else (none)) else (some (x2, some (bt140.2.2.getD 0))))) else (if 0 ≤ x6 then (if x6 ≤ (x2.length : Int) then (some ((x2.take (x6 : Int).toNat), x3)) else (none)) else (none))
end
def asn1_parseObjectIdentifier.f (k : Nat) (l0 : List Int) : Option (List Int × Option Int) := if (l0.length : Int) = 0 then (some (([] : List Int), some 3)) else (if 0 ≤ (wrap64 ((l0.length : Int) + 1)) then (if (wrap64 ((l0.length : Int) + 1) : Int).toNat ≤ 35184372088832 then ((some (List.replicate (wrap64 ((l0.length : Int) + 1) : Int).toNat 0 : List Int)).bind fun y129 => ((asn1_parseBase128Int.f k l0 0).bind fun bt132 => (if bt132.2.2.isNone = true then (if bt132.1 < 80 then (if 0 < (y129.length : Int) then (if 1 < (y129.length : Int) then (asn1_parseObjectIdentifier.j0 k l0 ((y129.set (0 : Int).toNat (wrap64 (Int.tdiv bt132.1 40))).set (1 : Int).toNat (Int.tmod bt132.1 40)) none bt132.2.1) else (none)) else (none)) else (if 0 < (y129.length : Int) then (if 1 < (y129.length : Int) then (asn1_parseObjectIdentifier.j0 k l0 ((y129.set (0 : Int).toNat 2).set (1 : Int).toNat (wrap64 (bt132.1 - 80))) none bt132.2.1) else (none)) else (none))) else (some (y129, some (bt132.2.2.getD 0)))))) else (none)) else (none))
theorem asn1_parseObjectIdentifier.mono_l : ∀ k, (∀ y0 y1 y2 y3, LeO (asn1_parseObjectIdentifier.j0 k y0 y1 y2 y3) (asn1_parseObjectIdentifier.j0 (k + 1) y0 y1 y2 y3)) ∧ (∀ y0 y1 y2 y3 y4, LeO (asn1_parseObjectIdentifier.l0 k y0 y1 y2 y3 y4) (asn1_parseObjectIdentifier.l0 (k + 1) y0 y1 y2 y3 y4))
  | 0 => ⟨fun _ _ _ _ r h => by simp [asn1_parseObjectIdentifier.j0] at h, fun _ _ _ _ _ r h => by simp [asn1_parseObjectIdentifier.l0] at h⟩
  | k + 1 => by
    obtain ⟨ih0, ih1⟩ := asn1_parseObjectIdentifier.mono_l k
    refine ⟨?_, ?_⟩
    · intro y0 y1 y2 y3
      unfold asn1_parseObjectIdentifier.j0
      repeat' first
      | (with_reducible exact ih0 _ _ _ _)
      | (with_reducible exact ih1 _ _ _ _ _)
      | (with_reducible exact asn1_parseBase128Int.mono _ _ _)
      | (with_reducible exact LeO.refl _)
      | (with_reducible exact LeO.none _)
      | (with_reducible refine LeO.ite ?_ ?_)
      | (with_reducible refine LeO.bind ?_ (fun _ => ?_))
      | exact ih0 _ _ _ _
      | exact ih1 _ _ _ _ _
      | exact asn1_parseBase128Int.mono _ _ _
      | exact LeO.none _
      | refine LeO.ite ?_ ?_
      | refine LeO.bind ?_ (fun _ => ?_)
    · intro y0 y1 y2 y3 y4
      unfold asn1_parseObjectIdentifier.l0
      repeat' first
      | (with_reducible exact ih0 _ _ _ _)
      | (with_reducible exact ih1 _ _ _ _ _)
      | (with_reducible exact asn1_parseBase128Int.mono _ _ _)
      | (with_reducible exact LeO.refl _)
      | (with_reducible exact LeO.none _)
      | (with_reducible refine LeO.ite ?_ ?_)
      | (with_reducible refine LeO.bind ?_ (fun _ => ?_))
      | exact ih0 _ _ _ _
      | exact ih1 _ _ _ _ _
      | exact asn1_parseBase128Int.mono _ _ _
      | exact LeO.none _
      | refine LeO.ite ?_ ?_
      | refine LeO.bind ?_ (fun _ => ?_)
theorem asn1_parseObjectIdentifier.mono : ∀ a0 k, LeO (asn1_parseObjectIdentifier.f k a0) (asn1_parseObjectIdentifier.f (k + 1) a0) := by
  intro a0 k
  obtain ⟨ih0, ih1⟩ := asn1_parseObjectIdentifier.mono_l k
  unfold asn1_parseObjectIdentifier.f
  repeat' first
      | (with_reducible exact ih0 _ _ _ _)
      | (with_reducible exact ih1 _ _ _ _ _)
      | (with_reducible exact asn1_parseBase128Int.mono _ _ _)
      | (with_reducible exact LeO.refl _)
      | (with_reducible exact LeO.none _)
      | (with_reducible refine LeO.ite ?_ ?_)
      | (with_reducible refine LeO.bind ?_ (fun _ => ?_))
      | exact ih0 _ _ _ _
      | exact ih1 _ _ _ _ _
      | exact asn1_parseBase128Int.mono _ _ _
      | exact LeO.none _
      | refine LeO.ite ?_ ?_
      | refine LeO.bind ?_ (fun _ => ?_)
set_option maxHeartbeats 8000000 in
set_option maxRecDepth 100000 in
theorem asn1_parseObjectIdentifier.calls (k : Nat) (A0 : Option Addr) (c0 : Nat) (l0 : List Int) (r1 : List Int) (r2 : Option Int) (w : World) (hr0 : Kd.C (Kd.int .u8) w A0 l0.length l0) (hc0 : l0.length ≤ c0) (h : asn1_parseObjectIdentifier.f k l0 = some (r1, r2)) :
    Calls Try.prog 55 #[.slice A0 l0.length c0] w fun e w' => ∃ v0_ : Value, e = .returned (.tuple #[v0_, errW r2]) ∧ Kd.R (Kd.int .i64) 3 w' w.heap.size (fun _ => True) v0_ r1 ∧ Below w.heap.size w w' := by
  have hu87 := Try.underlying87
  have hu58 := Try.underlying58
  have HR0 := Aside0.mk hr0
  have HC0 := Aside0.mk hc0
  clear hr0 hc0
  have HB := Aside0.mk (Below.refl w.heap.size w)
  have H : (if (l0.length : Int) = 0 then (some (([] : List Int), some 3)) else (if 0 ≤ (wrap64 ((l0.length : Int) + 1)) then (if (wrap64 ((l0.length : Int) + 1) : Int).toNat ≤ 35184372088832 then ((some (List.replicate (wrap64 ((l0.length : Int) + 1) : Int).toNat 0 : List Int)).bind fun y129 => ((asn1_parseBase128Int.f k l0 0).bind fun bt132 => (if bt132.2.2.isNone = true then (if bt132.1 < 80 then (if 0 < (y129.length : Int) then (if 1 < (y129.length : Int) then (asn1_parseObjectIdentifier.j0 k l0 ((y129.set (0 : Int).toNat (wrap64 (Int.tdiv bt132.1 40))).set (1 : Int).toNat (Int.tmod bt132.1 40)) none bt132.2.1) else (none)) else (none)) else (if 0 < (y129.length : Int) then (if 1 < (y129.length : Int) then (asn1_parseObjectIdentifier.j0 k l0 ((y129.set (0 : Int).toNat 2).set (1 : Int).toNat (wrap64 (bt132.1 - 80))) none bt132.2.1) else (none)) else (none))) else (some (y129, some (bt132.2.2.getD 0)))))) else (none)) else (none))) = some (r1, r2) := h
  clear h
  by_cases c2 : (l0.length : Int) = 0
  · rw [if_pos c2] at H
    have c2b0 : ((l0.length : Int) == 0) = true := beq_iff_eq.mpr c2
    have c2b1 : ((l0.length : Int) != 0) = false := bne_eq_false_iff_eq.mpr c2
    clear c2
    simp only [Option.some.injEq, Prod.mk.injEq] at H
    obtain ⟨rfl, rfl⟩ := H
    go_enter Try.func55, Try.ntmps55
    go_wp2
    go_ret2
    exact ⟨_, by first | rfl | (simp [errW_none, errW_some] <;> rfl) | (simp [*, errW_none, errW_some] <;> rfl), by first | exact Kd.R_nil _ _ _ _ _ | exact Kd.N_nil _ _ _ _ _ | exact Kd.V_nil _ _ _ _ _ | exact Kd.Q_nil _ _ _ _ _ | exact Kd.S_nil _ _ _ _ _, by repeat (first | (with_reducible first | exact HB.out | apply below_alloc | apply pw_below_drewN | apply below_drew1) | exact HB.out)⟩
  · rw [if_neg c2] at H
    have c2b0 : ((l0.length : Int) == 0) = false := beq_eq_false_iff_ne.mpr c2
    have c2b1 : ((l0.length : Int) != 0) = true := bne_iff_ne.mpr c2
    have c2b2 : ¬ (l0 = []) := fun h_ => c2 (by rw [h_]; rfl)
    obtain ⟨ji3, hji3⟩ : ∃ j_ : Int, (wrap64 ((l0.length : Int) + 1)) = j_ := ⟨_, rfl⟩
    replace H : (if 0 ≤ (ji3) then (if (ji3 : Int).toNat ≤ 35184372088832 then ((some (List.replicate (ji3 : Int).toNat 0 : List Int)).bind fun y129 => ((asn1_parseBase128Int.f k l0 0).bind fun bt132 => (if bt132.2.2.isNone = true then (if bt132.1 < 80 then (if 0 < (y129.length : Int) then (if 1 < (y129.length : Int) then (asn1_parseObjectIdentifier.j0 k l0 ((y129.set (0 : Int).toNat (wrap64 (Int.tdiv bt132.1 40))).set (1 : Int).toNat (Int.tmod bt132.1 40)) none bt132.2.1) else (none)) else (none)) else (if 0 < (y129.length : Int) then (if 1 < (y129.length : Int) then (asn1_parseObjectIdentifier.j0 k l0 ((y129.set (0 : Int).toNat 2).set (1 : Int).toNat (wrap64 (bt132.1 - 80))) none bt132.2.1) else (none)) else (none))) else (some (y129, some (bt132.2.2.getD 0)))))) else (none)) else (none)) = some (r1, r2) := by first | (rw [hji3] at H; exact H) | (simp only [hji3] at H ⊢; exact H)
    have hji3w : (IntKind.i64.wrap ((l0.length : Int) + 1)) = ji3 := (i64_w _).trans hji3
    by_cases c4 : 0 ≤ (ji3)
    · rw [if_pos c4] at H
      have c4b0 := eq_true c4
      have c4b1 : decide (0 ≤ (ji3)) = true := decide_eq_true c4
      clear c4
      by_cases c5 : (ji3 : Int).toNat ≤ 35184372088832
      · rw [if_pos c5] at H
        have c5b0 := eq_true c5
        have c5b1 : decide ((ji3 : Int).toNat ≤ 35184372088832) = true := decide_eq_true c5
        clear c5
        obtain ⟨y129, hy129⟩ : ∃ y_ : List Int, y_ = (List.replicate (ji3 : Int).toNat 0) := ⟨_, rfl⟩
        replace H : ((asn1_parseBase128Int.f k l0 0).bind fun bt132 => (if bt132.2.2.isNone = true then (if bt132.1 < 80 then (if 0 < (y129.length : Int) then (if 1 < (y129.length : Int) then (asn1_parseObjectIdentifier.j0 k l0 ((y129.set (0 : Int).toNat (wrap64 (Int.tdiv bt132.1 40))).set (1 : Int).toNat (Int.tmod bt132.1 40)) none bt132.2.1) else (none)) else (none)) else (if 0 < (y129.length : Int) then (if 1 < (y129.length : Int) then (asn1_parseObjectIdentifier.j0 k l0 ((y129.set (0 : Int).toNat 2).set (1 : Int).toNat (wrap64 (bt132.1 - 80))) none bt132.2.1) else (none)) else (none))) else (some (y129, some (bt132.2.2.getD 0))))) = some (r1, r2) := by first | (rw [hy129]; with_reducible exact H) | (have H2_ := (Option.bind_some _ _).symm.trans H; rw [hy129]; with_reducible exact H2_) | (have H2_ := (Option.bind_some _ _).symm.trans H; with_reducible exact H2_) | with_reducible exact H | (rw [hy129]; exact H) | exact H
        have Ny129 := Aside0.mk hy129
        clear hy129
        replace H := Option.bind_eq_some_iff.mp H
        obtain ⟨⟨t132, t133, t134⟩, A60, H⟩ := H
        replace H : (if t134.isNone = true then (if t132 < 80 then (if 0 < (y129.length : Int) then (if 1 < (y129.length : Int) then (asn1_parseObjectIdentifier.j0 k l0 ((y129.set (0 : Int).toNat (wrap64 (Int.tdiv t132 40))).set (1 : Int).toNat (Int.tmod t132 40)) none t133) else (none)) else (none)) else (if 0 < (y129.length : Int) then (if 1 < (y129.length : Int) then (asn1_parseObjectIdentifier.j0 k l0 ((y129.set (0 : Int).toNat 2).set (1 : Int).toNat (wrap64 (t132 - 80))) none t133) else (none)) else (none))) else (some (y129, some (t134.getD 0)))) = some (r1, r2) := H
        have A6 := Aside0.mk A60
        clear A60
        rcases t134 with _ | q135
        · have H1 : (if t132 < 80 then (if 0 < (y129.length : Int) then (if 1 < (y129.length : Int) then (asn1_parseObjectIdentifier.j0 k l0 ((y129.set (0 : Int).toNat (wrap64 (Int.tdiv t132 40))).set (1 : Int).toNat (Int.tmod t132 40)) none t133) else (none)) else (none)) else (if 0 < (y129.length : Int) then (if 1 < (y129.length : Int) then (asn1_parseObjectIdentifier.j0 k l0 ((y129.set (0 : Int).toNat 2).set (1 : Int).toNat (wrap64 (t132 - 80))) none t133) else (none)) else (none))) = some (r1, r2) := by rw [if_pos (show (none : Option Int).isNone = true by rfl)] at H; exact H
          clear H
          have H := H1
          clear H1
          try simp only [errW_none, errW_some]
          have HC7 := Aside0.mk H
          clear H
          go_enter Try.func55, Try.ntmps55
          go_upto_if 25 with (first | ((with_reducible refine gate_dst (N := 15) rfl ?_); refine Kd.R_make (Kd.int .i64) _ 3 rfl (N := 15) rfl 46 _ _ rfl ji3 rfl rfl Try.underlying46 (.int .i64 0) 8 info3 rfl (by decide) (by omega) 0 (ok := fun _ => True) (okp := fun _ => True) rfl (fun _ hk => hk) trivial (of_decide_eq_true (by first | (with_reducible assumption) | assumption)) (Nat.le_trans (Nat.mul_le_mul_right _ (of_decide_eq_true (by first | (with_reducible assumption) | assumption) : ji3.toNat ≤ 35184372088832)) (by omega)) (Below.refl _ _) (Nat.le_refl _) ?_; intro v130 w8 ho9 hb hg_ hnew_; clear hg_ hnew_; (first | rw [← Ny129.out] at ho9 | (simp only [Int.reduceToNat] at ho9; rw [← Ny129.out] at ho9)); have n0_ := Aside0.mk (Kd.R_lower ho9 (below_size (by repeat (first | (with_reducible first | exact HB.out | apply below_alloc | apply pw_below_drewN | apply below_drew1) | exact HB.out)))); have n1_ := Aside0.mk (below_step (by repeat (first | (with_reducible first | exact HB.out | apply below_alloc | apply pw_below_drewN | apply below_drew1) | exact HB.out)) hb); clear HB; have HO131 := n0_; have HB := n1_; clear n0_ n1_; clear hb ho9) | ((with_reducible refine gate_callee (f := 51) rfl ?_); refine goesL_ (some 18) rfl rfl Try.func51 (by kernel_rfl) rfl #[.slice A0 l0.length c0, .int .i64 0] rfl (by (try simp only [List.map_toArray, List.map_cons, List.map_nil]); first | done | rfl | (simp only [List.length_drop, List.length_take]; rfl)) ?_; (with_reducible refine (asn1_parseBase128Int.calls k _ _ l0 0 t132 t133 none _ ?side1 ?side2 A6.out).mono ?_); (case side1 => repeat (first | exact (Kd.C_below HR0.out HB.out) | (with_reducible refine Kd.C_alloc ?_ _) | (with_reducible refine Kd.C_drewN ?_ _) | (with_reducible refine Kd.C_drew ?_))); (case side2 => exact HC0.out); rintro e w10 ⟨rfl, hb⟩; refine ⟨_, rfl, ?_⟩; have n0_ := Aside0.mk (Kd.R_below (by (with_reducible repeat (first | apply Kd.R_alloc | apply Kd.R_drewN | apply Kd.R_drew)); exact HO131.out) hb); have n1_ := Aside0.mk (below_step (by repeat (first | (with_reducible first | exact HB.out | apply below_alloc | apply pw_below_drewN | apply below_drew1) | exact HB.out)) hb); clear HO131; clear HB; have HO131 := n0_; have HB := n1_; clear n0_ n1_; (try clear hb); (try clear hb2); (try clear hk); (try clear hi); (try simp only [errW_none, errW_some])))
          (try simp only [Act.put, List.setIfInBounds_toArray, List.set_cons_zero, List.set_cons_succ])
          go_cut [] (fun wc => ∃ (kq : Nat) (x2_6 : List Int), Aside0 (asn1_parseObjectIdentifier.j0 kq l0 x2_6 none t133 = some (r1, r2)) ∧ Aside0 (kq ≤ k) ∧ Aside0 (Kd.R (Kd.int .i64) 3 wc w.heap.size (fun _ => True) v130 x2_6) ∧ Aside0 (Below w.heap.size w wc))
          case first =>
            have H := HC7.out
            clear HC7
            by_cases c11 : t132 < 80
            · rw [if_pos c11] at H
              have c11b0 : decide (t132 < 80) = true := decide_eq_true c11
              clear c11
              (first | rw [c11b0] | (simp only [i64_w, i32_w]; rw [c11b0]) | skip)
              by_cases c12 : 0 < (y129.length : Int)
              · rw [if_pos c12] at H
                have c12b0 : decide (0 < (y129.length : Int)) = true := decide_eq_true c12
                have c12b1 : decide (0 < y129.length) = true := decide_eq_true (by omega)
                clear c12
                obtain ⟨y136, hy136⟩ : ∃ y_ : List Int, y_ = (y129.set (0 : Int).toNat (wrap64 (Int.tdiv t132 40))) := ⟨_, rfl⟩
                replace H : (if 1 < (y129.length : Int) then (asn1_parseObjectIdentifier.j0 k l0 (y136.set (1 : Int).toNat (Int.tmod t132 40)) none t133) else (none)) = some (r1, r2) := by first | (rw [hy136]; with_reducible exact H) | (have H2_ := (Option.bind_some _ _).symm.trans H; rw [hy136]; with_reducible exact H2_) | (have H2_ := (Option.bind_some _ _).symm.trans H; with_reducible exact H2_) | with_reducible exact H | (rw [hy136]; exact H) | exact H
                have Ny136 := Aside0.mk hy136
                clear hy136
                by_cases c14 : 1 < (y129.length : Int)
                · rw [if_pos c14] at H
                  have c14b0 : decide (1 < (y129.length : Int)) = true := decide_eq_true c14
                  have c14b1 : decide (1 < y129.length) = true := decide_eq_true (by omega)
                  clear c14
                  obtain ⟨y137, hy137⟩ : ∃ y_ : List Int, y_ = (y136.set (1 : Int).toNat (Int.tmod t132 40)) := ⟨_, rfl⟩
                  replace H : (asn1_parseObjectIdentifier.j0 k l0 y137 none t133) = some (r1, r2) := by first | (rw [hy137]; with_reducible exact H) | (have H2_ := (Option.bind_some _ _).symm.trans H; rw [hy137]; with_reducible exact H2_) | (have H2_ := (Option.bind_some _ _).symm.trans H; with_reducible exact H2_) | with_reducible exact H | (rw [hy137]; exact H) | exact H
                  have Ny137 := Aside0.mk hy137
                  clear hy137
                  have H' := Aside0.mk H
                  clear H
                  have p13 : 0 ≤ (0 : Int) := (by omega)
                  have q13 : (0 : Int) < ((y129.length : Int) : Int) := of_decide_eq_true (by first | (with_reducible assumption) | assumption)
                  have qi13 : (0 < y129.length) = True := eq_true (by omega)
                  obtain ⟨go13, co13, eo13, gb13, gl13, cl13, HG13⟩ := Kd.R_form HO131.out (by omega)
                  (first | cases eo13 | (injection eo13 with ea_ en_ ec_; (first | subst ea_ | (injection ea_ with ea_; subst ea_)); subst ec_; clear en_))
                  have GB13 := Aside0.mk gb13
                  have GG13 := Aside0.mk HG13
                  clear gb13 gl13 HG13
                  obtain ⟨hx13_0, hf13_0⟩ := Kd.R_celln 0 HO131.out (0 : Int) p13 q13
                  (try rw [show ((0 : Int)).toNat = 0 from rfl] at hx13_0)
                  (try simp only [Nat.reduceMul, Nat.zero_mul, Nat.zero_add, Nat.reduceAdd] at hx13_0)
                  (try rw [show ((0 : Int)).toNat = 0 from rfl] at hf13_0)
                  (try simp only [Nat.reduceMul, Nat.zero_mul, Nat.zero_add, Nat.reduceAdd] at hf13_0)
                  replace p13 := eq_true p13
                  replace q13 := eq_true q13
                  have HP16 := Kd.R_putg HO131.out (0 : Int) (wrap64 (Int.tdiv t132 40))
                  go_wp2_with (first | ((with_reducible refine gate_store (t := 3) (p := 29) rfl ?_); refine store_event (t := 3) (p := 29) (v := ?vo_w17) (w1 := (w10.setCell ⟨go13, (0 : Int).toNat, none⟩ (.int .i64 (wrap64 (Int.tdiv t132 40))))) ?hg ?ho ?hn ?hr ?_; (case ho => rfl); (case hg => rfl); (case hn => rfl); (case hr => first | (go_simp; done) | (go_simp; rfl)); intro w17 hw; have hg : w10.grownBy w17 (some go13) := (by rw [hw]; exact HP16.2); have hp_ : Kd.R (Kd.int .i64) 3 w17 w.heap.size (fun _ => True) (.slice (some ⟨go13, 0, none⟩) y129.length co13) y136 := (by rw [hw, Ny136.out]; exact HP16.1); clear HP16; have n0_ := Aside0.mk (hp_); have n1_ := Aside0.mk ((by rw [hw]; exact below_set (HB.out) GB13.out : Below w.heap.size w w17)); clear HO131; clear HB; have HO131 := n0_; have HB := n1_; clear n0_ n1_; clear hg hw hp_; have p15 : 0 ≤ (1 : Int) := (by omega); have q15 : (1 : Int) < ((y129.length : Int) : Int) := of_decide_eq_true (by first | (with_reducible assumption) | assumption); have qi15 : (1 < y129.length) = True := eq_true (by omega); obtain ⟨hx15_0, hf15_0⟩ := Kd.R_celln 0 HO131.out (1 : Int) p15 q15; (try rw [show ((1 : Int)).toNat = 1 from rfl] at hx15_0); (try simp only [Nat.reduceMul, Nat.zero_mul, Nat.zero_add, Nat.reduceAdd] at hx15_0); (try rw [show ((1 : Int)).toNat = 1 from rfl] at hf15_0); (try simp only [Nat.reduceMul, Nat.zero_mul, Nat.zero_add, Nat.reduceAdd] at hf15_0); replace p15 := eq_true p15; replace q15 := eq_true q15; obtain ⟨hy18_, hz18_⟩ := Kd.R_celln 0 HO131.out (1 : Int) (by omega) (of_decide_eq_true (by first | (with_reducible assumption) | assumption)); (try simp only [Int.reduceToNat, Int.toNat_zero, Int.toNat_ofNat, Nat.reduceMul, Nat.zero_mul, Nat.zero_add] at hy18_ hz18_); (try rw [show ((1 : Int)).toNat = 1 from rfl] at hy18_); (try rw [show ((1 : Int)).toNat = 1 from rfl] at hz18_); have HP18 := Kd.R_putg HO131.out (1 : Int) (Int.tmod t132 40)) | ((with_reducible refine gate_store (t := 3) (p := 33) rfl ?_); refine store_event (t := 3) (p := 33) (v := ?vo_w19) (w1 := (w17.setCell ⟨go13, (1 : Int).toNat, none⟩ (.int .i64 (Int.tmod t132 40)))) ?hg ?ho ?hn ?hr ?_; (case ho => rfl); (case hg => rfl); (case hn => rfl); (case hr => first | (go_simp; done) | (go_simp; rfl)); intro w19 hw; have hg : w17.grownBy w19 (some go13) := (by rw [hw]; exact HP18.2); have hp_ : Kd.R (Kd.int .i64) 3 w19 w.heap.size (fun _ => True) (.slice (some ⟨go13, 0, none⟩) y129.length co13) y137 := (by rw [hw, Ny137.out]; exact HP18.1); clear HP18; have n0_ := Aside0.mk (hp_); have n1_ := Aside0.mk ((by rw [hw]; exact below_set (HB.out) GB13.out : Below w.heap.size w w19)); clear HO131; clear HB; have HO131 := n0_; have HB := n1_; clear n0_ n1_; clear hg hw hp_))
                  go_meet
                  case rel => exact ⟨_, (y137), H', ⟨by first | omega | exact Nat.le_refl _⟩, ⟨by (with_reducible repeat (first | apply Kd.R_alloc | apply Kd.R_drewN | apply Kd.R_drew)); exact HO131.out⟩, ⟨by repeat (first | (with_reducible first | exact HB.out | apply below_alloc | apply pw_below_drewN | apply below_drew1) | exact HB.out)⟩⟩
                · rw [if_neg c14] at H
                  exact absurd H (by simp)
              · rw [if_neg c12] at H
                exact absurd H (by simp)
            · rw [if_neg c11] at H
              have c11b0 : decide (t132 < 80) = false := decide_eq_false c11
              clear c11
              (first | rw [c11b0] | (simp only [i64_w, i32_w]; rw [c11b0]) | skip)
              by_cases c20 : 0 < (y129.length : Int)
              · rw [if_pos c20] at H
                have c20b0 : decide (0 < (y129.length : Int)) = true := decide_eq_true c20
                have c20b1 : decide (0 < y129.length) = true := decide_eq_true (by omega)
                clear c20
                obtain ⟨y138, hy138⟩ : ∃ y_ : List Int, y_ = (y129.set (0 : Int).toNat 2) := ⟨_, rfl⟩
                replace H : (if 1 < (y129.length : Int) then (asn1_parseObjectIdentifier.j0 k l0 (y138.set (1 : Int).toNat (wrap64 (t132 - 80))) none t133) else (none)) = some (r1, r2) := by first | (rw [hy138]; with_reducible exact H) | (have H2_ := (Option.bind_some _ _).symm.trans H; rw [hy138]; with_reducible exact H2_) | (have H2_ := (Option.bind_some _ _).symm.trans H; with_reducible exact H2_) | with_reducible exact H | (rw [hy138]; exact H) | exact H
                have Ny138 := Aside0.mk hy138
                clear hy138
                by_cases c22 : 1 < (y129.length : Int)
                · rw [if_pos c22] at H
                  have c22b0 : decide (1 < (y129.length : Int)) = true := decide_eq_true c22
                  have c22b1 : decide (1 < y129.length) = true := decide_eq_true (by omega)
                  clear c22
                  obtain ⟨y139, hy139⟩ : ∃ y_ : List Int, y_ = (y138.set (1 : Int).toNat (wrap64 (t132 - 80))) := ⟨_, rfl⟩
                  replace H : (asn1_parseObjectIdentifier.j0 k l0 y139 none t133) = some (r1, r2) := by first | (rw [hy139]; with_reducible exact H) | (have H2_ := (Option.bind_some _ _).symm.trans H; rw [hy139]; with_reducible exact H2_) | (have H2_ := (Option.bind_some _ _).symm.trans H; with_reducible exact H2_) | with_reducible exact H | (rw [hy139]; exact H) | exact H
                  have Ny139 := Aside0.mk hy139
                  clear hy139
                  have H' := Aside0.mk H
                  clear H
                  have p21 : 0 ≤ (0 : Int) := (by omega)
                  have q21 : (0 : Int) < ((y129.length : Int) : Int) := of_decide_eq_true (by first | (with_reducible assumption) | assumption)
                  have qi21 : (0 < y129.length) = True := eq_true (by omega)
                  obtain ⟨go21, co21, eo21, gb21, gl21, cl21, HG21⟩ := Kd.R_form HO131.out (by omega)
                  (first | cases eo21 | (injection eo21 with ea_ en_ ec_; (first | subst ea_ | (injection ea_ with ea_; subst ea_)); subst ec_; clear en_))
                  have GB21 := Aside0.mk gb21
                  have GG21 := Aside0.mk HG21
                  clear gb21 gl21 HG21
                  obtain ⟨hx21_0, hf21_0⟩ := Kd.R_celln 0 HO131.out (0 : Int) p21 q21
                  (try rw [show ((0 : Int)).toNat = 0 from rfl] at hx21_0)
                  (try simp only [Nat.reduceMul, Nat.zero_mul, Nat.zero_add, Nat.reduceAdd] at hx21_0)
                  (try rw [show ((0 : Int)).toNat = 0 from rfl] at hf21_0)
                  (try simp only [Nat.reduceMul, Nat.zero_mul, Nat.zero_add, Nat.reduceAdd] at hf21_0)
                  replace p21 := eq_true p21
                  replace q21 := eq_true q21
                  have HP24 := Kd.R_putg HO131.out (0 : Int) 2
                  go_wp2_with (first | ((with_reducible refine gate_store (t := 3) (p := 35) rfl ?_); refine store_event (t := 3) (p := 35) (v := ?vo_w25) (w1 := (w10.setCell ⟨go21, (0 : Int).toNat, none⟩ (.int .i64 2))) ?hg ?ho ?hn ?hr ?_; (case ho => rfl); (case hg => rfl); (case hn => rfl); (case hr => first | (go_simp; done) | (go_simp; rfl)); intro w25 hw; have hg : w10.grownBy w25 (some go21) := (by rw [hw]; exact HP24.2); have hp_ : Kd.R (Kd.int .i64) 3 w25 w.heap.size (fun _ => True) (.slice (some ⟨go21, 0, none⟩) y129.length co21) y138 := (by rw [hw, Ny138.out]; exact HP24.1); clear HP24; have n0_ := Aside0.mk (hp_); have n1_ := Aside0.mk ((by rw [hw]; exact below_set (HB.out) GB21.out : Below w.heap.size w w25)); clear HO131; clear HB; have HO131 := n0_; have HB := n1_; clear n0_ n1_; clear hg hw hp_; have p23 : 0 ≤ (1 : Int) := (by omega); have q23 : (1 : Int) < ((y129.length : Int) : Int) := of_decide_eq_true (by first | (with_reducible assumption) | assumption); have qi23 : (1 < y129.length) = True := eq_true (by omega); obtain ⟨hx23_0, hf23_0⟩ := Kd.R_celln 0 HO131.out (1 : Int) p23 q23; (try rw [show ((1 : Int)).toNat = 1 from rfl] at hx23_0); (try simp only [Nat.reduceMul, Nat.zero_mul, Nat.zero_add, Nat.reduceAdd] at hx23_0); (try rw [show ((1 : Int)).toNat = 1 from rfl] at hf23_0); (try simp only [Nat.reduceMul, Nat.zero_mul, Nat.zero_add, Nat.reduceAdd] at hf23_0); replace p23 := eq_true p23; replace q23 := eq_true q23; obtain ⟨hy26_, hz26_⟩ := Kd.R_celln 0 HO131.out (1 : Int) (by omega) (of_decide_eq_true (by first | (with_reducible assumption) | assumption)); (try simp only [Int.reduceToNat, Int.toNat_zero, Int.toNat_ofNat, Nat.reduceMul, Nat.zero_mul, Nat.zero_add] at hy26_ hz26_); (try rw [show ((1 : Int)).toNat = 1 from rfl] at hy26_); (try rw [show ((1 : Int)).toNat = 1 from rfl] at hz26_); have HP26 := Kd.R_putg HO131.out (1 : Int) (wrap64 (t132 - 80))) | ((with_reducible refine gate_store (t := 3) (p := 39) rfl ?_); refine store_event (t := 3) (p := 39) (v := ?vo_w27) (w1 := (w25.setCell ⟨go21, (1 : Int).toNat, none⟩ (.int .i64 (wrap64 (t132 - 80))))) ?hg ?ho ?hn ?hr ?_; (case ho => rfl); (case hg => rfl); (case hn => rfl); (case hr => first | (go_simp; done) | (go_simp; rfl)); intro w27 hw; have hg : w25.grownBy w27 (some go21) := (by rw [hw]; exact HP26.2); have hp_ : Kd.R (Kd.int .i64) 3 w27 w.heap.size (fun _ => True) (.slice (some ⟨go21, 0, none⟩) y129.length co21) y139 := (by rw [hw, Ny139.out]; exact HP26.1); clear HP26; have n0_ := Aside0.mk (hp_); have n1_ := Aside0.mk ((by rw [hw]; exact below_set (HB.out) GB21.out : Below w.heap.size w w27)); clear HO131; clear HB; have HO131 := n0_; have HB := n1_; clear n0_ n1_; clear hg hw hp_))
                  go_meet
                  case rel => exact ⟨_, (y139), H', ⟨by first | omega | exact Nat.le_refl _⟩, ⟨by (with_reducible repeat (first | apply Kd.R_alloc | apply Kd.R_drewN | apply Kd.R_drew)); exact HO131.out⟩, ⟨by repeat (first | (with_reducible first | exact HB.out | apply below_alloc | apply pw_below_drewN | apply below_drew1) | exact HB.out)⟩⟩
                · rw [if_neg c22] at H
                  exact absurd H (by simp)
              · rw [if_neg c20] at H
                exact absurd H (by simp)
          case rest =>
            clear HC7
            try clear c1
            try clear p1
            try clear q1
            try clear hx1
            try clear qi1
            try clear hf1
            try clear c2
            try clear c2b0
            try clear c2b1
            try clear c2b2
            try clear p2
            try clear q2
            try clear hx2
            try clear qi2
            try clear hf2
            try clear c4
            try clear c4b0
            try clear c4b1
            try clear c5
            try clear c5b0
            try clear c5b1
            try clear p6
            try clear c11
            try clear c11b0
            try clear c12
            try clear c12b0
            try clear c12b1
            try clear p13
            try clear q13
            try clear hx13
            try clear qi13
            try clear hf13
            try clear c14
            try clear c14b0
            try clear c14b1
            try clear p15
            try clear q15
            try clear hx15
            try clear qi15
            try clear hf15
            try clear c20
            try clear c20b0
            try clear c20b1
            try clear p21
            try clear q21
            try clear hx21
            try clear qi21
            try clear hf21
            try clear c22
            try clear c22b0
            try clear c22b1
            try clear p23
            try clear q23
            try clear hx23
            try clear qi23
            try clear hf23
            try clear hx13_0
            try clear hx15_0
            try clear hx21_0
            try clear hx23_0
            try clear p13
            try clear p15
            try clear p21
            try clear p23
            try clear q13
            try clear q135
            try clear q15
            try clear q21
            try clear q23
            obtain ⟨kq, x2_6, HA, HJ6, HO_2, HB⟩ := hcut
            cases kq with
            | zero => exact absurd HA.out (by simp [asn1_parseObjectIdentifier.j0])
            | succ kj6 =>
              have H := HA.out
              clear HA
              simp only [asn1_parseObjectIdentifier.j0] at H
              have H' := Aside0.mk H
              clear H
              go_wp2
              go_loopg [3, 5, 6] kj6 (fun kq v3 v5 v6 w' => ∃ (x2_2 : List Int) (x3_2 : Option Int) (x5_2 : Int) (x6_2 : Int), v3 = errW x3_2 ∧ v5 = .int .i64 x5_2 ∧ v6 = .int .i64 x6_2 ∧ Aside0 (asn1_parseObjectIdentifier.l0 kq l0 x2_2 x3_2 x5_2 x6_2 = some (r1, r2)) ∧ Aside0 (kq ≤ kj6) ∧ Aside0 (Kd.R (Kd.int .i64) 3 w' w.heap.size (fun _ => True) v130 x2_2) ∧ Aside0 (Below w.heap.size w w'))
              case atStart => exact ⟨(x2_6), (none), (t133), (2), (by first | rfl | (simp; done) | (simp [*]; done)), (by first | rfl | (simp; done) | (simp [*]; done)), (by first | rfl | (simp; done) | (simp [*]; done)), H', ⟨Nat.le_refl _⟩, ⟨by (with_reducible repeat (first | apply Kd.R_alloc | apply Kd.R_drewN | apply Kd.R_drew)); exact HO_2.out⟩, ⟨by repeat (first | (with_reducible first | exact HB.out | apply below_alloc | apply pw_below_drewN | apply below_drew1) | exact HB.out)⟩⟩
              case round =>
                clear H'
                try clear c1
                try clear p1
                try clear q1
                try clear hx1
                try clear qi1
                try clear hf1
                try clear c2
                try clear c2b0
                try clear c2b1
                try clear c2b2
                try clear p2
                try clear q2
                try clear hx2
                try clear qi2
                try clear hf2
                try clear c4
                try clear c4b0
                try clear c4b1
                try clear c5
                try clear c5b0
                try clear c5b1
                try clear p6
                try clear c11
                try clear c11b0
                try clear c12
                try clear c12b0
                try clear c12b1
                try clear p13
                try clear q13
                try clear hx13
                try clear qi13
                try clear hf13
                try clear c14
                try clear c14b0
                try clear c14b1
                try clear p15
                try clear q15
                try clear hx15
                try clear qi15
                try clear hf15
                try clear c20
                try clear c20b0
                try clear c20b1
                try clear p21
                try clear q21
                try clear hx21
                try clear qi21
                try clear hf21
                try clear c22
                try clear c22b0
                try clear c22b1
                try clear p23
                try clear q23
                try clear hx23
                try clear qi23
                try clear hf23
                try clear hx13_0
                try clear hx15_0
                try clear hx21_0
                try clear hx23_0
                try clear p1
                try clear p13
                try clear p15
                try clear p2
                try clear p21
                try clear p23
                try clear p6
                try clear q1
                try clear q13
                try clear q135
                try clear q15
                try clear q2
                try clear q21
                try clear q23
                obtain ⟨x2_2, x3_2, x5_2, x6_2, rfl, rfl, rfl, HA, HK2, HO_2, HB⟩ := hrel
                cases gk with
                | zero => exact absurd HA.out (by simp [asn1_parseObjectIdentifier.l0])
                | succ k2 =>
                  have H := HA.out
                  clear HA
                  simp only [asn1_parseObjectIdentifier.l0] at H
                  by_cases c28 : x5_2 < (l0.length : Int)
                  · rw [if_pos c28] at H
                    have c28b0 : decide (x5_2 < (l0.length : Int)) = true := decide_eq_true c28
                    clear c28
                    replace H := Option.bind_eq_some_iff.mp H
                    obtain ⟨⟨t140, t141, t142⟩, A290, H⟩ := H
                    replace H : (if t142.isNone = true then (if 0 ≤ x6_2 then (if x6_2 < (x2_2.length : Int) then (asn1_parseObjectIdentifier.l0 k2 l0 (x2_2.set (x6_2 : Int).toNat t140) none t141 (wrap64 (x6_2 + 1))) else (none)) else (none)) else (some (x2_2, some (t142.getD 0)))) = some (r1, r2) := H
                    have A29 := Aside0.mk A290
                    clear A290
                    rcases t142 with _ | q143
                    · have H1 : (if 0 ≤ x6_2 then (if x6_2 < (x2_2.length : Int) then (asn1_parseObjectIdentifier.l0 k2 l0 (x2_2.set (x6_2 : Int).toNat t140) none t141 (wrap64 (x6_2 + 1))) else (none)) else (none)) = some (r1, r2) := by rw [if_pos (show (none : Option Int).isNone = true by rfl)] at H; exact H
                      clear H
                      have H := H1
                      clear H1
                      try simp only [errW_none, errW_some]
                      by_cases c30 : 0 ≤ x6_2
                      · rw [if_pos c30] at H
                        have c30b0 : decide (0 ≤ x6_2) = true := decide_eq_true c30
                        clear c30
                        by_cases c31 : x6_2 < (x2_2.length : Int)
                        · rw [if_pos c31] at H
                          have c31b0 : decide (x6_2 < (x2_2.length : Int)) = true := decide_eq_true c31
                          clear c31
                          obtain ⟨y144, hy144⟩ : ∃ y_ : List Int, y_ = (x2_2.set (x6_2 : Int).toNat t140) := ⟨_, rfl⟩
                          replace H : (asn1_parseObjectIdentifier.l0 k2 l0 y144 none t141 (wrap64 (x6_2 + 1))) = some (r1, r2) := by first | (rw [hy144]; with_reducible exact H) | (have H2_ := (Option.bind_some _ _).symm.trans H; rw [hy144]; with_reducible exact H2_) | (have H2_ := (Option.bind_some _ _).symm.trans H; with_reducible exact H2_) | with_reducible exact H | (rw [hy144]; exact H) | exact H
                          have Ny144 := Aside0.mk hy144
                          clear hy144
                          have H' := Aside0.mk H
                          clear H
                          go_wp2_with (first | ((with_reducible refine gate_callee (f := 51) rfl ?_); refine goesL_ (some 49) rfl rfl Try.func51 (by kernel_rfl) rfl #[.slice A0 l0.length c0, .int .i64 x5_2] rfl (by (try simp only [List.map_toArray, List.map_cons, List.map_nil]); first | done | rfl | (simp only [List.length_drop, List.length_take]; rfl)) ?_; (with_reducible refine (asn1_parseBase128Int.calls k2 _ _ l0 x5_2 t140 t141 none _ ?side1 ?side2 A29.out).mono ?_); (case side1 => repeat (first | exact (Kd.C_below HR0.out HB.out) | (with_reducible refine Kd.C_alloc ?_ _) | (with_reducible refine Kd.C_drewN ?_ _) | (with_reducible refine Kd.C_drew ?_))); (case side2 => exact HC0.out); rintro e w33 ⟨rfl, hb⟩; refine ⟨_, rfl, ?_⟩; have n0_ := Aside0.mk (Kd.R_below (by (with_reducible repeat (first | apply Kd.R_alloc | apply Kd.R_drewN | apply Kd.R_drew)); exact HO_2.out) hb); have n1_ := Aside0.mk (below_step (by repeat (first | (with_reducible first | exact HB.out | apply below_alloc | apply pw_below_drewN | apply below_drew1) | exact HB.out)) hb); clear HO_2; clear HB; have HO_2 := n0_; have HB := n1_; clear n0_ n1_; (try clear hb); (try clear hb2); (try clear hk); (try clear hi); (try simp only [errW_none, errW_some]); have p32 : 0 ≤ (x6_2 : Int) := of_decide_eq_true (by first | (with_reducible assumption) | assumption); have q32 : (x6_2 : Int) < ((x2_2.length : Int) : Int) := of_decide_eq_true (by first | (with_reducible assumption) | assumption); obtain ⟨go32, co32, eo32, gb32, gl32, cl32, HG32⟩ := Kd.R_form HO_2.out (by omega); (first | cases eo32 | (injection eo32 with ea_ en_ ec_; (first | subst ea_ | (injection ea_ with ea_; subst ea_)); subst ec_; clear en_)); have GB32 := Aside0.mk gb32; have GG32 := Aside0.mk HG32; clear gb32 gl32 HG32; obtain ⟨hx32_0, hf32_0⟩ := Kd.R_celln 0 HO_2.out (x6_2 : Int) p32 q32; replace p32 := eq_true p32; replace q32 := eq_true q32; obtain ⟨hy34_, hz34_⟩ := Kd.R_celln 0 HO_2.out (x6_2 : Int) (of_decide_eq_true (by first | (with_reducible assumption) | assumption)) (of_decide_eq_true (by first | (with_reducible assumption) | assumption)); have HP34 := Kd.R_putg HO_2.out (x6_2 : Int) t140) | ((with_reducible refine gate_store (t := 3) (p := 58) rfl ?_); refine store_event (t := 3) (p := 58) (v := ?vo_w35) (w1 := (w33.setCell ⟨go32, (x6_2 : Int).toNat, none⟩ (.int .i64 t140))) ?hg ?ho ?hn ?hr ?_; (case ho => rfl); (case hg => rfl); (case hn => rfl); (case hr => first | (go_simp; done) | (go_simp; rfl)); intro w35 hw; have hg : w33.grownBy w35 (some go32) := (by rw [hw]; exact HP34.2); have hp_ : Kd.R (Kd.int .i64) 3 w35 w.heap.size (fun _ => True) (.slice (some ⟨go32, 0, none⟩) x2_2.length co32) y144 := (by rw [hw, Ny144.out]; exact HP34.1); clear HP34; have n0_ := Aside0.mk (hp_); have n1_ := Aside0.mk ((by rw [hw]; exact below_set (HB.out) GB32.out : Below w.heap.size w w35)); clear HO_2; clear HB; have HO_2 := n0_; have HB := n1_; clear n0_ n1_; clear hg hw hp_))
                          go_roundg k2
                          case measure => have := HJ6.out; have := HK2.out; omega
                          case rel => exact ⟨(y144), (none), (t141), (wrap64 (x6_2 + 1)), (by first | rfl | (simp; done) | (simp [*]; done)), (by first | rfl | (simp; done) | (simp [*]; done)), (by first | rfl | (simp; done) | (simp [*]; done)), H', ⟨by have := HJ6.out; have := HK2.out; omega⟩, ⟨by (with_reducible repeat (first | apply Kd.R_alloc | apply Kd.R_drewN | apply Kd.R_drew)); exact HO_2.out⟩, ⟨by repeat (first | (with_reducible first | exact HB.out | apply below_alloc | apply pw_below_drewN | apply below_drew1) | exact HB.out)⟩⟩
                        · rw [if_neg c31] at H
                          exact absurd H (by simp)
                      · rw [if_neg c30] at H
                        exact absurd H (by simp)
                    · have H1 : (some (x2_2, some q143)) = some (r1, r2) := by rw [if_neg (show ¬ (some q143).isNone = true by simp)] at H; exact H
                      clear H
                      have H := H1
                      clear H1
                      try simp only [errW_none, errW_some]
                      simp only [Option.some.injEq, Prod.mk.injEq] at H
                      obtain ⟨rfl, rfl⟩ := H
                      go_wp2_with (first | ((with_reducible refine gate_callee (f := 51) rfl ?_); refine goesL_ (some 49) rfl rfl Try.func51 (by kernel_rfl) rfl #[.slice A0 l0.length c0, .int .i64 x5_2] rfl (by (try simp only [List.map_toArray, List.map_cons, List.map_nil]); first | done | rfl | (simp only [List.length_drop, List.length_take]; rfl)) ?_; (with_reducible refine (asn1_parseBase128Int.calls k2 _ _ l0 x5_2 t140 t141 (some q143) _ ?side1 ?side2 A29.out).mono ?_); (case side1 => repeat (first | exact (Kd.C_below HR0.out HB.out) | (with_reducible refine Kd.C_alloc ?_ _) | (with_reducible refine Kd.C_drewN ?_ _) | (with_reducible refine Kd.C_drew ?_))); (case side2 => exact HC0.out); rintro e w36 ⟨rfl, hb⟩; refine ⟨_, rfl, ?_⟩; have n0_ := Aside0.mk (Kd.R_below (by (with_reducible repeat (first | apply Kd.R_alloc | apply Kd.R_drewN | apply Kd.R_drew)); exact HO_2.out) hb); have n1_ := Aside0.mk (below_step (by repeat (first | (with_reducible first | exact HB.out | apply below_alloc | apply pw_below_drewN | apply below_drew1) | exact HB.out)) hb); clear HO_2; clear HB; have HO_2 := n0_; have HB := n1_; clear n0_ n1_; (try clear hb); (try clear hb2); (try clear hk); (try clear hi); (try simp only [errW_none, errW_some])))
                      go_ret2
                      exact ⟨_, by first | rfl | (simp [errW_none, errW_some] <;> rfl) | (simp only [← hji3]; first | rfl | (simp [errW_none, errW_some] <;> rfl)) | (simp [*, errW_none, errW_some] <;> rfl), by (with_reducible repeat (first | apply Kd.R_alloc | apply Kd.R_drewN | apply Kd.R_drew)); exact HO_2.out, by repeat (first | (with_reducible first | exact HB.out | apply below_alloc | apply pw_below_drewN | apply below_drew1) | exact HB.out)⟩
                  · rw [if_neg c28] at H
                    have c28b0 : decide (x5_2 < (l0.length : Int)) = false := decide_eq_false c28
                    clear c28
                    by_cases c37 : 0 ≤ x6_2
                    · rw [if_pos c37] at H
                      have c37b0 := eq_true c37
                      have c37b1 : decide (0 ≤ x6_2) = true := decide_eq_true c37
                      clear c37
                      by_cases c38 : x6_2 ≤ (x2_2.length : Int)
                      · rw [if_pos c38] at H
                        have c38b0 := eq_true c38
                        have c38b1 : decide (x6_2 ≤ (x2_2.length : Int)) = true := decide_eq_true c38
                        clear c38
                        obtain ⟨y145, hy145⟩ : ∃ y_ : List Int, y_ = (x2_2.take (x6_2 : Int).toNat) := ⟨_, rfl⟩
                        replace H : (some (y145, x3_2)) = some (r1, r2) := by first | (rw [hy145]; with_reducible exact H) | (have H2_ := (Option.bind_some _ _).symm.trans H; rw [hy145]; with_reducible exact H2_) | (have H2_ := (Option.bind_some _ _).symm.trans H; with_reducible exact H2_) | with_reducible exact H | (rw [hy145]; exact H) | exact H
                        have Ny145 := Aside0.mk hy145
                        clear hy145
                        simp only [Option.some.injEq, Prod.mk.injEq] at H
                        obtain ⟨rfl, rfl⟩ := H
                        obtain ⟨Ao39, co39, eo39⟩ := Kd.R_slice HO_2.out
                        subst eo39
                        have q40 : (x6_2 : Int) ≤ ((x2_2.length : Int) : Int) := of_decide_eq_true (by first | (with_reducible assumption) | assumption)
                        obtain ⟨i040, hi040, _, hsz40, _⟩ := info_parts info3
                        have hcut40 := cut_to (P := Try.prog) 74 3 .i64 Try.underlying74 hi040 Ao39 x2_2.length co39 x6_2 (of_decide_eq_true (by first | (with_reducible assumption) | assumption)) q40 (Kd.R_reads' HO_2.out).2.1
                        have hr40 := Kd.R_take (m := (x6_2 : Int).toNat) HO_2.out (by omega)
                        have hy40 : y145.length = (x6_2 : Int).toNat := (by rw [Ny145.out, List.length_take]; omega)
                        rw [← Ny145.out] at hr40
                        rw [← hy40] at hr40 hcut40
                        clear hy40 hi040 hsz40 HO_2
                        have HO147 := Aside0.mk hr40
                        clear hr40
                        replace q40 := eq_true q40
                        go_wp2
                        go_ret2
                        exact ⟨_, by first | rfl | (simp [errW_none, errW_some] <;> rfl) | (simp only [← hji3]; first | rfl | (simp [errW_none, errW_some] <;> rfl)) | (simp [*, errW_none, errW_some] <;> rfl), by (with_reducible repeat (first | apply Kd.R_alloc | apply Kd.R_drewN | apply Kd.R_drew)); exact HO147.out, by repeat (first | (with_reducible first | exact HB.out | apply below_alloc | apply pw_below_drewN | apply below_drew1) | exact HB.out)⟩
                      · rw [if_neg c38] at H
                        exact absurd H (by simp)
                    · rw [if_neg c37] at H
                      exact absurd H (by simp)
        · have H1 : (some (y129, some q135)) = some (r1, r2) := by rw [if_neg (show ¬ (some q135).isNone = true by simp)] at H; exact H
          clear H
          have H := H1
          clear H1
          try simp only [errW_none, errW_some]
          simp only [Option.some.injEq, Prod.mk.injEq] at H
          obtain ⟨rfl, rfl⟩ := H
          go_enter Try.func55, Try.ntmps55
          go_wp2_with (first | ((with_reducible refine gate_dst (N := 15) rfl ?_); refine Kd.R_make (Kd.int .i64) _ 3 rfl (N := 15) rfl 46 _ _ rfl ji3 rfl rfl Try.underlying46 (.int .i64 0) 8 info3 rfl (by decide) (by omega) 0 (ok := fun _ => True) (okp := fun _ => True) rfl (fun _ hk => hk) trivial (of_decide_eq_true (by first | (with_reducible assumption) | assumption)) (Nat.le_trans (Nat.mul_le_mul_right _ (of_decide_eq_true (by first | (with_reducible assumption) | assumption) : ji3.toNat ≤ 35184372088832)) (by omega)) (Below.refl _ _) (Nat.le_refl _) ?_; intro v130 w41 ho42 hb hg_ hnew_; clear hg_ hnew_; (first | rw [← Ny129.out] at ho42 | (simp only [Int.reduceToNat] at ho42; rw [← Ny129.out] at ho42)); have n0_ := Aside0.mk (Kd.R_lower ho42 (below_size (by repeat (first | (with_reducible first | exact HB.out | apply below_alloc | apply pw_below_drewN | apply below_drew1) | exact HB.out)))); have n1_ := Aside0.mk (below_step (by repeat (first | (with_reducible first | exact HB.out | apply below_alloc | apply pw_below_drewN | apply below_drew1) | exact HB.out)) hb); clear HB; have HO131 := n0_; have HB := n1_; clear n0_ n1_; clear hb ho42) | ((with_reducible refine gate_callee (f := 51) rfl ?_); refine goesL_ (some 18) rfl rfl Try.func51 (by kernel_rfl) rfl #[.slice A0 l0.length c0, .int .i64 0] rfl (by (try simp only [List.map_toArray, List.map_cons, List.map_nil]); first | done | rfl | (simp only [List.length_drop, List.length_take]; rfl)) ?_; (with_reducible refine (asn1_parseBase128Int.calls k _ _ l0 0 t132 t133 (some q135) _ ?side1 ?side2 A6.out).mono ?_); (case side1 => repeat (first | exact (Kd.C_below HR0.out HB.out) | (with_reducible refine Kd.C_alloc ?_ _) | (with_reducible refine Kd.C_drewN ?_ _) | (with_reducible refine Kd.C_drew ?_))); (case side2 => exact HC0.out); rintro e w43 ⟨rfl, hb⟩; refine ⟨_, rfl, ?_⟩; have n0_ := Aside0.mk (Kd.R_below (by (with_reducible repeat (first | apply Kd.R_alloc | apply Kd.R_drewN | apply Kd.R_drew)); exact HO131.out) hb); have n1_ := Aside0.mk (below_step (by repeat (first | (with_reducible first | exact HB.out | apply below_alloc | apply pw_below_drewN | apply below_drew1) | exact HB.out)) hb); clear HO131; clear HB; have HO131 := n0_; have HB := n1_; clear n0_ n1_; (try clear hb); (try clear hb2); (try clear hk); (try clear hi); (try simp only [errW_none, errW_some])))
          go_ret2
          exact ⟨_, by first | rfl | (simp [errW_none, errW_some] <;> rfl) | (simp only [← hji3]; first | rfl | (simp [errW_none, errW_some] <;> rfl)) | (simp [*, errW_none, errW_some] <;> rfl), by (with_reducible repeat (first | apply Kd.R_alloc | apply Kd.R_drewN | apply Kd.R_drew)); exact HO131.out, by repeat (first | (with_reducible first | exact HB.out | apply below_alloc | apply pw_below_drewN | apply below_drew1) | exact HB.out)⟩
      · rw [if_neg c5] at H
        exact absurd H (by simp)
    · rw [if_neg c4] at H
      exact absurd H (by simp)

/-! ### asn1_ZZOID: function 45 -/
def asn1_ZZOID.f (k : Nat) (l0 : List Int) : Option (List Int × Option Int) := (asn1_parseObjectIdentifier.f k l0).bind fun bt148 => (some (bt148.1, bt148.2))
theorem asn1_ZZOID.mono : ∀ a0 k, LeO (asn1_ZZOID.f k a0) (asn1_ZZOID.f (k + 1) a0) := by
  intro a0 k
  unfold asn1_ZZOID.f
  repeat' first
      | (with_reducible exact asn1_parseObjectIdentifier.mono _ _)
      | (with_reducible exact LeO.refl _)
      | (with_reducible exact LeO.none _)
      | (with_reducible refine LeO.ite ?_ ?_)
      | (with_reducible refine LeO.bind ?_ (fun _ => ?_))
      | exact asn1_parseObjectIdentifier.mono _ _
      | exact LeO.none _
      | refine LeO.ite ?_ ?_
      | refine LeO.bind ?_ (fun _ => ?_)
set_option maxHeartbeats 8000000 in
set_option maxRecDepth 100000 in
theorem asn1_ZZOID.calls (k : Nat) (A0 : Option Addr) (c0 : Nat) (l0 : List Int) (r1 : List Int) (r2 : Option Int) (w : World) (hr0 : Kd.C (Kd.int .u8) w A0 l0.length l0) (hc0 : l0.length ≤ c0) (h : asn1_ZZOID.f k l0 = some (r1, r2)) :
    Calls Try.prog 45 #[.slice A0 l0.length c0] w fun e w' => ∃ v0_ : Value, e = .returned (.tuple #[v0_, errW r2]) ∧ Kd.R (Kd.int .i64) 3 w' w.heap.size (fun _ => True) v0_ r1 ∧ Below w.heap.size w w' := by
  have HR0 := Aside0.mk hr0
  have HC0 := Aside0.mk hc0
  clear hr0 hc0
  have HB := Aside0.mk (Below.refl w.heap.size w)
  have H : ((asn1_parseObjectIdentifier.f k l0).bind fun bt148 => (some (bt148.1, bt148.2))) = some (r1, r2) := h
  clear h
  replace H := Option.bind_eq_some_iff.mp H
  obtain ⟨⟨t148, t149⟩, A20, H⟩ := H
  replace H : (some (t148, t149)) = some (r1, r2) := H
  have A2 := Aside0.mk A20
  clear A20
  simp only [Option.some.injEq, Prod.mk.injEq] at H
  obtain ⟨rfl, rfl⟩ := H
  go_enter Try.func45, Try.ntmps45
  go_wp2_with (first | ((with_reducible refine gate_callee (f := 55) rfl ?_); refine goesL_ (some 5) rfl rfl Try.func55 (by kernel_rfl) rfl #[.slice A0 l0.length c0] rfl (by (try simp only [List.map_toArray, List.map_cons, List.map_nil]); first | done | rfl | (simp only [List.length_drop, List.length_take]; rfl)) ?_; (with_reducible refine (asn1_parseObjectIdentifier.calls k _ _ l0 t148 t149 _ ?side1 ?side2 A2.out).mono ?_); (case side1 => repeat (first | exact HR0.out | (with_reducible refine Kd.C_alloc ?_ _) | (with_reducible refine Kd.C_drewN ?_ _) | (with_reducible refine Kd.C_drew ?_))); (case side2 => exact HC0.out); rintro e w3 ⟨v150, rfl, ho0, hb⟩; refine ⟨_, rfl, ?_⟩; have n0_ := Aside0.mk (Kd.R_lower ho0 (below_size (by repeat (first | (with_reducible first | exact HB.out | apply below_alloc | apply pw_below_drewN | apply below_drew1) | exact HB.out)))); have n1_ := Aside0.mk (below_step (by repeat (first | (with_reducible first | exact HB.out | apply below_alloc | apply pw_below_drewN | apply below_drew1) | exact HB.out)) hb); clear HB; have HO151 := n0_; have HB := n1_; clear n0_ n1_; (try clear hb); (try clear hb2); (try clear hk); (try clear hi); (try clear ho0); (try simp only [errW_none, errW_some])))
  go_ret2
  exact ⟨_, by first | rfl | (simp [errW_none, errW_some] <;> rfl) | (simp [*, errW_none, errW_some] <;> rfl), by (with_reducible repeat (first | apply Kd.R_alloc | apply Kd.R_drewN | apply Kd.R_drew)); exact HO151.out, by repeat (first | (with_reducible first | exact HB.out | apply below_alloc | apply pw_below_drewN | apply below_drew1) | exact HB.out)⟩

section
variable {P : Program} {ops : Array Oper} {rest : List Oper} {o : Oper} {a : Act} {Q : Exit → Act → World → Prop}
theorem append_types_ (t t2 e e2 : TypeId) (ht : P.underlying t = some (.slice e)) (ht2 : P.underlying t2 = some (.slice e2)) (ty : TypeId) (v x : Value) (W : World) :
    (Builtin.append_ #[t, t2] ty #[v, x]).run P W = (Builtin.append_ #[t, t] ty #[v, x]).run P W := by
  unfold Builtin.append_
  cases v <;> simp [run_underlying ht, run_underlying ht2]
/-- append(v, ys...), ys of another slice type than v. -/
theorem R_append_rows2_ {α : Type} (d : Kd α) {Rr : α → List Value → Prop} {w0 W : World} (base : Nat) (hgd : o.guard = none) (s x : Operand) (t t2 e e2 : TypeId) (z : Value) (bytes : Nat)
    (ho : o.op = .call { callee := .builtin .append, args := #[s, x], argTypes := #[t, t2] })
    (ht : P.underlying t = some (.slice e)) (ht2 : P.underlying t2 = some (.slice e2)) (hinfo : (P.info? e).map (fun i => (i.zero, i.size, i.bytes)) = some (some z, d.sz, bytes)) (hz : z.cells.size = d.sz) (hs0 : 0 < d.sz) (hb0 : 0 < bytes)
    (v : Value) (xs ys : List α) (A : Option Addr) (m c : Nat) (ok okp : Nat → Prop) (hs : a.eval s = v) (hx : a.eval x = .slice A m c)
    (HO : d.R e W base ok v xs) (HR : ReadsRow Rr d.sz W A m ys) (hKM : ∀ x cs, Rr x cs → d.M W base okp x cs) (hokp : ∀ k, okp k → ok k ∧ some k ≠ v.ownBlock) (hfresh : ∀ k, W.heap.size ≤ k → ok k)
    (HB : Below base w0 W) (hbase : base ≤ W.heap.size) (hl : (xs.length + m) * bytes ≤ 140737488355328)
    (h : ∀ v1 w1, d.R e w1 base ok v1 (xs ++ ys) → Below base w0 w1 → W.grownBy w1 v.ownBlock → (v1.ownBlock = v.ownBlock ∨ ∃ b, v1.ownBlock = some b ∧ W.heap.size ≤ b) → wpList P ops Q rest (a.put o.dst v1) w1) :
    wpList P ops Q (o :: rest) a W := by
  have key := Kd.R_append_rows (P := P) (ops := #[]) (rest := []) (o := { o with op := .call { callee := .builtin .append, args := #[.const v, .const (.slice A m c)], argTypes := #[t, t] }, guard := none, dst := some 0 }) (a := ⟨#[undef], []⟩)
    (Q := fun ex a' w' => ex = .normal ∧ ∃ v1, a' = ⟨#[v1], []⟩ ∧ d.R e w' base ok v1 (xs ++ ys) ∧ Below base w0 w' ∧ W.grownBy w' v.ownBlock ∧ (v1.ownBlock = v.ownBlock ∨ ∃ b, v1.ownBlock = some b ∧ W.heap.size ≤ b))
    d (w0 := w0) base rfl (.const v) (.const (.slice A m c)) t e z bytes rfl ht hinfo hz hs0 hb0 v xs ys A m c ok okp rfl rfl HO HR hKM hokp hfresh HB hbase hl (fun v1 w1 h1 h2 h3 h4 => ⟨rfl, v1, rfl, h1, h2, h3, h4⟩)
  unfold wpList at key
  rw [if_pos (by rfl)] at key
  have hty := append_types_ t t2 e e2 ht ht2 o.type v (.slice A m c) W
  rcases key with key | ⟨_, a', w', hh, _⟩
  · unfold Oper.wp execOp at key
    simp only [resolve, invoke, builtin, Sem.run_bind, Sem.run_pure, Result.andThen_ok, List.map_toArray, List.map_cons, List.map_nil] at key
    change Oper.upon P _ _ _ _ (((Builtin.append_ #[t, t] o.type #[v, .slice A m c]).run P W).andThen _) at key
    cases hr : (Builtin.append_ #[t, t] o.type #[v, .slice A m c]).run P W with
    | ok v1 w1 =>
      rw [hr] at key
      obtain ⟨_, v2, e1, h1, h2, h3, h4⟩ := key
      have e2 : v1 = v2 := by
        injection e1 with e1 _
        simpa using e1
      subst e2
      refine wpList_plain hgd fun K hK => ?_
      unfold Oper.wp execOp
      simp only [ho, resolve, invoke, builtin, Sem.run_bind, Sem.run_pure, Result.andThen_ok, List.map_toArray, List.map_cons, List.map_nil, hs, hx, hty, hr]
      exact hK _ _ (h v1 w1 h1 h2 h3 h4)
    | halt q w1 =>
      rw [hr] at key
      cases q <;> first | exact absurd key.1 (by simp) | exact absurd key (by simp [Result.andThen, Oper.upon])
  · cases hh
end

/-! ### impl_ReadOID: function 29 -/
def impl_ReadOID.f (k : Nat) (l0 : List Int) : Option (List Int × Bool) := (impl_short.f l0).bind fun t152 => (if t152 = true then ((impl_copied.f l0).bind fun t153 => ((asn1_ZZOID.f k t153).bind fun bt156 => (if bt156.2.isNone = true then (if ([] : List Int).length + bt156.1.length < 17592186044416 then (some ((([] : List Int) ++ bt156.1), true)) else (none)) else (some (([] : List Int), false))))) else (some (([] : List Int), false)))
theorem impl_ReadOID.mono : ∀ a0 k, LeO (impl_ReadOID.f k a0) (impl_ReadOID.f (k + 1) a0) := by
  intro a0 k
  unfold impl_ReadOID.f
  repeat' first
      | (with_reducible exact asn1_ZZOID.mono _ _)
      | (with_reducible exact LeO.refl _)
      | (with_reducible exact LeO.none _)
      | (with_reducible refine LeO.ite ?_ ?_)
      | (with_reducible refine LeO.bind ?_ (fun _ => ?_))
      | exact asn1_ZZOID.mono _ _
      | exact LeO.none _
      | refine LeO.ite ?_ ?_
      | refine LeO.bind ?_ (fun _ => ?_)
set_option maxHeartbeats 8000000 in
set_option maxRecDepth 100000 in
theorem impl_ReadOID.calls (k : Nat) (A0 : Option Addr) (c0 : Nat) (l0 : List Int) (r1 : List Int) (r2 : Bool) (w : World) (hr0 : Kd.C (Kd.int .u8) w A0 l0.length l0) (hc0 : l0.length ≤ c0) (h : impl_ReadOID.f k l0 = some (r1, r2)) :
    Calls Try.prog 29 #[.slice A0 l0.length c0] w fun e w' => ∃ v0_ : Value, e = .returned (.tuple #[v0_, .bool r2]) ∧ Kd.R (Kd.int .i64) 3 w' w.heap.size (fun _ => True) v0_ r1 ∧ Below w.heap.size w w' := by
  have hu58 := Try.underlying58
  have HR0 := Aside0.mk hr0
  have HC0 := Aside0.mk hc0
  clear hr0 hc0
  have HB := Aside0.mk (Below.refl w.heap.size w)
  have H : ((impl_short.f l0).bind fun t152 => (if t152 = true then ((impl_copied.f l0).bind fun t153 => ((asn1_ZZOID.f k t153).bind fun bt156 => (if bt156.2.isNone = true then (if ([] : List Int).length + bt156.1.length < 17592186044416 then (some ((([] : List Int) ++ bt156.1), true)) else (none)) else (some (([] : List Int), false))))) else (some (([] : List Int), false)))) = some (r1, r2) := h
  clear h
  replace H := Option.bind_eq_some_iff.mp H
  obtain ⟨t152, A20, H⟩ := H
  replace H : (if t152 = true then ((impl_copied.f l0).bind fun t153 => ((asn1_ZZOID.f k t153).bind fun bt156 => (if bt156.2.isNone = true then (if ([] : List Int).length + bt156.1.length < 17592186044416 then (some ((([] : List Int) ++ bt156.1), true)) else (none)) else (some (([] : List Int), false))))) else (some (([] : List Int), false))) = some (r1, r2) := H
  have A2 := Aside0.mk A20
  clear A20
  by_cases c3 : t152 = true
  · subst c3
    have H1 : ((impl_copied.f l0).bind fun t153 => ((asn1_ZZOID.f k t153).bind fun bt156 => (if bt156.2.isNone = true then (if ([] : List Int).length + bt156.1.length < 17592186044416 then (some ((([] : List Int) ++ bt156.1), true)) else (none)) else (some (([] : List Int), false))))) = some (r1, r2) := by rw [if_pos rfl] at H; exact H
    clear H
    have H := H1
    clear H1
    replace H := Option.bind_eq_some_iff.mp H
    obtain ⟨t153, A40, H⟩ := H
    replace H : ((asn1_ZZOID.f k t153).bind fun bt156 => (if bt156.2.isNone = true then (if ([] : List Int).length + bt156.1.length < 17592186044416 then (some ((([] : List Int) ++ bt156.1), true)) else (none)) else (some (([] : List Int), false)))) = some (r1, r2) := H
    have A4 := Aside0.mk A40
    clear A40
    replace H := Option.bind_eq_some_iff.mp H
    obtain ⟨⟨t156, t157⟩, A50, H⟩ := H
    replace H : (if t157.isNone = true then (if ([] : List Int).length + t156.length < 17592186044416 then (some ((([] : List Int) ++ t156), true)) else (none)) else (some (([] : List Int), false))) = some (r1, r2) := H
    have A5 := Aside0.mk A50
    clear A50
    rcases t157 with _ | q160
    · have H1 : (if ([] : List Int).length + t156.length < 17592186044416 then (some ((([] : List Int) ++ t156), true)) else (none)) = some (r1, r2) := by rw [if_pos (show (none : Option Int).isNone = true by rfl)] at H; exact H
      clear H
      have H := H1
      clear H1
      try simp only [errW_none, errW_some]
      by_cases c6 : ([] : List Int).length + t156.length < 17592186044416
      · rw [if_pos c6] at H
        have LMc6 := Aside0.mk c6
        clear c6
        obtain ⟨y161, hy161⟩ : ∃ y_ : List Int, y_ = (([] : List Int) ++ t156) := ⟨_, rfl⟩
        replace H : (some (y161, true)) = some (r1, r2) := by first | (rw [hy161]; with_reducible exact H) | (have H2_ := (Option.bind_some _ _).symm.trans H; rw [hy161]; with_reducible exact H2_) | (have H2_ := (Option.bind_some _ _).symm.trans H; with_reducible exact H2_) | with_reducible exact H | (rw [hy161]; exact H) | exact H
        have Ny161 := Aside0.mk hy161
        clear hy161
        simp only [Option.some.injEq, Prod.mk.injEq] at H
        obtain ⟨rfl, rfl⟩ := H
        go_enter Try.func29, Try.ntmps29
        go_wp2_with (first | ((with_reducible refine gate_callee (f := 35) rfl ?_); refine goesL_ (some 7) rfl rfl Try.func35 (by kernel_rfl) rfl #[.slice A0 l0.length c0] rfl (by (try simp only [List.map_toArray, List.map_cons, List.map_nil]); first | done | rfl | (simp only [List.length_drop, List.length_take]; rfl)) ?_; (with_reducible refine (impl_short.calls _ _ l0 true _ ?side1 ?side2 A2.out).mono ?_); (case side1 => repeat (first | exact HR0.out | (with_reducible refine Kd.C_alloc ?_ _) | (with_reducible refine Kd.C_drewN ?_ _) | (with_reducible refine Kd.C_drew ?_))); (case side2 => exact HC0.out); rintro e w' ⟨rfl, ⟨nd, rfl⟩⟩; refine ⟨_, rfl, ?_⟩) | ((with_reducible refine gate_callee (f := 37) rfl ?_); refine goesL_ (some 11) rfl rfl Try.func37 (by kernel_rfl) rfl #[.slice A0 l0.length c0] rfl (by (try simp only [List.map_toArray, List.map_cons, List.map_nil]); first | done | rfl | (simp only [List.length_drop, List.length_take]; rfl)) ?_; (with_reducible refine (impl_copied.calls _ _ l0 t153 _ ?side1 ?side2 A4.out).mono ?_); (case side1 => repeat (first | exact HR0.out | (with_reducible refine Kd.C_alloc ?_ _) | (with_reducible refine Kd.C_drewN ?_ _) | (with_reducible refine Kd.C_drew ?_))); (case side2 => exact HC0.out); rintro e w7 ⟨v154, rfl, ho0, hb⟩; refine ⟨_, rfl, ?_⟩; have n0_ := Aside0.mk (Kd.R_lower ho0 (below_size (by repeat (first | (with_reducible first | exact HB.out | apply below_alloc | apply pw_below_drewN | apply below_drew1) | exact HB.out)))); have n1_ := Aside0.mk (below_step (by repeat (first | (with_reducible first | exact HB.out | apply below_alloc | apply pw_below_drewN | apply below_drew1) | exact HB.out)) hb); clear HB; have HO155 := n0_; have HB := n1_; clear n0_ n1_; (try clear hb); (try clear hb2); (try clear hk); (try clear hi); (try clear ho0); obtain ⟨Ao8, co8, eo8⟩ := Kd.R_slice HO155.out; subst eo8) | ((with_reducible refine gate_callee (f := 45) rfl ?_); refine goesL_ (some 12) rfl rfl Try.func45 (by kernel_rfl) rfl #[.slice Ao8 t153.length co8] rfl (by (try simp only [List.map_toArray, List.map_cons, List.map_nil]); first | done | rfl | (simp only [List.length_drop, List.length_take]; rfl)) ?_; (with_reducible refine (asn1_ZZOID.calls k _ _ t153 t156 none _ ?side1 ?side2 A5.out).mono ?_); (case side1 => repeat (first | exact (Kd.R_reads' HO155.out).2.2 | (with_reducible refine Kd.C_alloc ?_ _) | (with_reducible refine Kd.C_drewN ?_ _) | (with_reducible refine Kd.C_drew ?_))); (case side2 => exact (Kd.R_reads' HO155.out).2.1); rintro e w9 ⟨v158, rfl, ho0, hb⟩; refine ⟨_, rfl, ?_⟩; have n0_ := Aside0.mk (Kd.R_below (by (with_reducible repeat (first | apply Kd.R_alloc | apply Kd.R_drewN | apply Kd.R_drew)); exact HO155.out) hb); have n1_ := Aside0.mk (Kd.R_lower ho0 (below_size (by repeat (first | (with_reducible first | exact HB.out | apply below_alloc | apply pw_below_drewN | apply below_drew1) | exact HB.out)))); have n2_ := Aside0.mk (below_step (by repeat (first | (with_reducible first | exact HB.out | apply below_alloc | apply pw_below_drewN | apply below_drew1) | exact HB.out)) hb); clear HO155; clear HB; have HO155 := n0_; have HO159 := n1_; have HB := n2_; clear n0_ n1_ n2_; (try clear hb); (try clear hb2); (try clear hk); (try clear hi); (try clear ho0); (try simp only [errW_none, errW_some]); obtain ⟨Ao11, co11, eo11⟩ := Kd.R_slice HO159.out; subst eo11) | ((with_reducible refine gate_builtin (b := .append) (xs := #[.const (.slice none 0 0), .tmp 17]) rfl ?_); at_builtin; refine R_append_rows2_ (Kd.int .i64) (w0 := w) w.heap.size rfl (.const (.slice none 0 0)) (.tmp 17) 46 74 3 3 (.int .i64 0) 8 rfl Try.underlying46 Try.underlying74 info3 rfl (by decide) (by omega) (.slice none 0 0) ([] : List Int) t156 _ _ _ (fun k_ => some k_ ≠ (.slice Ao11 t156.length co11 : Value).ownBlock) (fun _ => False) rfl rfl ?aO ?aR (fun _ _ h => h) (fun _ h => h.elim) ?aF ?aB ?aS ?aL ?_; (case aR => repeat (first | exact (Kd.R_reads' HO159.out).2.2 | (with_reducible refine Kd.C_alloc ?_ _) | (with_reducible refine Kd.C_drewN ?_ _) | (with_reducible refine Kd.C_drew ?_))); (case aB => exact (by repeat (first | (with_reducible first | exact HB.out | apply below_alloc | apply pw_below_drewN | apply below_drew1) | exact HB.out))); (case aF => exact (fun k_ hk => Kd.fresh' (Kd.R_lt (by (with_reducible repeat (first | apply Kd.R_alloc | apply Kd.R_drewN | apply Kd.R_drew)); exact HO159.out)) k_ hk)); (case aO => exact ((Kd.R_nil _ _ _ _ (fun k_ => some k_ ≠ (.slice Ao11 t156.length co11 : Value).ownBlock)))); (case aS => exact (below_size (by repeat (first | (with_reducible first | exact HB.out | apply below_alloc | apply pw_below_drewN | apply below_drew1) | exact HB.out)))); (case aL => have := LMc6.out; omega); intro v162 w10 ho hb hg hat; rw [← Ny161.out] at ho; have n0_ := Aside0.mk (Kd.R_grown (by (with_reducible repeat (first | apply Kd.R_alloc | apply Kd.R_drewN | apply Kd.R_drew)); exact HO155.out) hg (fun _ _ => by simp [Value.ownBlock])); have n1_ := Aside0.mk (Kd.R_after (Kd.R_apart_nil (by (with_reducible repeat (first | apply Kd.R_alloc | apply Kd.R_drewN | apply Kd.R_drew)); exact HO159.out)) hg hat); have n2_ := Aside0.mk (hb); have n3_ := Aside0.mk (ho); clear HO155; clear HO159; clear HB; have HO155 := n0_; have HO159 := n1_; have HB := n2_; have HO163 := n3_; clear n0_ n1_ n2_ n3_; clear ho hb hg hat))
        go_ret2
        exact ⟨_, by first | rfl | (simp [errW_none, errW_some] <;> rfl) | (simp [*, errW_none, errW_some] <;> rfl), by (with_reducible repeat (first | apply Kd.R_alloc | apply Kd.R_drewN | apply Kd.R_drew)); exact Kd.R_mono HO163.out (fun _ hk => trivial), by repeat (first | (with_reducible first | exact HB.out | apply below_alloc | apply pw_below_drewN | apply below_drew1) | exact HB.out)⟩
      · rw [if_neg c6] at H
        exact absurd H (by simp)
    · have H1 : (some (([] : List Int), false)) = some (r1, r2) := by rw [if_neg (show ¬ (some q160).isNone = true by simp)] at H; exact H
      clear H
      have H := H1
      clear H1
      try simp only [errW_none, errW_some]
      simp only [Option.some.injEq, Prod.mk.injEq] at H
      obtain ⟨rfl, rfl⟩ := H
      go_enter Try.func29, Try.ntmps29
      go_wp2_with (first | ((with_reducible refine gate_callee (f := 35) rfl ?_); refine goesL_ (some 7) rfl rfl Try.func35 (by kernel_rfl) rfl #[.slice A0 l0.length c0] rfl (by (try simp only [List.map_toArray, List.map_cons, List.map_nil]); first | done | rfl | (simp only [List.length_drop, List.length_take]; rfl)) ?_; (with_reducible refine (impl_short.calls _ _ l0 true _ ?side1 ?side2 A2.out).mono ?_); (case side1 => repeat (first | exact HR0.out | (with_reducible refine Kd.C_alloc ?_ _) | (with_reducible refine Kd.C_drewN ?_ _) | (with_reducible refine Kd.C_drew ?_))); (case side2 => exact HC0.out); rintro e w' ⟨rfl, ⟨nd, rfl⟩⟩; refine ⟨_, rfl, ?_⟩) | ((with_reducible refine gate_callee (f := 37) rfl ?_); refine goesL_ (some 11) rfl rfl Try.func37 (by kernel_rfl) rfl #[.slice A0 l0.length c0] rfl (by (try simp only [List.map_toArray, List.map_cons, List.map_nil]); first | done | rfl | (simp only [List.length_drop, List.length_take]; rfl)) ?_; (with_reducible refine (impl_copied.calls _ _ l0 t153 _ ?side1 ?side2 A4.out).mono ?_); (case side1 => repeat (first | exact HR0.out | (with_reducible refine Kd.C_alloc ?_ _) | (with_reducible refine Kd.C_drewN ?_ _) | (with_reducible refine Kd.C_drew ?_))); (case side2 => exact HC0.out); rintro e w12 ⟨v154, rfl, ho0, hb⟩; refine ⟨_, rfl, ?_⟩; have n0_ := Aside0.mk (Kd.R_lower ho0 (below_size (by repeat (first | (with_reducible first | exact HB.out | apply below_alloc | apply pw_below_drewN | apply below_drew1) | exact HB.out)))); have n1_ := Aside0.mk (below_step (by repeat (first | (with_reducible first | exact HB.out | apply below_alloc | apply pw_below_drewN | apply below_drew1) | exact HB.out)) hb); clear HB; have HO155 := n0_; have HB := n1_; clear n0_ n1_; (try clear hb); (try clear hb2); (try clear hk); (try clear hi); (try clear ho0); obtain ⟨Ao13, co13, eo13⟩ := Kd.R_slice HO155.out; subst eo13) | ((with_reducible refine gate_callee (f := 45) rfl ?_); refine goesL_ (some 12) rfl rfl Try.func45 (by kernel_rfl) rfl #[.slice Ao13 t153.length co13] rfl (by (try simp only [List.map_toArray, List.map_cons, List.map_nil]); first | done | rfl | (simp only [List.length_drop, List.length_take]; rfl)) ?_; (with_reducible refine (asn1_ZZOID.calls k _ _ t153 t156 (some q160) _ ?side1 ?side2 A5.out).mono ?_); (case side1 => repeat (first | exact (Kd.R_reads' HO155.out).2.2 | (with_reducible refine Kd.C_alloc ?_ _) | (with_reducible refine Kd.C_drewN ?_ _) | (with_reducible refine Kd.C_drew ?_))); (case side2 => exact (Kd.R_reads' HO155.out).2.1); rintro e w14 ⟨v158, rfl, ho0, hb⟩; refine ⟨_, rfl, ?_⟩; have n0_ := Aside0.mk (Kd.R_below (by (with_reducible repeat (first | apply Kd.R_alloc | apply Kd.R_drewN | apply Kd.R_drew)); exact HO155.out) hb); have n1_ := Aside0.mk (Kd.R_lower ho0 (below_size (by repeat (first | (with_reducible first | exact HB.out | apply below_alloc | apply pw_below_drewN | apply below_drew1) | exact HB.out)))); have n2_ := Aside0.mk (below_step (by repeat (first | (with_reducible first | exact HB.out | apply below_alloc | apply pw_below_drewN | apply below_drew1) | exact HB.out)) hb); clear HO155; clear HB; have HO155 := n0_; have HO159 := n1_; have HB := n2_; clear n0_ n1_ n2_; (try clear hb); (try clear hb2); (try clear hk); (try clear hi); (try clear ho0); (try simp only [errW_none, errW_some])))
      go_ret2
      exact ⟨_, by first | rfl | (simp [errW_none, errW_some] <;> rfl) | (simp [*, errW_none, errW_some] <;> rfl), by first | exact Kd.R_nil _ _ _ _ _ | exact Kd.N_nil _ _ _ _ _ | exact Kd.V_nil _ _ _ _ _ | exact Kd.Q_nil _ _ _ _ _ | exact Kd.S_nil _ _ _ _ _, by repeat (first | (with_reducible first | exact HB.out | apply below_alloc | apply pw_below_drewN | apply below_drew1) | exact HB.out)⟩
  · replace c3 := Bool.eq_false_iff.mpr c3
    subst c3
    have H1 : (some (([] : List Int), false)) = some (r1, r2) := by rw [if_neg (show ¬ (false = true) by decide)] at H; exact H
    clear H
    have H := H1
    clear H1
    simp only [Option.some.injEq, Prod.mk.injEq] at H
    obtain ⟨rfl, rfl⟩ := H
    go_enter Try.func29, Try.ntmps29
    go_wp2_with (first | ((with_reducible refine gate_callee (f := 35) rfl ?_); refine goesL_ (some 7) rfl rfl Try.func35 (by kernel_rfl) rfl #[.slice A0 l0.length c0] rfl (by (try simp only [List.map_toArray, List.map_cons, List.map_nil]); first | done | rfl | (simp only [List.length_drop, List.length_take]; rfl)) ?_; (with_reducible refine (impl_short.calls _ _ l0 false _ ?side1 ?side2 A2.out).mono ?_); (case side1 => repeat (first | exact HR0.out | (with_reducible refine Kd.C_alloc ?_ _) | (with_reducible refine Kd.C_drewN ?_ _) | (with_reducible refine Kd.C_drew ?_))); (case side2 => exact HC0.out); rintro e w' ⟨rfl, ⟨nd, rfl⟩⟩; refine ⟨_, rfl, ?_⟩))
    go_ret2
    exact ⟨_, by first | rfl | (simp [errW_none, errW_some] <;> rfl) | (simp [*, errW_none, errW_some] <;> rfl), by first | exact Kd.R_nil _ _ _ _ _ | exact Kd.N_nil _ _ _ _ _ | exact Kd.V_nil _ _ _ _ _ | exact Kd.Q_nil _ _ _ _ _ | exact Kd.S_nil _ _ _ _ _, by repeat (first | (with_reducible first | exact HB.out | apply below_alloc | apply pw_below_drewN | apply below_drew1) | exact HB.out)⟩

/-! ### slices_Equal_int_int: function 30 -/
def slices_Equal_int_int.l0 : Nat → List Int → List Int → Int → Int → Option (Bool)
  | 0, _, _, _, _ => none
  | k + 1, x0, x1, x12, x13 => if x13 < x12 then (if 0 ≤ x13 then (if x13 < (x0.length : Int) then (if x13 < (x1.length : Int) then (if (rd x0 x13) = (rd x1 x13) then (slices_Equal_int_int.l0 k x0 x1 x12 (wrap64 (x13 + 1))) else (some false)) else (none)) else (none)) else (none)) else (some true)
def slices_Equal_int_int.f (k : Nat) (l0 : List Int) (l1 : List Int) : Option (Bool) := if (l0.length : Int) = (l1.length : Int) then (slices_Equal_int_int.l0 k l0 l1 (l0.length : Int) 0) else (some false)
theorem slices_Equal_int_int.mono_l : ∀ k, (∀ y0 y1 y2 y3, LeO (slices_Equal_int_int.l0 k y0 y1 y2 y3) (slices_Equal_int_int.l0 (k + 1) y0 y1 y2 y3))
  | 0 => fun _ _ _ _ r h => by simp [slices_Equal_int_int.l0] at h
  | k + 1 => by
    have ih0 := slices_Equal_int_int.mono_l k
    · intro y0 y1 y2 y3
      unfold slices_Equal_int_int.l0
      repeat' first
      | (with_reducible exact ih0 _ _ _ _)
      | (with_reducible exact LeO.refl _)
      | (with_reducible exact LeO.none _)
      | (with_reducible refine LeO.ite ?_ ?_)
      | (with_reducible refine LeO.bind ?_ (fun _ => ?_))
      | exact ih0 _ _ _ _
      | exact LeO.none _
      | refine LeO.ite ?_ ?_
      | refine LeO.bind ?_ (fun _ => ?_)
theorem slices_Equal_int_int.mono : ∀ a0 a1 k, LeO (slices_Equal_int_int.f k a0 a1) (slices_Equal_int_int.f (k + 1) a0 a1) := by
  intro a0 a1 k
  have ih0 := slices_Equal_int_int.mono_l k
  unfold slices_Equal_int_int.f
  repeat' first
      | (with_reducible exact ih0 _ _ _ _)
      | (with_reducible exact LeO.refl _)
      | (with_reducible exact LeO.none _)
      | (with_reducible refine LeO.ite ?_ ?_)
      | (with_reducible refine LeO.bind ?_ (fun _ => ?_))
      | exact ih0 _ _ _ _
      | exact LeO.none _
      | refine LeO.ite ?_ ?_
      | refine LeO.bind ?_ (fun _ => ?_)
set_option maxHeartbeats 8000000 in
set_option maxRecDepth 100000 in
theorem slices_Equal_int_int.calls (k : Nat) (A0 : Option Addr) (c0 : Nat) (l0 : List Int) (A1 : Option Addr) (c1 : Nat) (l1 : List Int) (r : Bool) (w : World) (hr0 : Kd.C (Kd.int .i64) w A0 l0.length l0) (hc0 : l0.length ≤ c0) (hr1 : Kd.C (Kd.int .i64) w A1 l1.length l1) (hc1 : l1.length ≤ c1) (h : slices_Equal_int_int.f k l0 l1 = some r) :
    Calls Try.prog 30 #[.slice A0 l0.length c0, .slice A1 l1.length c1] w fun e w' => e = .returned (.bool r) ∧ Drawn0 w w' := by
  have HR0 := Aside0.mk hr0
  have HC0 := Aside0.mk hc0
  clear hr0 hc0
  have HR1 := Aside0.mk hr1
  have HC1 := Aside0.mk hc1
  clear hr1 hc1
  have H : (if (l0.length : Int) = (l1.length : Int) then (slices_Equal_int_int.l0 k l0 l1 (l0.length : Int) 0) else (some false)) = some r := h
  clear h
  by_cases c3 : (l0.length : Int) = (l1.length : Int)
  · rw [if_pos c3] at H
    have c3b0 : ((l0.length : Int) == (l1.length : Int)) = true := beq_iff_eq.mpr c3
    have c3b1 : ((l0.length : Int) != (l1.length : Int)) = false := bne_eq_false_iff_eq.mpr c3
    have c3b2 : (l0.length == l1.length) = true := by first | simpa using c3 | (simp at c3 ⊢; omega)
    clear c3
    have H' := Aside0.mk H
    clear H
    go_enter Try.func30, Try.ntmps30
    go_wp2
    repeat (go_quiet (fail); try go_wp2)
    go_loopg [13] k (fun kq v13 w' => ∃ (x13_1 : Int), v13 = .int .i64 x13_1 ∧ Aside0 (slices_Equal_int_int.l0 kq l0 l1 (l0.length : Int) x13_1 = some r) ∧ Aside0 (kq ≤ k) ∧ Drawn0 w w')
    case atStart => exact ⟨(0), (by first | rfl | (simp; done) | (simp [*]; done)), H', ⟨Nat.le_refl _⟩, by repeat (first | exact Drawn0.refl _ | apply Drawn0.step)⟩
    case round =>
      clear H'
      try clear c1
      try clear p2
      try clear c3
      try clear c3b0
      try clear c3b1
      try clear c3b2
      obtain ⟨x13_1, rfl, HA, HK1, ⟨m1, rfl⟩⟩ := hrel
      cases gk with
      | zero => exact absurd HA.out (by simp [slices_Equal_int_int.l0])
      | succ k1 =>
        have H := HA.out
        clear HA
        simp only [slices_Equal_int_int.l0] at H
        by_cases c4 : x13_1 < (l0.length : Int)
        · rw [if_pos c4] at H
          have c4b0 : decide (x13_1 < (l0.length : Int)) = true := decide_eq_true c4
          clear c4
          by_cases c5 : 0 ≤ x13_1
          · rw [if_pos c5] at H
            have c5b0 : decide (0 ≤ x13_1) = true := decide_eq_true c5
            clear c5
            by_cases c6 : x13_1 < (l0.length : Int)
            · rw [if_pos c6] at H
              have c6b0 : decide (x13_1 < (l0.length : Int)) = true := decide_eq_true c6
              clear c6
              by_cases c7 : x13_1 < (l1.length : Int)
              · rw [if_pos c7] at H
                have c7b0 : decide (x13_1 < (l1.length : Int)) = true := decide_eq_true c7
                clear c7
                by_cases c8 : (rd l0 x13_1) = (rd l1 x13_1)
                · rw [if_pos c8] at H
                  have c8b0 : ((rd l0 x13_1) == (rd l1 x13_1)) = true := beq_iff_eq.mpr c8
                  have c8b1 : ((rd l0 x13_1) != (rd l1 x13_1)) = false := bne_eq_false_iff_eq.mpr c8
                  clear c8
                  have H' := Aside0.mk H
                  clear H
                  have p164 : 0 ≤ (x13_1 : Int) := of_decide_eq_true (by first | (with_reducible assumption) | assumption)
                  have q164 : x13_1 < (l0.length : Int) := of_decide_eq_true (by first | (with_reducible assumption) | assumption)
                  obtain ⟨ad164, e164, hx164_0⟩ := Kd.at_int HR0.out x13_1 p164 q164
                  cases e164
                  replace p164 := eq_true p164
                  replace q164 := eq_true q164
                  have p165 : 0 ≤ (x13_1 : Int) := of_decide_eq_true (by first | (with_reducible assumption) | assumption)
                  have q165 : x13_1 < (l1.length : Int) := of_decide_eq_true (by first | (with_reducible assumption) | assumption)
                  obtain ⟨ad165, e165, hx165_0⟩ := Kd.at_int HR1.out x13_1 p165 q165
                  cases e165
                  replace p165 := eq_true p165
                  replace q165 := eq_true q165
                  go_wp2
                  repeat (go_quiet (fail); try go_wp2)
                  go_roundg k1
                  case measure => have := HK1.out; omega
                  case rel => exact ⟨(wrap64 (x13_1 + 1)), (by first | rfl | (simp; done) | (simp [*]; done)), H', ⟨by have := HK1.out; omega⟩, by repeat (first | exact Drawn0.refl _ | apply Drawn0.step)⟩
                · rw [if_neg c8] at H
                  have c8b0 : ((rd l0 x13_1) == (rd l1 x13_1)) = false := beq_eq_false_iff_ne.mpr c8
                  have c8b1 : ((rd l0 x13_1) != (rd l1 x13_1)) = true := bne_iff_ne.mpr c8
                  obtain rfl := Option.some.inj H
                  have p164 : 0 ≤ (x13_1 : Int) := of_decide_eq_true (by first | (with_reducible assumption) | assumption)
                  have q164 : x13_1 < (l0.length : Int) := of_decide_eq_true (by first | (with_reducible assumption) | assumption)
                  obtain ⟨ad164, e164, hx164_0⟩ := Kd.at_int HR0.out x13_1 p164 q164
                  cases e164
                  replace p164 := eq_true p164
                  replace q164 := eq_true q164
                  have p165 : 0 ≤ (x13_1 : Int) := of_decide_eq_true (by first | (with_reducible assumption) | assumption)
                  have q165 : x13_1 < (l1.length : Int) := of_decide_eq_true (by first | (with_reducible assumption) | assumption)
                  obtain ⟨ad165, e165, hx165_0⟩ := Kd.at_int HR1.out x13_1 p165 q165
                  cases e165
                  replace p165 := eq_true p165
                  replace q165 := eq_true q165
                  go_wp2
                  repeat (go_quiet (fail); try go_wp2)
                  go_ret
                  exact ⟨by first | rfl | (simp; done) | (simp [*]; done), by repeat (first | exact Drawn0.refl _ | apply Drawn0.step)⟩
              · rw [if_neg c7] at H
                exact absurd H (by simp)
            · rw [if_neg c6] at H
              exact absurd H (by simp)
          · rw [if_neg c5] at H
            exact absurd H (by simp)
        · rw [if_neg c4] at H
          have c4b0 : decide (x13_1 < (l0.length : Int)) = false := decide_eq_false c4
          clear c4
          obtain rfl := Option.some.inj H
          go_wp2
          repeat (go_quiet (fail); try go_wp2)
          go_ret
          exact ⟨by first | rfl | (simp; done) | (simp [*]; done), by repeat (first | exact Drawn0.refl _ | apply Drawn0.step)⟩
  · rw [if_neg c3] at H
    have c3b0 : ((l0.length : Int) == (l1.length : Int)) = false := beq_eq_false_iff_ne.mpr c3
    have c3b1 : ((l0.length : Int) != (l1.length : Int)) = true := bne_iff_ne.mpr c3
    have c3b2 : (l0.length == l1.length) = false := by first | simpa using c3 | (simp at c3 ⊢; omega)
    obtain rfl := Option.some.inj H
    go_enter Try.func30, Try.ntmps30
    go_wp2
    repeat (go_quiet (fail); try go_wp2)
    go_ret
    exact ⟨by first | rfl | (simp; done) | (simp [*]; done), by repeat (first | exact Drawn0.refl _ | apply Drawn0.step)⟩

end Go.Proofs.Ytapnkngcnlomhaa.QO
