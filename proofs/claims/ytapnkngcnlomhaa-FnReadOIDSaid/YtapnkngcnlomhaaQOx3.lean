-- Written by a program of this work (wip/patch_print.py) for this claim.
import Derived.Test.YtapnkngcnlomhaaQOx0
import Derived.Test.YtapnkngcnlomhaaQOx1
import Derived.Test.YtapnkngcnlomhaaQOx2
namespace Go.Proofs.Ytapnkngcnlomhaa.QO
open Go.RowKit Go.Proofs.YtapnkngcnlomhaaW.PrintWords Go.Proofs.YtapnkngcnlomhaaW.PrintLast Go.Proofs.YtapnkngcnlomhaaW.PrintMore
attribute [local go_sem] max2_int min2_int max_two min_two max_three min_three max_four min_four   -- for this text's walks alone
set_option linter.unusedVariables false
set_option linter.unusedSimpArgs false

/-! ### laws_FnReadOID: function 11 -/
def laws_FnReadOID.f (k : Nat) (l0 : List Int) : Option (Bool) := if (l0.length : Int) > 2147483647 then (some true) else (if (l0.length : Int) > 200 then (some true) else ((spec_Identifier.f k l0).bind fun bt166 => ((impl_ReadOID.f k l0).bind fun bt170 => ((impl_ReadOID.f k (([42, 3] : List Int))).bind fun bt177 => (if (bt170.2 == bt166.2) = true then (if bt166.2 = true then ((slices_Equal_int_int.f k bt170.1 bt166.1).bind fun t181 => (if t181 = true then (if bt177.2 = true then (some ((bt177.1.length : Int) == 3)) else (some false)) else (some false))) else (if bt177.2 = true then (some ((bt177.1.length : Int) == 3)) else (some false))) else (some false))))))
theorem laws_FnReadOID.mono : ∀ a0 k, LeO (laws_FnReadOID.f k a0) (laws_FnReadOID.f (k + 1) a0) := by
  intro a0 k
  unfold laws_FnReadOID.f
  repeat' first
      | (with_reducible exact impl_ReadOID.mono _ _)
      | (with_reducible exact slices_Equal_int_int.mono _ _ _)
      | (with_reducible exact spec_Identifier.mono _ _)
      | (with_reducible exact LeO.refl _)
      | (with_reducible exact LeO.none _)
      | (with_reducible refine LeO.ite ?_ ?_)
      | (with_reducible refine LeO.bind ?_ (fun _ => ?_))
      | exact impl_ReadOID.mono _ _
      | exact slices_Equal_int_int.mono _ _ _
      | exact spec_Identifier.mono _ _
      | exact LeO.none _
      | refine LeO.ite ?_ ?_
      | refine LeO.bind ?_ (fun _ => ?_)
set_option maxHeartbeats 8000000 in
set_option maxRecDepth 100000 in
theorem laws_FnReadOID.calls (k : Nat) (A0 : Option Addr) (c0 : Nat) (l0 : List Int) (r : Bool) (w : World) (hr0 : Kd.C (Kd.int .u8) w A0 l0.length l0) (hc0 : l0.length ≤ c0) (h : laws_FnReadOID.f k l0 = some r) (hrt : r = true) :
    Calls Try.prog 11 #[.slice A0 l0.length c0] w fun e w' => e = .returned (.bool r) ∧ Below w.heap.size w w' := by
  have HR0 := Aside0.mk hr0
  have HC0 := Aside0.mk hc0
  clear hr0 hc0
  have HB := Aside0.mk (Below.refl w.heap.size w)
  have HRT := Aside0.mk hrt
  clear hrt
  have H : (if (l0.length : Int) > 2147483647 then (some true) else (if (l0.length : Int) > 200 then (some true) else ((spec_Identifier.f k l0).bind fun bt166 => ((impl_ReadOID.f k l0).bind fun bt170 => ((impl_ReadOID.f k (([42, 3] : List Int))).bind fun bt177 => (if (bt170.2 == bt166.2) = true then (if bt166.2 = true then ((slices_Equal_int_int.f k bt170.1 bt166.1).bind fun t181 => (if t181 = true then (if bt177.2 = true then (some ((bt177.1.length : Int) == 3)) else (some false)) else (some false))) else (if bt177.2 = true then (some ((bt177.1.length : Int) == 3)) else (some false))) else (some false))))))) = some r := h
  clear h
  by_cases c2 : (l0.length : Int) > 2147483647
  · rw [if_pos c2] at H
    have c2b0 : decide (2147483647 < (l0.length : Int)) = true := decide_eq_true c2
    have c2b1 : decide (2147483647 < l0.length) = true := decide_eq_true (by omega)
    clear c2
    obtain rfl := Option.some.inj H
    go_enter Try.func11, Try.ntmps11
    go_wp2
    go_ret
    exact ⟨by first | rfl | (simp [errW_none, errW_some] <;> rfl) | (simp [*, errW_none, errW_some] <;> rfl), by repeat (first | (with_reducible first | exact HB.out | apply below_alloc | apply pw_below_drewN | apply below_drew1) | exact HB.out)⟩
  · rw [if_neg c2] at H
    have c2b0 : decide (2147483647 < (l0.length : Int)) = false := decide_eq_false c2
    have c2b1 : decide (2147483647 < l0.length) = false := decide_eq_false (by omega)
    clear c2
    by_cases c3 : (l0.length : Int) > 200
    · rw [if_pos c3] at H
      have c3b0 : decide (200 < (l0.length : Int)) = true := decide_eq_true c3
      have c3b1 : decide (200 < l0.length) = true := decide_eq_true (by omega)
      clear c3
      obtain rfl := Option.some.inj H
      go_enter Try.func11, Try.ntmps11
      go_wp2
      go_ret
      exact ⟨by first | rfl | (simp [errW_none, errW_some] <;> rfl) | (simp [*, errW_none, errW_some] <;> rfl), by repeat (first | (with_reducible first | exact HB.out | apply below_alloc | apply pw_below_drewN | apply below_drew1) | exact HB.out)⟩
    · rw [if_neg c3] at H
      have c3b0 : decide (200 < (l0.length : Int)) = false := decide_eq_false c3
      have c3b1 : decide (200 < l0.length) = false := decide_eq_false (by omega)
      clear c3
      replace H := Option.bind_eq_some_iff.mp H
      obtain ⟨⟨t166, t167⟩, A40, H⟩ := H
      replace H : ((impl_ReadOID.f k l0).bind fun bt170 => ((impl_ReadOID.f k (([42, 3] : List Int))).bind fun bt177 => (if (bt170.2 == t167) = true then (if t167 = true then ((slices_Equal_int_int.f k bt170.1 t166).bind fun t181 => (if t181 = true then (if bt177.2 = true then (some ((bt177.1.length : Int) == 3)) else (some false)) else (some false))) else (if bt177.2 = true then (some ((bt177.1.length : Int) == 3)) else (some false))) else (some false)))) = some r := H
      have A4 := Aside0.mk A40
      clear A40
      replace H := Option.bind_eq_some_iff.mp H
      obtain ⟨⟨t170, t171⟩, A50, H⟩ := H
      replace H : ((impl_ReadOID.f k (([42, 3] : List Int))).bind fun bt177 => (if (t171 == t167) = true then (if t167 = true then ((slices_Equal_int_int.f k t170 t166).bind fun t181 => (if t181 = true then (if bt177.2 = true then (some ((bt177.1.length : Int) == 3)) else (some false)) else (some false))) else (if bt177.2 = true then (some ((bt177.1.length : Int) == 3)) else (some false))) else (some false))) = some r := H
      have A5 := Aside0.mk A50
      clear A50
      obtain ⟨y174, hy174⟩ : ∃ y_ : List Int, y_ = (([42, 3] : List Int)) := ⟨_, rfl⟩
      replace H : ((impl_ReadOID.f k y174).bind fun bt177 => (if (t171 == t167) = true then (if t167 = true then ((slices_Equal_int_int.f k t170 t166).bind fun t181 => (if t181 = true then (if bt177.2 = true then (some ((bt177.1.length : Int) == 3)) else (some false)) else (some false))) else (if bt177.2 = true then (some ((bt177.1.length : Int) == 3)) else (some false))) else (some false))) = some r := by first | (rw [hy174]; with_reducible exact H) | (have H2_ := (Option.bind_some _ _).symm.trans H; rw [hy174]; with_reducible exact H2_) | (have H2_ := (Option.bind_some _ _).symm.trans H; with_reducible exact H2_) | with_reducible exact H | (rw [hy174]; exact H) | exact H
      have Ny174 := Aside0.mk hy174
      clear hy174
      replace H := Option.bind_eq_some_iff.mp H
      obtain ⟨⟨t177, t178⟩, A60, H⟩ := H
      replace H : (if (t171 == t167) = true then (if t167 = true then ((slices_Equal_int_int.f k t170 t166).bind fun t181 => (if t181 = true then (if t178 = true then (some ((t177.length : Int) == 3)) else (some false)) else (some false))) else (if t178 = true then (some ((t177.length : Int) == 3)) else (some false))) else (some false)) = some r := H
      have A6 := Aside0.mk A60
      clear A60
      by_cases c7 : (t171 == t167) = true
      · rw [if_pos c7] at H
        have c7b0 : (t171 == t167) = true := c7
        (try (have c7b1 : t171 = t167 := bool_eq_of _ _ (by simpa using c7)))
        (try (have c7b2 : decide (t171 = t167) = true := by simpa using c7))
        (try (have c7b3 : (t171 == t167) = true := by simpa using c7))
        clear c7
        by_cases c8 : t167 = true
        · subst c8
          have H1 : ((slices_Equal_int_int.f k t170 t166).bind fun t181 => (if t181 = true then (if t178 = true then (some ((t177.length : Int) == 3)) else (some false)) else (some false))) = some r := by rw [if_pos rfl] at H; exact H
          clear H
          have H := H1
          clear H1
          replace H := Option.bind_eq_some_iff.mp H
          obtain ⟨t181, A90, H⟩ := H
          replace H : (if t181 = true then (if t178 = true then (some ((t177.length : Int) == 3)) else (some false)) else (some false)) = some r := H
          have A9 := Aside0.mk A90
          clear A90
          by_cases c10 : t181 = true
          · subst c10
            have H1 : (if t178 = true then (some ((t177.length : Int) == 3)) else (some false)) = some r := by rw [if_pos rfl] at H; exact H
            clear H
            have H := H1
            clear H1
            by_cases c11 : t178 = true
            · subst c11
              have H1 : (some ((t177.length : Int) == 3)) = some r := by rw [if_pos rfl] at H; exact H
              clear H
              have H := H1
              clear H1
              obtain rfl := Option.some.inj H
              go_enter Try.func11, Try.ntmps11
              go_wp2_with (first | ((with_reducible refine gate_callee (f := 28) rfl ?_); refine goesL_ (some 17) rfl rfl Try.func28 (by kernel_rfl) rfl #[.slice A0 l0.length c0] rfl (by (try simp only [List.map_toArray, List.map_cons, List.map_nil]); first | done | rfl | (simp only [List.length_drop, List.length_take]; rfl)) ?_; (with_reducible refine (spec_Identifier.calls k _ _ l0 t166 true _ ?side1 ?side2 A4.out).mono ?_); (case side1 => repeat (first | exact HR0.out | (with_reducible refine Kd.C_alloc ?_ _) | (with_reducible refine Kd.C_drewN ?_ _) | (with_reducible refine Kd.C_drew ?_))); (case side2 => exact HC0.out); rintro e w12 ⟨v168, rfl, ho0, hb⟩; refine ⟨_, rfl, ?_⟩; have n0_ := Aside0.mk (Kd.R_lower ho0 (below_size (by repeat (first | (with_reducible first | exact HB.out | apply below_alloc | apply pw_below_drewN | apply below_drew1) | exact HB.out)))); have n1_ := Aside0.mk (below_step (by repeat (first | (with_reducible first | exact HB.out | apply below_alloc | apply pw_below_drewN | apply below_drew1) | exact HB.out)) hb); clear HB; have HO169 := n0_; have HB := n1_; clear n0_ n1_; (try clear hb); (try clear hb2); (try clear hk); (try clear hi); (try clear ho0)) | ((with_reducible refine gate_callee (f := 29) rfl ?_); refine goesL_ (some 22) rfl rfl Try.func29 (by kernel_rfl) rfl #[.slice A0 l0.length c0] rfl (by (try simp only [List.map_toArray, List.map_cons, List.map_nil]); first | done | rfl | (simp only [List.length_drop, List.length_take]; rfl)) ?_; (with_reducible refine (impl_ReadOID.calls k _ _ l0 t170 t171 _ ?side1 ?side2 A5.out).mono ?_); (case side1 => repeat (first | exact (Kd.C_below HR0.out HB.out) | (with_reducible refine Kd.C_alloc ?_ _) | (with_reducible refine Kd.C_drewN ?_ _) | (with_reducible refine Kd.C_drew ?_))); (case side2 => exact HC0.out); rintro e w13 ⟨v172, rfl, ho0, hb⟩; refine ⟨_, rfl, ?_⟩; have n0_ := Aside0.mk (Kd.R_elder' (by (with_reducible repeat (first | apply Kd.R_alloc | apply Kd.R_drewN | apply Kd.R_drew)); exact HO169.out) (Kd.R_base ho0) hb); have n1_ := Aside0.mk (Kd.R_lower (Kd.R_new' ho0 (Kd.R_lt (by (with_reducible repeat (first | apply Kd.R_alloc | apply Kd.R_drewN | apply Kd.R_drew)); exact HO169.out))) (below_size (by repeat (first | (with_reducible first | exact HB.out | apply below_alloc | apply pw_below_drewN | apply below_drew1) | exact HB.out)))); have n2_ := Aside0.mk (below_step (by repeat (first | (with_reducible first | exact HB.out | apply below_alloc | apply pw_below_drewN | apply below_drew1) | exact HB.out)) hb); clear HO169; clear HB; have HO169 := n0_; have HO173 := n1_; have HB := n2_; clear n0_ n1_ n2_; (try clear hb); (try clear hb2); (try clear hk); (try clear hi); (try clear ho0)) | ((with_reducible refine gate_dst (N := 26) rfl ?_); (try (refine gate_guard (by rfl) ?_; dsimp only)); refine Kd.R_lit (Kd.int .u8) _ 5 ?hg (N := 26) ?hd (xs := ([42, 3] : List Int)) (inner := [.int .u8 42, .int .u8 3]) (ok := fun _ => True) (okp := fun _ => True) ?hr ?hp (fun _ hk => hk) trivial (Below.refl _ _) (Nat.le_refl _) (by simp) ?_; (case hd => rfl); (case hg => rfl); (case hr => first | (go_simp; done) | (go_simp; rfl)); (case hp => exact (Reps.one (show Kd.M (Kd.int .u8) _ _ _ 42 [.int .u8 42] from rfl) (Reps.one (show Kd.M (Kd.int .u8) _ _ _ 3 [.int .u8 3] from rfl) (Reps.none _ _)))); intro v175 w14 ho15 hb hg_ hnew_; clear hg_ hnew_; (first | rw [← Ny174.out] at ho15 | (simp only [Int.reduceToNat] at ho15; rw [← Ny174.out] at ho15)); have n0_ := Aside0.mk (Kd.R_below (by (with_reducible repeat (first | apply Kd.R_alloc | apply Kd.R_drewN | apply Kd.R_drew)); exact HO169.out) hb); have n1_ := Aside0.mk (Kd.R_below (by (with_reducible repeat (first | apply Kd.R_alloc | apply Kd.R_drewN | apply Kd.R_drew)); exact HO173.out) hb); have n2_ := Aside0.mk (Kd.R_lower ho15 (below_size (by repeat (first | (with_reducible first | exact HB.out | apply below_alloc | apply pw_below_drewN | apply below_drew1) | exact HB.out)))); have n3_ := Aside0.mk (below_step (by repeat (first | (with_reducible first | exact HB.out | apply below_alloc | apply pw_below_drewN | apply below_drew1) | exact HB.out)) hb); clear HO169; clear HO173; clear HB; have HO169 := n0_; have HO173 := n1_; have HO176 := n2_; have HB := n3_; clear n0_ n1_ n2_ n3_; clear hb ho15; obtain ⟨Ao16, co16, eo16⟩ := Kd.R_slice HO176.out; subst eo16) | ((with_reducible refine gate_callee (f := 29) rfl ?_); refine goesL_ (some 27) rfl rfl Try.func29 (by kernel_rfl) rfl #[.slice Ao16 y174.length co16] rfl (by (try simp only [List.map_toArray, List.map_cons, List.map_nil]); first | done | rfl | (simp only [List.length_drop, List.length_take]; rfl)) ?_; (with_reducible refine (impl_ReadOID.calls k _ _ y174 t177 true _ ?side1 ?side2 A6.out).mono ?_); (case side1 => repeat (first | exact (Kd.R_reads' HO176.out).2.2 | (with_reducible refine Kd.C_alloc ?_ _) | (with_reducible refine Kd.C_drewN ?_ _) | (with_reducible refine Kd.C_drew ?_))); (case side2 => exact (Kd.R_reads' HO176.out).2.1); rintro e w17 ⟨v179, rfl, ho0, hb⟩; refine ⟨_, rfl, ?_⟩; have n0_ := Aside0.mk (Kd.R_elder' (by (with_reducible repeat (first | apply Kd.R_alloc | apply Kd.R_drewN | apply Kd.R_drew)); exact HO169.out) (Kd.R_base ho0) hb); have n1_ := Aside0.mk (Kd.R_elder' (by (with_reducible repeat (first | apply Kd.R_alloc | apply Kd.R_drewN | apply Kd.R_drew)); exact HO173.out) (Kd.R_base ho0) hb); have n2_ := Aside0.mk (Kd.R_below (by (with_reducible repeat (first | apply Kd.R_alloc | apply Kd.R_drewN | apply Kd.R_drew)); exact HO176.out) hb); have n3_ := Aside0.mk (Kd.R_lower (Kd.R_new' (Kd.R_new' ho0 (Kd.R_lt (by (with_reducible repeat (first | apply Kd.R_alloc | apply Kd.R_drewN | apply Kd.R_drew)); exact HO169.out))) (Kd.R_lt (by (with_reducible repeat (first | apply Kd.R_alloc | apply Kd.R_drewN | apply Kd.R_drew)); exact HO173.out))) (below_size (by repeat (first | (with_reducible first | exact HB.out | apply below_alloc | apply pw_below_drewN | apply below_drew1) | exact HB.out)))); have n4_ := Aside0.mk (below_step (by repeat (first | (with_reducible first | exact HB.out | apply below_alloc | apply pw_below_drewN | apply below_drew1) | exact HB.out)) hb); clear HO169; clear HO173; clear HO176; clear HB; have HO169 := n0_; have HO173 := n1_; have HO176 := n2_; have HO180 := n3_; have HB := n4_; clear n0_ n1_ n2_ n3_ n4_; (try clear hb); (try clear hb2); (try clear hk); (try clear hi); (try clear ho0); obtain ⟨Ao18, co18, eo18⟩ := Kd.R_slice HO173.out; subst eo18; obtain ⟨Ao19, co19, eo19⟩ := Kd.R_slice HO169.out; subst eo19) | (go_at_call 30; (with_reducible refine (slices_Equal_int_int.calls k _ _ t170 _ _ t166 true _ ?side1 ?side2 ?side3 ?side4 A9.out).mono ?_); (case side1 => repeat (first | exact (Kd.R_reads' HO173.out).2.2 | (with_reducible refine Kd.C_alloc ?_ _) | (with_reducible refine Kd.C_drewN ?_ _) | (with_reducible refine Kd.C_drew ?_))); (case side2 => exact (Kd.R_reads' HO173.out).2.1); (case side3 => repeat (first | exact (Kd.R_reads' HO169.out).2.2 | (with_reducible refine Kd.C_alloc ?_ _) | (with_reducible refine Kd.C_drewN ?_ _) | (with_reducible refine Kd.C_drew ?_))); (case side4 => exact (Kd.R_reads' HO169.out).2.1); rintro e w' ⟨rfl, ⟨nd, rfl⟩⟩; obtain ⟨Ao20, co20, eo20⟩ := Kd.R_slice HO180.out; subst eo20))
              go_ret
              exact ⟨by first | rfl | (simp [errW_none, errW_some] <;> rfl) | (simp [*, errW_none, errW_some] <;> rfl), by repeat (first | (with_reducible first | exact HB.out | apply below_alloc | apply pw_below_drewN | apply below_drew1) | exact HB.out)⟩
            · replace c11 := Bool.eq_false_iff.mpr c11
              subst c11
              have H1 : (some false) = some r := by rw [if_neg (show ¬ (false = true) by decide)] at H; exact H
              clear H
              have H := H1
              clear H1
              exact absurd (Option.some.inj H) (by rw [HRT.out]; simp)
          · replace c10 := Bool.eq_false_iff.mpr c10
            subst c10
            have H1 : (some false) = some r := by rw [if_neg (show ¬ (false = true) by decide)] at H; exact H
            clear H
            have H := H1
            clear H1
            exact absurd (Option.some.inj H) (by rw [HRT.out]; simp)
        · replace c8 := Bool.eq_false_iff.mpr c8
          subst c8
          have H1 : (if t178 = true then (some ((t177.length : Int) == 3)) else (some false)) = some r := by rw [if_neg (show ¬ (false = true) by decide)] at H; exact H
          clear H
          have H := H1
          clear H1
          by_cases c21 : t178 = true
          · subst c21
            have H1 : (some ((t177.length : Int) == 3)) = some r := by rw [if_pos rfl] at H; exact H
            clear H
            have H := H1
            clear H1
            obtain rfl := Option.some.inj H
            go_enter Try.func11, Try.ntmps11
            go_wp2_with (first | ((with_reducible refine gate_callee (f := 28) rfl ?_); refine goesL_ (some 17) rfl rfl Try.func28 (by kernel_rfl) rfl #[.slice A0 l0.length c0] rfl (by (try simp only [List.map_toArray, List.map_cons, List.map_nil]); first | done | rfl | (simp only [List.length_drop, List.length_take]; rfl)) ?_; (with_reducible refine (spec_Identifier.calls k _ _ l0 t166 false _ ?side1 ?side2 A4.out).mono ?_); (case side1 => repeat (first | exact HR0.out | (with_reducible refine Kd.C_alloc ?_ _) | (with_reducible refine Kd.C_drewN ?_ _) | (with_reducible refine Kd.C_drew ?_))); (case side2 => exact HC0.out); rintro e w22 ⟨v168, rfl, ho0, hb⟩; refine ⟨_, rfl, ?_⟩; have n0_ := Aside0.mk (Kd.R_lower ho0 (below_size (by repeat (first | (with_reducible first | exact HB.out | apply below_alloc | apply pw_below_drewN | apply below_drew1) | exact HB.out)))); have n1_ := Aside0.mk (below_step (by repeat (first | (with_reducible first | exact HB.out | apply below_alloc | apply pw_below_drewN | apply below_drew1) | exact HB.out)) hb); clear HB; have HO169 := n0_; have HB := n1_; clear n0_ n1_; (try clear hb); (try clear hb2); (try clear hk); (try clear hi); (try clear ho0)) | ((with_reducible refine gate_callee (f := 29) rfl ?_); refine goesL_ (some 22) rfl rfl Try.func29 (by kernel_rfl) rfl #[.slice A0 l0.length c0] rfl (by (try simp only [List.map_toArray, List.map_cons, List.map_nil]); first | done | rfl | (simp only [List.length_drop, List.length_take]; rfl)) ?_; (with_reducible refine (impl_ReadOID.calls k _ _ l0 t170 t171 _ ?side1 ?side2 A5.out).mono ?_); (case side1 => repeat (first | exact (Kd.C_below HR0.out HB.out) | (with_reducible refine Kd.C_alloc ?_ _) | (with_reducible refine Kd.C_drewN ?_ _) | (with_reducible refine Kd.C_drew ?_))); (case side2 => exact HC0.out); rintro e w23 ⟨v172, rfl, ho0, hb⟩; refine ⟨_, rfl, ?_⟩; have n0_ := Aside0.mk (Kd.R_elder' (by (with_reducible repeat (first | apply Kd.R_alloc | apply Kd.R_drewN | apply Kd.R_drew)); exact HO169.out) (Kd.R_base ho0) hb); have n1_ := Aside0.mk (Kd.R_lower (Kd.R_new' ho0 (Kd.R_lt (by (with_reducible repeat (first | apply Kd.R_alloc | apply Kd.R_drewN | apply Kd.R_drew)); exact HO169.out))) (below_size (by repeat (first | (with_reducible first | exact HB.out | apply below_alloc | apply pw_below_drewN | apply below_drew1) | exact HB.out)))); have n2_ := Aside0.mk (below_step (by repeat (first | (with_reducible first | exact HB.out | apply below_alloc | apply pw_below_drewN | apply below_drew1) | exact HB.out)) hb); clear HO169; clear HB; have HO169 := n0_; have HO173 := n1_; have HB := n2_; clear n0_ n1_ n2_; (try clear hb); (try clear hb2); (try clear hk); (try clear hi); (try clear ho0)) | ((with_reducible refine gate_dst (N := 26) rfl ?_); (try (refine gate_guard (by rfl) ?_; dsimp only)); refine Kd.R_lit (Kd.int .u8) _ 5 ?hg (N := 26) ?hd (xs := ([42, 3] : List Int)) (inner := [.int .u8 42, .int .u8 3]) (ok := fun _ => True) (okp := fun _ => True) ?hr ?hp (fun _ hk => hk) trivial (Below.refl _ _) (Nat.le_refl _) (by simp) ?_; (case hd => rfl); (case hg => rfl); (case hr => first | (go_simp; done) | (go_simp; rfl)); (case hp => exact (Reps.one (show Kd.M (Kd.int .u8) _ _ _ 42 [.int .u8 42] from rfl) (Reps.one (show Kd.M (Kd.int .u8) _ _ _ 3 [.int .u8 3] from rfl) (Reps.none _ _)))); intro v175 w24 ho25 hb hg_ hnew_; clear hg_ hnew_; (first | rw [← Ny174.out] at ho25 | (simp only [Int.reduceToNat] at ho25; rw [← Ny174.out] at ho25)); have n0_ := Aside0.mk (Kd.R_below (by (with_reducible repeat (first | apply Kd.R_alloc | apply Kd.R_drewN | apply Kd.R_drew)); exact HO169.out) hb); have n1_ := Aside0.mk (Kd.R_below (by (with_reducible repeat (first | apply Kd.R_alloc | apply Kd.R_drewN | apply Kd.R_drew)); exact HO173.out) hb); have n2_ := Aside0.mk (Kd.R_lower ho25 (below_size (by repeat (first | (with_reducible first | exact HB.out | apply below_alloc | apply pw_below_drewN | apply below_drew1) | exact HB.out)))); have n3_ := Aside0.mk (below_step (by repeat (first | (with_reducible first | exact HB.out | apply below_alloc | apply pw_below_drewN | apply below_drew1) | exact HB.out)) hb); clear HO169; clear HO173; clear HB; have HO169 := n0_; have HO173 := n1_; have HO176 := n2_; have HB := n3_; clear n0_ n1_ n2_ n3_; clear hb ho25; obtain ⟨Ao26, co26, eo26⟩ := Kd.R_slice HO176.out; subst eo26) | ((with_reducible refine gate_callee (f := 29) rfl ?_); refine goesL_ (some 27) rfl rfl Try.func29 (by kernel_rfl) rfl #[.slice Ao26 y174.length co26] rfl (by (try simp only [List.map_toArray, List.map_cons, List.map_nil]); first | done | rfl | (simp only [List.length_drop, List.length_take]; rfl)) ?_; (with_reducible refine (impl_ReadOID.calls k _ _ y174 t177 true _ ?side1 ?side2 A6.out).mono ?_); (case side1 => repeat (first | exact (Kd.R_reads' HO176.out).2.2 | (with_reducible refine Kd.C_alloc ?_ _) | (with_reducible refine Kd.C_drewN ?_ _) | (with_reducible refine Kd.C_drew ?_))); (case side2 => exact (Kd.R_reads' HO176.out).2.1); rintro e w27 ⟨v179, rfl, ho0, hb⟩; refine ⟨_, rfl, ?_⟩; have n0_ := Aside0.mk (Kd.R_elder' (by (with_reducible repeat (first | apply Kd.R_alloc | apply Kd.R_drewN | apply Kd.R_drew)); exact HO169.out) (Kd.R_base ho0) hb); have n1_ := Aside0.mk (Kd.R_elder' (by (with_reducible repeat (first | apply Kd.R_alloc | apply Kd.R_drewN | apply Kd.R_drew)); exact HO173.out) (Kd.R_base ho0) hb); have n2_ := Aside0.mk (Kd.R_below (by (with_reducible repeat (first | apply Kd.R_alloc | apply Kd.R_drewN | apply Kd.R_drew)); exact HO176.out) hb); have n3_ := Aside0.mk (Kd.R_lower (Kd.R_new' (Kd.R_new' ho0 (Kd.R_lt (by (with_reducible repeat (first | apply Kd.R_alloc | apply Kd.R_drewN | apply Kd.R_drew)); exact HO169.out))) (Kd.R_lt (by (with_reducible repeat (first | apply Kd.R_alloc | apply Kd.R_drewN | apply Kd.R_drew)); exact HO173.out))) (below_size (by repeat (first | (with_reducible first | exact HB.out | apply below_alloc | apply pw_below_drewN | apply below_drew1) | exact HB.out)))); have n4_ := Aside0.mk (below_step (by repeat (first | (with_reducible first | exact HB.out | apply below_alloc | apply pw_below_drewN | apply below_drew1) | exact HB.out)) hb); clear HO169; clear HO173; clear HO176; clear HB; have HO169 := n0_; have HO173 := n1_; have HO176 := n2_; have HO180 := n3_; have HB := n4_; clear n0_ n1_ n2_ n3_ n4_; (try clear hb); (try clear hb2); (try clear hk); (try clear hi); (try clear ho0); obtain ⟨Ao28, co28, eo28⟩ := Kd.R_slice HO180.out; subst eo28))
            go_ret
            exact ⟨by first | rfl | (simp [errW_none, errW_some] <;> rfl) | (simp [*, errW_none, errW_some] <;> rfl), by repeat (first | (with_reducible first | exact HB.out | apply below_alloc | apply pw_below_drewN | apply below_drew1) | exact HB.out)⟩
          · replace c21 := Bool.eq_false_iff.mpr c21
            subst c21
            have H1 : (some false) = some r := by rw [if_neg (show ¬ (false = true) by decide)] at H; exact H
            clear H
            have H := H1
            clear H1
            exact absurd (Option.some.inj H) (by rw [HRT.out]; simp)
      · rw [if_neg c7] at H
        have c7b0 : (t171 == t167) = false := by simpa using c7
        (try (have c7b1 : t171 = !(t167) := bool_ne_of _ _ (by simpa using c7)))
        (try (have c7b2 : decide (t171 = t167) = false := by simpa using c7))
        (try (have c7b3 : (t171 == t167) = false := by simpa using c7))
        (try (have c7b4 : ¬ (t171 = t167) := by simpa using c7))
        clear c7
        exact absurd (Option.some.inj H) (by rw [HRT.out]; simp)

/-- THE ONE PURE STATEMENT of laws_FnReadOID: yours. -/
def laws_FnReadOID.Pure : Prop := ∀ (l0 : List Int), l0.length ≤ maxLen → l0.length * 1 ≤ 140737488351232 → (∀ x ∈ l0, (Lit.int .u8 x).wf = true) → ∃ k, laws_FnReadOID.f k l0 = some true
theorem laws_FnReadOID.walk (P : laws_FnReadOID.Pure) (a0 : Option Addr) (len0 cap0 : Nat) (z0 : List Int) (w : World) (w0 : (a0 = none ∧ len0 = 0 ∧ cap0 = 0 ∧ z0 = []) ∨ ∃ x, a0 = some x ∧ len0 ≤ cap0 ∧ cap0 ≤ maxLen ∧ z0.length = cap0 ∧ (∀ i, i < z0.length → w.cell? (x.add i) = some (.int .u8 (z0.getD i 0))) ∧ ∀ n ∈ z0, (Lit.int .u8 n).wf = true) (y0 : len0 * 1 ≤ 140737488351232) :
    Calls Try.prog 11 #[.slice a0 len0 cap0] w fun e w' => e = .returned (.bool true) ∧ Below w.heap.size w w' := by
  obtain ⟨l0, rfl, hr0, hm0, hw0, hc0⟩ := ReadsInt.ofRowC w0
  obtain ⟨k, h⟩ := P l0 hm0 y0 hw0
  refine (laws_FnReadOID.calls k _ _ l0 true w (Kd.C_of_reads (d := (0 : Int)) (h1 := fun _ => rfl) hr0) hc0 h rfl).mono ?_
  rintro e w' ⟨rfl, hd⟩
  exact ⟨rfl, hd⟩

end Go.Proofs.Ytapnkngcnlomhaa.QO
