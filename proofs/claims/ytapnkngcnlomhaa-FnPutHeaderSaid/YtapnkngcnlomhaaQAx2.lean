-- Written by a program of this work (wip/patch_print.py) for this claim.
import Derived.Test.YtapnkngcnlomhaaQAx0
import Derived.Test.YtapnkngcnlomhaaQAx1
namespace Go.Proofs.Ytapnkngcnlomhaa.QA
open Go.RowKit Go.Proofs.YtapnkngcnlomhaaW.PrintWords Go.Proofs.YtapnkngcnlomhaaW.PrintLast Go.Proofs.YtapnkngcnlomhaaW.PrintMore
attribute [local go_sem] max2_int min2_int max_two min_two max_three min_three max_four min_four   -- for this text's walks alone
set_option linter.unusedVariables false
set_option linter.unusedSimpArgs false

/-! ### asn1_ZZBool: function 38 -/
def asn1_ZZBool.f (l0 : List Int) : Option (Bool × Option Int) := (asn1_parseBool.f l0).bind fun bt130 => (some (bt130.1, bt130.2))
set_option maxHeartbeats 8000000 in
set_option maxRecDepth 100000 in
theorem asn1_ZZBool.calls (A0 : Option Addr) (c0 : Nat) (l0 : List Int) (r1 : Bool) (r2 : Option Int) (w : World) (hr0 : Kd.C (Kd.int .u8) w A0 l0.length l0) (hc0 : l0.length ≤ c0) (h : asn1_ZZBool.f l0 = some (r1, r2)) :
    Calls Try.prog 38 #[.slice A0 l0.length c0] w fun e w' => e = .returned (.tuple #[.bool r1, errW r2]) ∧ Drawn0 w w' := by
  have HR0 := Aside0.mk hr0
  have HC0 := Aside0.mk hc0
  clear hr0 hc0
  have H : ((asn1_parseBool.f l0).bind fun bt130 => (some (bt130.1, bt130.2))) = some (r1, r2) := h
  clear h
  replace H := Option.bind_eq_some_iff.mp H
  obtain ⟨⟨t130, t131⟩, A20, H⟩ := H
  replace H : (some (t130, t131)) = some (r1, r2) := H
  have A2 := Aside0.mk A20
  clear A20
  simp only [Option.some.injEq, Prod.mk.injEq] at H
  obtain ⟨rfl, rfl⟩ := H
  go_enter Try.func38, Try.ntmps38
  go_wp2_with (first | ((with_reducible refine gate_callee (f := 48) rfl ?_); refine goesL_ (some 5) rfl rfl Try.func48 (by kernel_rfl) rfl #[.slice A0 l0.length c0] rfl (by (try simp only [List.map_toArray, List.map_cons, List.map_nil]); first | done | rfl | (simp only [List.length_drop, List.length_take]; rfl)) ?_; (with_reducible refine (asn1_parseBool.calls _ _ l0 t130 t131 _ ?side1 ?side2 A2.out).mono ?_); (case side1 => repeat (first | exact HR0.out | (with_reducible refine Kd.C_alloc ?_ _) | (with_reducible refine Kd.C_drewN ?_ _) | (with_reducible refine Kd.C_drew ?_))); (case side2 => exact HC0.out); rintro e w' ⟨rfl, ⟨nd, rfl⟩⟩; refine ⟨_, rfl, ?_⟩; (try simp only [errW_none, errW_some])))
  go_ret2
  exact ⟨by first | rfl | (simp; done) | (simp [*]; done), by repeat (first | exact Drawn0.refl _ | apply Drawn0.step)⟩

/-! ### impl_ReadBool: function 16 -/
def impl_ReadBool.f (l0 : List Int) : Option (Bool × Bool) := (impl_short.f l0).bind fun t132 => (if t132 = true then ((impl_copied.f l0).bind fun t133 => ((asn1_ZZBool.f t133).bind fun bt136 => (if bt136.2.isNone = true then (some (bt136.1, true)) else (some (bt136.1, false))))) else (some (false, false)))
set_option maxHeartbeats 8000000 in
set_option maxRecDepth 100000 in
theorem impl_ReadBool.calls (A0 : Option Addr) (c0 : Nat) (l0 : List Int) (r1 : Bool) (r2 : Bool) (w : World) (hr0 : Kd.C (Kd.int .u8) w A0 l0.length l0) (hc0 : l0.length ≤ c0) (h : impl_ReadBool.f l0 = some (r1, r2)) :
    Calls Try.prog 16 #[.slice A0 l0.length c0] w fun e w' => e = .returned (.tuple #[.bool r1, .bool r2]) ∧ Below w.heap.size w w' := by
  have hu58 := Try.underlying58
  have HR0 := Aside0.mk hr0
  have HC0 := Aside0.mk hc0
  clear hr0 hc0
  have HB := Aside0.mk (Below.refl w.heap.size w)
  have H : ((impl_short.f l0).bind fun t132 => (if t132 = true then ((impl_copied.f l0).bind fun t133 => ((asn1_ZZBool.f t133).bind fun bt136 => (if bt136.2.isNone = true then (some (bt136.1, true)) else (some (bt136.1, false))))) else (some (false, false)))) = some (r1, r2) := h
  clear h
  replace H := Option.bind_eq_some_iff.mp H
  obtain ⟨t132, A20, H⟩ := H
  replace H : (if t132 = true then ((impl_copied.f l0).bind fun t133 => ((asn1_ZZBool.f t133).bind fun bt136 => (if bt136.2.isNone = true then (some (bt136.1, true)) else (some (bt136.1, false))))) else (some (false, false))) = some (r1, r2) := H
  have A2 := Aside0.mk A20
  clear A20
  by_cases c3 : t132 = true
  · subst c3
    have H1 : ((impl_copied.f l0).bind fun t133 => ((asn1_ZZBool.f t133).bind fun bt136 => (if bt136.2.isNone = true then (some (bt136.1, true)) else (some (bt136.1, false))))) = some (r1, r2) := by rw [if_pos rfl] at H; exact H
    clear H
    have H := H1
    clear H1
    replace H := Option.bind_eq_some_iff.mp H
    obtain ⟨t133, A40, H⟩ := H
    replace H : ((asn1_ZZBool.f t133).bind fun bt136 => (if bt136.2.isNone = true then (some (bt136.1, true)) else (some (bt136.1, false)))) = some (r1, r2) := H
    have A4 := Aside0.mk A40
    clear A40
    replace H := Option.bind_eq_some_iff.mp H
    obtain ⟨⟨t136, t137⟩, A50, H⟩ := H
    replace H : (if t137.isNone = true then (some (t136, true)) else (some (t136, false))) = some (r1, r2) := H
    have A5 := Aside0.mk A50
    clear A50
    rcases t137 with _ | q138
    · have H1 : (some (t136, true)) = some (r1, r2) := by rw [if_pos (show (none : Option Int).isNone = true by rfl)] at H; exact H
      clear H
      have H := H1
      clear H1
      try simp only [errW_none, errW_some]
      simp only [Option.some.injEq, Prod.mk.injEq] at H
      obtain ⟨rfl, rfl⟩ := H
      go_enter Try.func16, Try.ntmps16
      go_wp2_with (first | (go_at_call 35; (with_reducible refine (impl_short.calls _ _ l0 true _ ?side1 ?side2 A2.out).mono ?_); (case side1 => repeat (first | exact HR0.out | (with_reducible refine Kd.C_alloc ?_ _) | (with_reducible refine Kd.C_drewN ?_ _) | (with_reducible refine Kd.C_drew ?_))); (case side2 => exact HC0.out); rintro e w' ⟨rfl, ⟨nd, rfl⟩⟩; (try first | exact ⟨rfl, _, World.drewN_drewN _ _ _⟩ | exact ⟨rfl, _, Eq.trans (World.drewN_drewN _ _ _) (congrArg (World.drewN _) (Nat.add_assoc _ _ _))⟩)) | (go_at_call 37; (with_reducible refine (impl_copied.calls _ _ l0 t133 _ ?side1 ?side2 A4.out).mono ?_); (case side1 => repeat (first | exact HR0.out | (with_reducible refine Kd.C_alloc ?_ _) | (with_reducible refine Kd.C_drewN ?_ _) | (with_reducible refine Kd.C_drew ?_))); (case side2 => exact HC0.out); rintro e w6 ⟨v134, rfl, ho0, hb⟩; have n0_ := Aside0.mk (Kd.R_lower ho0 (below_size (by repeat (first | (with_reducible first | exact HB.out | apply below_alloc | apply pw_below_drewN | apply below_drew1) | exact HB.out)))); have n1_ := Aside0.mk (below_step (by repeat (first | (with_reducible first | exact HB.out | apply below_alloc | apply pw_below_drewN | apply below_drew1) | exact HB.out)) hb); clear HB; have HO135 := n0_; have HB := n1_; clear n0_ n1_; (try clear hb); (try clear hb2); (try clear hk); (try clear hi); (try clear ho0); obtain ⟨Ao7, co7, eo7⟩ := Kd.R_slice HO135.out; subst eo7) | (go_at_call 38; (with_reducible refine (asn1_ZZBool.calls _ _ t133 t136 none _ ?side1 ?side2 A5.out).mono ?_); (case side1 => repeat (first | exact (Kd.R_reads' HO135.out).2.2 | (with_reducible refine Kd.C_alloc ?_ _) | (with_reducible refine Kd.C_drewN ?_ _) | (with_reducible refine Kd.C_drew ?_))); (case side2 => exact (Kd.R_reads' HO135.out).2.1); rintro e w' ⟨rfl, ⟨nd, rfl⟩⟩; (try simp only [errW_none, errW_some]); (try first | exact ⟨rfl, _, World.drewN_drewN _ _ _⟩ | exact ⟨rfl, _, Eq.trans (World.drewN_drewN _ _ _) (congrArg (World.drewN _) (Nat.add_assoc _ _ _))⟩)))
      repeat (go_quiet (first | (go_at_call 35; (with_reducible refine (impl_short.calls _ _ l0 true _ ?side1 ?side2 A2.out).mono ?_); (case side1 => repeat (first | exact HR0.out | (with_reducible refine Kd.C_alloc ?_ _) | (with_reducible refine Kd.C_drewN ?_ _) | (with_reducible refine Kd.C_drew ?_))); (case side2 => exact HC0.out); rintro e w' ⟨rfl, ⟨nd, rfl⟩⟩; (try first | exact ⟨rfl, _, World.drewN_drewN _ _ _⟩ | exact ⟨rfl, _, Eq.trans (World.drewN_drewN _ _ _) (congrArg (World.drewN _) (Nat.add_assoc _ _ _))⟩)) | (go_at_call 37; (with_reducible refine (impl_copied.calls _ _ l0 t133 _ ?side1 ?side2 A4.out).mono ?_); (case side1 => repeat (first | exact HR0.out | (with_reducible refine Kd.C_alloc ?_ _) | (with_reducible refine Kd.C_drewN ?_ _) | (with_reducible refine Kd.C_drew ?_))); (case side2 => exact HC0.out); rintro e w6 ⟨v134, rfl, ho0, hb⟩; have n0_ := Aside0.mk (Kd.R_lower ho0 (below_size (by repeat (first | (with_reducible first | exact HB.out | apply below_alloc | apply pw_below_drewN | apply below_drew1) | exact HB.out)))); have n1_ := Aside0.mk (below_step (by repeat (first | (with_reducible first | exact HB.out | apply below_alloc | apply pw_below_drewN | apply below_drew1) | exact HB.out)) hb); clear HB; have HO135 := n0_; have HB := n1_; clear n0_ n1_; (try clear hb); (try clear hb2); (try clear hk); (try clear hi); (try clear ho0); obtain ⟨Ao7, co7, eo7⟩ := Kd.R_slice HO135.out; subst eo7) | (go_at_call 38; (with_reducible refine (asn1_ZZBool.calls _ _ t133 t136 none _ ?side1 ?side2 A5.out).mono ?_); (case side1 => repeat (first | exact (Kd.R_reads' HO135.out).2.2 | (with_reducible refine Kd.C_alloc ?_ _) | (with_reducible refine Kd.C_drewN ?_ _) | (with_reducible refine Kd.C_drew ?_))); (case side2 => exact (Kd.R_reads' HO135.out).2.1); rintro e w' ⟨rfl, ⟨nd, rfl⟩⟩; (try simp only [errW_none, errW_some]); (try first | exact ⟨rfl, _, World.drewN_drewN _ _ _⟩ | exact ⟨rfl, _, Eq.trans (World.drewN_drewN _ _ _) (congrArg (World.drewN _) (Nat.add_assoc _ _ _))⟩))); try go_wp2_with (first | (go_at_call 35; (with_reducible refine (impl_short.calls _ _ l0 true _ ?side1 ?side2 A2.out).mono ?_); (case side1 => repeat (first | exact HR0.out | (with_reducible refine Kd.C_alloc ?_ _) | (with_reducible refine Kd.C_drewN ?_ _) | (with_reducible refine Kd.C_drew ?_))); (case side2 => exact HC0.out); rintro e w' ⟨rfl, ⟨nd, rfl⟩⟩; (try first | exact ⟨rfl, _, World.drewN_drewN _ _ _⟩ | exact ⟨rfl, _, Eq.trans (World.drewN_drewN _ _ _) (congrArg (World.drewN _) (Nat.add_assoc _ _ _))⟩)) | (go_at_call 37; (with_reducible refine (impl_copied.calls _ _ l0 t133 _ ?side1 ?side2 A4.out).mono ?_); (case side1 => repeat (first | exact HR0.out | (with_reducible refine Kd.C_alloc ?_ _) | (with_reducible refine Kd.C_drewN ?_ _) | (with_reducible refine Kd.C_drew ?_))); (case side2 => exact HC0.out); rintro e w6 ⟨v134, rfl, ho0, hb⟩; have n0_ := Aside0.mk (Kd.R_lower ho0 (below_size (by repeat (first | (with_reducible first | exact HB.out | apply below_alloc | apply pw_below_drewN | apply below_drew1) | exact HB.out)))); have n1_ := Aside0.mk (below_step (by repeat (first | (with_reducible first | exact HB.out | apply below_alloc | apply pw_below_drewN | apply below_drew1) | exact HB.out)) hb); clear HB; have HO135 := n0_; have HB := n1_; clear n0_ n1_; (try clear hb); (try clear hb2); (try clear hk); (try clear hi); (try clear ho0); obtain ⟨Ao7, co7, eo7⟩ := Kd.R_slice HO135.out; subst eo7) | (go_at_call 38; (with_reducible refine (asn1_ZZBool.calls _ _ t133 t136 none _ ?side1 ?side2 A5.out).mono ?_); (case side1 => repeat (first | exact (Kd.R_reads' HO135.out).2.2 | (with_reducible refine Kd.C_alloc ?_ _) | (with_reducible refine Kd.C_drewN ?_ _) | (with_reducible refine Kd.C_drew ?_))); (case side2 => exact (Kd.R_reads' HO135.out).2.1); rintro e w' ⟨rfl, ⟨nd, rfl⟩⟩; (try simp only [errW_none, errW_some]); (try first | exact ⟨rfl, _, World.drewN_drewN _ _ _⟩ | exact ⟨rfl, _, Eq.trans (World.drewN_drewN _ _ _) (congrArg (World.drewN _) (Nat.add_assoc _ _ _))⟩))))
      go_ret2
      exact ⟨by first | rfl | (simp [errW_none, errW_some] <;> rfl) | (simp [*, errW_none, errW_some] <;> rfl), by repeat (first | (with_reducible first | exact HB.out | apply below_alloc | apply pw_below_drewN | apply below_drew1) | exact HB.out)⟩
    · have H1 : (some (t136, false)) = some (r1, r2) := by rw [if_neg (show ¬ (some q138).isNone = true by simp)] at H; exact H
      clear H
      have H := H1
      clear H1
      try simp only [errW_none, errW_some]
      simp only [Option.some.injEq, Prod.mk.injEq] at H
      obtain ⟨rfl, rfl⟩ := H
      go_enter Try.func16, Try.ntmps16
      go_wp2_with (first | (go_at_call 35; (with_reducible refine (impl_short.calls _ _ l0 true _ ?side1 ?side2 A2.out).mono ?_); (case side1 => repeat (first | exact HR0.out | (with_reducible refine Kd.C_alloc ?_ _) | (with_reducible refine Kd.C_drewN ?_ _) | (with_reducible refine Kd.C_drew ?_))); (case side2 => exact HC0.out); rintro e w' ⟨rfl, ⟨nd, rfl⟩⟩; (try first | exact ⟨rfl, _, World.drewN_drewN _ _ _⟩ | exact ⟨rfl, _, Eq.trans (World.drewN_drewN _ _ _) (congrArg (World.drewN _) (Nat.add_assoc _ _ _))⟩)) | (go_at_call 37; (with_reducible refine (impl_copied.calls _ _ l0 t133 _ ?side1 ?side2 A4.out).mono ?_); (case side1 => repeat (first | exact HR0.out | (with_reducible refine Kd.C_alloc ?_ _) | (with_reducible refine Kd.C_drewN ?_ _) | (with_reducible refine Kd.C_drew ?_))); (case side2 => exact HC0.out); rintro e w8 ⟨v134, rfl, ho0, hb⟩; have n0_ := Aside0.mk (Kd.R_lower ho0 (below_size (by repeat (first | (with_reducible first | exact HB.out | apply below_alloc | apply pw_below_drewN | apply below_drew1) | exact HB.out)))); have n1_ := Aside0.mk (below_step (by repeat (first | (with_reducible first | exact HB.out | apply below_alloc | apply pw_below_drewN | apply below_drew1) | exact HB.out)) hb); clear HB; have HO135 := n0_; have HB := n1_; clear n0_ n1_; (try clear hb); (try clear hb2); (try clear hk); (try clear hi); (try clear ho0); obtain ⟨Ao9, co9, eo9⟩ := Kd.R_slice HO135.out; subst eo9) | (go_at_call 38; (with_reducible refine (asn1_ZZBool.calls _ _ t133 t136 (some q138) _ ?side1 ?side2 A5.out).mono ?_); (case side1 => repeat (first | exact (Kd.R_reads' HO135.out).2.2 | (with_reducible refine Kd.C_alloc ?_ _) | (with_reducible refine Kd.C_drewN ?_ _) | (with_reducible refine Kd.C_drew ?_))); (case side2 => exact (Kd.R_reads' HO135.out).2.1); rintro e w' ⟨rfl, ⟨nd, rfl⟩⟩; (try simp only [errW_none, errW_some]); (try first | exact ⟨rfl, _, World.drewN_drewN _ _ _⟩ | exact ⟨rfl, _, Eq.trans (World.drewN_drewN _ _ _) (congrArg (World.drewN _) (Nat.add_assoc _ _ _))⟩)))
      repeat (go_quiet (first | (go_at_call 35; (with_reducible refine (impl_short.calls _ _ l0 true _ ?side1 ?side2 A2.out).mono ?_); (case side1 => repeat (first | exact HR0.out | (with_reducible refine Kd.C_alloc ?_ _) | (with_reducible refine Kd.C_drewN ?_ _) | (with_reducible refine Kd.C_drew ?_))); (case side2 => exact HC0.out); rintro e w' ⟨rfl, ⟨nd, rfl⟩⟩; (try first | exact ⟨rfl, _, World.drewN_drewN _ _ _⟩ | exact ⟨rfl, _, Eq.trans (World.drewN_drewN _ _ _) (congrArg (World.drewN _) (Nat.add_assoc _ _ _))⟩)) | (go_at_call 37; (with_reducible refine (impl_copied.calls _ _ l0 t133 _ ?side1 ?side2 A4.out).mono ?_); (case side1 => repeat (first | exact HR0.out | (with_reducible refine Kd.C_alloc ?_ _) | (with_reducible refine Kd.C_drewN ?_ _) | (with_reducible refine Kd.C_drew ?_))); (case side2 => exact HC0.out); rintro e w8 ⟨v134, rfl, ho0, hb⟩; have n0_ := Aside0.mk (Kd.R_lower ho0 (below_size (by repeat (first | (with_reducible first | exact HB.out | apply below_alloc | apply pw_below_drewN | apply below_drew1) | exact HB.out)))); have n1_ := Aside0.mk (below_step (by repeat (first | (with_reducible first | exact HB.out | apply below_alloc | apply pw_below_drewN | apply below_drew1) | exact HB.out)) hb); clear HB; have HO135 := n0_; have HB := n1_; clear n0_ n1_; (try clear hb); (try clear hb2); (try clear hk); (try clear hi); (try clear ho0); obtain ⟨Ao9, co9, eo9⟩ := Kd.R_slice HO135.out; subst eo9) | (go_at_call 38; (with_reducible refine (asn1_ZZBool.calls _ _ t133 t136 (some q138) _ ?side1 ?side2 A5.out).mono ?_); (case side1 => repeat (first | exact (Kd.R_reads' HO135.out).2.2 | (with_reducible refine Kd.C_alloc ?_ _) | (with_reducible refine Kd.C_drewN ?_ _) | (with_reducible refine Kd.C_drew ?_))); (case side2 => exact (Kd.R_reads' HO135.out).2.1); rintro e w' ⟨rfl, ⟨nd, rfl⟩⟩; (try simp only [errW_none, errW_some]); (try first | exact ⟨rfl, _, World.drewN_drewN _ _ _⟩ | exact ⟨rfl, _, Eq.trans (World.drewN_drewN _ _ _) (congrArg (World.drewN _) (Nat.add_assoc _ _ _))⟩))); try go_wp2_with (first | (go_at_call 35; (with_reducible refine (impl_short.calls _ _ l0 true _ ?side1 ?side2 A2.out).mono ?_); (case side1 => repeat (first | exact HR0.out | (with_reducible refine Kd.C_alloc ?_ _) | (with_reducible refine Kd.C_drewN ?_ _) | (with_reducible refine Kd.C_drew ?_))); (case side2 => exact HC0.out); rintro e w' ⟨rfl, ⟨nd, rfl⟩⟩; (try first | exact ⟨rfl, _, World.drewN_drewN _ _ _⟩ | exact ⟨rfl, _, Eq.trans (World.drewN_drewN _ _ _) (congrArg (World.drewN _) (Nat.add_assoc _ _ _))⟩)) | (go_at_call 37; (with_reducible refine (impl_copied.calls _ _ l0 t133 _ ?side1 ?side2 A4.out).mono ?_); (case side1 => repeat (first | exact HR0.out | (with_reducible refine Kd.C_alloc ?_ _) | (with_reducible refine Kd.C_drewN ?_ _) | (with_reducible refine Kd.C_drew ?_))); (case side2 => exact HC0.out); rintro e w8 ⟨v134, rfl, ho0, hb⟩; have n0_ := Aside0.mk (Kd.R_lower ho0 (below_size (by repeat (first | (with_reducible first | exact HB.out | apply below_alloc | apply pw_below_drewN | apply below_drew1) | exact HB.out)))); have n1_ := Aside0.mk (below_step (by repeat (first | (with_reducible first | exact HB.out | apply below_alloc | apply pw_below_drewN | apply below_drew1) | exact HB.out)) hb); clear HB; have HO135 := n0_; have HB := n1_; clear n0_ n1_; (try clear hb); (try clear hb2); (try clear hk); (try clear hi); (try clear ho0); obtain ⟨Ao9, co9, eo9⟩ := Kd.R_slice HO135.out; subst eo9) | (go_at_call 38; (with_reducible refine (asn1_ZZBool.calls _ _ t133 t136 (some q138) _ ?side1 ?side2 A5.out).mono ?_); (case side1 => repeat (first | exact (Kd.R_reads' HO135.out).2.2 | (with_reducible refine Kd.C_alloc ?_ _) | (with_reducible refine Kd.C_drewN ?_ _) | (with_reducible refine Kd.C_drew ?_))); (case side2 => exact (Kd.R_reads' HO135.out).2.1); rintro e w' ⟨rfl, ⟨nd, rfl⟩⟩; (try simp only [errW_none, errW_some]); (try first | exact ⟨rfl, _, World.drewN_drewN _ _ _⟩ | exact ⟨rfl, _, Eq.trans (World.drewN_drewN _ _ _) (congrArg (World.drewN _) (Nat.add_assoc _ _ _))⟩))))
      go_ret2
      exact ⟨by first | rfl | (simp [errW_none, errW_some] <;> rfl) | (simp [*, errW_none, errW_some] <;> rfl), by repeat (first | (with_reducible first | exact HB.out | apply below_alloc | apply pw_below_drewN | apply below_drew1) | exact HB.out)⟩
  · replace c3 := Bool.eq_false_iff.mpr c3
    subst c3
    have H1 : (some (false, false)) = some (r1, r2) := by rw [if_neg (show ¬ (false = true) by decide)] at H; exact H
    clear H
    have H := H1
    clear H1
    simp only [Option.some.injEq, Prod.mk.injEq] at H
    obtain ⟨rfl, rfl⟩ := H
    go_enter Try.func16, Try.ntmps16
    go_wp2_with (first | (go_at_call 35; (with_reducible refine (impl_short.calls _ _ l0 false _ ?side1 ?side2 A2.out).mono ?_); (case side1 => repeat (first | exact HR0.out | (with_reducible refine Kd.C_alloc ?_ _) | (with_reducible refine Kd.C_drewN ?_ _) | (with_reducible refine Kd.C_drew ?_))); (case side2 => exact HC0.out); rintro e w' ⟨rfl, ⟨nd, rfl⟩⟩; (try first | exact ⟨rfl, _, World.drewN_drewN _ _ _⟩ | exact ⟨rfl, _, Eq.trans (World.drewN_drewN _ _ _) (congrArg (World.drewN _) (Nat.add_assoc _ _ _))⟩)))
    repeat (go_quiet (first | (go_at_call 35; (with_reducible refine (impl_short.calls _ _ l0 false _ ?side1 ?side2 A2.out).mono ?_); (case side1 => repeat (first | exact HR0.out | (with_reducible refine Kd.C_alloc ?_ _) | (with_reducible refine Kd.C_drewN ?_ _) | (with_reducible refine Kd.C_drew ?_))); (case side2 => exact HC0.out); rintro e w' ⟨rfl, ⟨nd, rfl⟩⟩; (try first | exact ⟨rfl, _, World.drewN_drewN _ _ _⟩ | exact ⟨rfl, _, Eq.trans (World.drewN_drewN _ _ _) (congrArg (World.drewN _) (Nat.add_assoc _ _ _))⟩))); try go_wp2_with (first | (go_at_call 35; (with_reducible refine (impl_short.calls _ _ l0 false _ ?side1 ?side2 A2.out).mono ?_); (case side1 => repeat (first | exact HR0.out | (with_reducible refine Kd.C_alloc ?_ _) | (with_reducible refine Kd.C_drewN ?_ _) | (with_reducible refine Kd.C_drew ?_))); (case side2 => exact HC0.out); rintro e w' ⟨rfl, ⟨nd, rfl⟩⟩; (try first | exact ⟨rfl, _, World.drewN_drewN _ _ _⟩ | exact ⟨rfl, _, Eq.trans (World.drewN_drewN _ _ _) (congrArg (World.drewN _) (Nat.add_assoc _ _ _))⟩))))
    go_ret2
    exact ⟨by first | rfl | (simp [errW_none, errW_some] <;> rfl) | (simp [*, errW_none, errW_some] <;> rfl), by repeat (first | (with_reducible first | exact HB.out | apply below_alloc | apply pw_below_drewN | apply below_drew1) | exact HB.out)⟩

/-! ### laws_FnReadBool: function 4 -/
def laws_FnReadBool.f (l0 : List Int) : Option (Bool) := if (l0.length : Int) > 2147483647 then (some true) else (if (l0.length : Int) > 100 then (some true) else (if (l0.length : Int) = 1 then (if 0 < (l0.length : Int) then (if (rd l0 0) = 0 then ((impl_ReadBool.f l0).bind fun bt140 => ((impl_ReadBool.f (([255] : List Int))).bind fun bt145 => (if (bt140.2 == true) = true then (if (bt140.1 == ((rd l0 0) == 255)) = true then (if bt145.1 = true then (some bt145.2) else (some false)) else (some false)) else (some false)))) else ((impl_ReadBool.f l0).bind fun bt149 => ((impl_ReadBool.f (([255] : List Int))).bind fun bt154 => (if (bt149.2 == ((rd l0 0) == 255)) = true then (if ((rd l0 0) = 255) then (if (bt149.1 == ((rd l0 0) == 255)) = true then (if bt154.1 = true then (some bt154.2) else (some false)) else (some false)) else (if bt154.1 = true then (some bt154.2) else (some false))) else (some false))))) else (none)) else ((impl_ReadBool.f l0).bind fun bt157 => ((impl_ReadBool.f (([255] : List Int))).bind fun bt162 => (if (bt157.2 == false) = true then (if bt162.1 = true then (some bt162.2) else (some false)) else (some false))))))
set_option maxHeartbeats 8000000 in
set_option maxRecDepth 100000 in
theorem laws_FnReadBool.calls (A0 : Option Addr) (c0 : Nat) (l0 : List Int) (r : Bool) (w : World) (hr0 : Kd.C (Kd.int .u8) w A0 l0.length l0) (hc0 : l0.length ≤ c0) (h : laws_FnReadBool.f l0 = some r) :
    Calls Try.prog 4 #[.slice A0 l0.length c0] w fun e w' => e = .returned (.bool r) ∧ Below w.heap.size w w' := by
  have HR0 := Aside0.mk hr0
  have HC0 := Aside0.mk hc0
  clear hr0 hc0
  have HB := Aside0.mk (Below.refl w.heap.size w)
  have H : (if (l0.length : Int) > 2147483647 then (some true) else (if (l0.length : Int) > 100 then (some true) else (if (l0.length : Int) = 1 then (if 0 < (l0.length : Int) then (if (rd l0 0) = 0 then ((impl_ReadBool.f l0).bind fun bt140 => ((impl_ReadBool.f (([255] : List Int))).bind fun bt145 => (if (bt140.2 == true) = true then (if (bt140.1 == ((rd l0 0) == 255)) = true then (if bt145.1 = true then (some bt145.2) else (some false)) else (some false)) else (some false)))) else ((impl_ReadBool.f l0).bind fun bt149 => ((impl_ReadBool.f (([255] : List Int))).bind fun bt154 => (if (bt149.2 == ((rd l0 0) == 255)) = true then (if ((rd l0 0) = 255) then (if (bt149.1 == ((rd l0 0) == 255)) = true then (if bt154.1 = true then (some bt154.2) else (some false)) else (some false)) else (if bt154.1 = true then (some bt154.2) else (some false))) else (some false))))) else (none)) else ((impl_ReadBool.f l0).bind fun bt157 => ((impl_ReadBool.f (([255] : List Int))).bind fun bt162 => (if (bt157.2 == false) = true then (if bt162.1 = true then (some bt162.2) else (some false)) else (some false))))))) = some r := h
  clear h
  by_cases c2 : (l0.length : Int) > 2147483647
  · rw [if_pos c2] at H
    have c2b0 : decide (2147483647 < (l0.length : Int)) = true := decide_eq_true c2
    have c2b1 : decide (2147483647 < l0.length) = true := decide_eq_true (by omega)
    clear c2
    obtain rfl := Option.some.inj H
    go_enter Try.func4, Try.ntmps4
    go_wp2
    go_ret
    exact ⟨by first | rfl | (simp [errW_none, errW_some] <;> rfl) | (simp [*, errW_none, errW_some] <;> rfl), by repeat (first | (with_reducible first | exact HB.out | apply below_alloc | apply pw_below_drewN | apply below_drew1) | exact HB.out)⟩
  · rw [if_neg c2] at H
    have c2b0 : decide (2147483647 < (l0.length : Int)) = false := decide_eq_false c2
    have c2b1 : decide (2147483647 < l0.length) = false := decide_eq_false (by omega)
    clear c2
    by_cases c3 : (l0.length : Int) > 100
    · rw [if_pos c3] at H
      have c3b0 : decide (100 < (l0.length : Int)) = true := decide_eq_true c3
      have c3b1 : decide (100 < l0.length) = true := decide_eq_true (by omega)
      clear c3
      obtain rfl := Option.some.inj H
      go_enter Try.func4, Try.ntmps4
      go_wp2
      go_ret
      exact ⟨by first | rfl | (simp [errW_none, errW_some] <;> rfl) | (simp [*, errW_none, errW_some] <;> rfl), by repeat (first | (with_reducible first | exact HB.out | apply below_alloc | apply pw_below_drewN | apply below_drew1) | exact HB.out)⟩
    · rw [if_neg c3] at H
      have c3b0 : decide (100 < (l0.length : Int)) = false := decide_eq_false c3
      have c3b1 : decide (100 < l0.length) = false := decide_eq_false (by omega)
      clear c3
      by_cases c4 : (l0.length : Int) = 1
      · rw [if_pos c4] at H
        have c4b0 : ((l0.length : Int) == 1) = true := beq_iff_eq.mpr c4
        have c4b1 : ((l0.length : Int) != 1) = false := bne_eq_false_iff_eq.mpr c4
        clear c4
        by_cases c5 : 0 < (l0.length : Int)
        · rw [if_pos c5] at H
          have c5b0 : decide (0 < (l0.length : Int)) = true := decide_eq_true c5
          have c5b1 : decide (0 < l0.length) = true := decide_eq_true (by omega)
          clear c5
          by_cases c6 : (rd l0 0) = 0
          · rw [if_pos c6] at H
            have c6b0 : ((rd l0 0) == 0) = true := beq_iff_eq.mpr c6
            have c6b1 : ((rd l0 0) != 0) = false := bne_eq_false_iff_eq.mpr c6
            clear c6
            replace H := Option.bind_eq_some_iff.mp H
            obtain ⟨⟨t140, t141⟩, A70, H⟩ := H
            replace H : ((impl_ReadBool.f (([255] : List Int))).bind fun bt145 => (if (t141 == true) = true then (if (t140 == ((rd l0 0) == 255)) = true then (if bt145.1 = true then (some bt145.2) else (some false)) else (some false)) else (some false))) = some r := H
            have A7 := Aside0.mk A70
            clear A70
            obtain ⟨y142, hy142⟩ : ∃ y_ : List Int, y_ = (([255] : List Int)) := ⟨_, rfl⟩
            replace H : ((impl_ReadBool.f y142).bind fun bt145 => (if (t141 == true) = true then (if (t140 == ((rd l0 0) == 255)) = true then (if bt145.1 = true then (some bt145.2) else (some false)) else (some false)) else (some false))) = some r := by first | (rw [hy142]; with_reducible exact H) | (have H2_ := (Option.bind_some _ _).symm.trans H; rw [hy142]; with_reducible exact H2_) | (have H2_ := (Option.bind_some _ _).symm.trans H; with_reducible exact H2_) | with_reducible exact H | (rw [hy142]; exact H) | exact H
            have Ny142 := Aside0.mk hy142
            clear hy142
            replace H := Option.bind_eq_some_iff.mp H
            obtain ⟨⟨t145, t146⟩, A80, H⟩ := H
            replace H : (if (t141 == true) = true then (if (t140 == ((rd l0 0) == 255)) = true then (if t145 = true then (some t146) else (some false)) else (some false)) else (some false)) = some r := H
            have A8 := Aside0.mk A80
            clear A80
            by_cases c9 : (t141 == true) = true
            · rw [if_pos c9] at H
              have c9b0 : (t141 == true) = true := c9
              (try (have c9b1 : t141 = true := bool_eq_of _ _ (by simpa using c9)))
              (try (have c9b2 : decide (t141 = true) = true := by simpa using c9))
              (try (have c9b3 : (t141 == true) = true := by simpa using c9))
              clear c9
              by_cases c10 : (t140 == ((rd l0 0) == 255)) = true
              · rw [if_pos c10] at H
                have c10b0 : (t140 == ((rd l0 0) == 255)) = true := c10
                (try (have c10b1 : t140 = ((rd l0 0) == 255) := bool_eq_of _ _ (by simpa using c10)))
                (try (have c10b2 : decide (t140 = ((rd l0 0) == 255)) = true := by simpa using c10))
                (try (have c10b3 : (t140 == ((rd l0 0) == 255)) = true := by simpa using c10))
                clear c10
                by_cases c11 : t145 = true
                · subst c11
                  have H1 : (some t146) = some r := by rw [if_pos rfl] at H; exact H
                  clear H
                  have H := H1
                  clear H1
                  obtain rfl := Option.some.inj H
                  have p139 : 0 ≤ (0 : Int) := (by omega)
                  have q139 : 0 < (l0.length : Int) := of_decide_eq_true (by first | (with_reducible assumption) | assumption)
                  obtain ⟨ad139, e139, hx139_0⟩ := Kd.at_int HR0.out 0 p139 q139
                  cases e139
                  have qi139 : (0 < l0.length) = True := eq_true (by omega)
                  (try rw [show ((0 : Int)).toNat = 0 from rfl] at hx139_0)
                  (try rw [Addr.add_zero'] at hx139_0)
                  replace p139 := eq_true p139
                  replace q139 := eq_true q139
                  go_enter Try.func4, Try.ntmps4
                  go_wp2_with (first | ((with_reducible refine gate_callee (f := 16) rfl ?_); refine goesL_ (some 31) rfl rfl Try.func16 (by kernel_rfl) rfl #[.slice (some ad139) l0.length c0] rfl (by (try simp only [List.map_toArray, List.map_cons, List.map_nil]); first | done | rfl | (simp only [List.length_drop, List.length_take]; rfl)) ?_; (with_reducible refine (impl_ReadBool.calls _ _ l0 t140 t141 _ ?side1 ?side2 A7.out).mono ?_); (case side1 => repeat (first | exact HR0.out | (with_reducible refine Kd.C_alloc ?_ _) | (with_reducible refine Kd.C_drewN ?_ _) | (with_reducible refine Kd.C_drew ?_))); (case side2 => exact HC0.out); rintro e w12 ⟨rfl, hb⟩; refine ⟨_, rfl, ?_⟩; have n0_ := Aside0.mk (below_step (by repeat (first | (with_reducible first | exact HB.out | apply below_alloc | apply pw_below_drewN | apply below_drew1) | exact HB.out)) hb); clear HB; have HB := n0_; clear n0_; (try clear hb); (try clear hb2); (try clear hk); (try clear hi)) | ((with_reducible refine gate_dst (N := 35) rfl ?_); refine Kd.R_lit (Kd.int .u8) _ 5 ?hg (N := 35) ?hd (xs := ([255] : List Int)) (inner := [.int .u8 255]) (ok := fun _ => True) (okp := fun _ => True) ?hr ?hp (fun _ hk => hk) trivial (Below.refl _ _) (Nat.le_refl _) (by simp) ?_; (case hd => rfl); (case hg => rfl); (case hr => first | (go_simp; done) | (go_simp; rfl)); (case hp => exact (Reps.one (show Kd.M (Kd.int .u8) _ _ _ 255 [.int .u8 255] from rfl) (Reps.none _ _))); intro v143 w13 ho14 hb hg_ hnew_; clear hg_ hnew_; (first | rw [← Ny142.out] at ho14 | (simp only [Int.reduceToNat] at ho14; rw [← Ny142.out] at ho14)); have n0_ := Aside0.mk (Kd.R_lower ho14 (below_size (by repeat (first | (with_reducible first | exact HB.out | apply below_alloc | apply pw_below_drewN | apply below_drew1) | exact HB.out)))); have n1_ := Aside0.mk (below_step (by repeat (first | (with_reducible first | exact HB.out | apply below_alloc | apply pw_below_drewN | apply below_drew1) | exact HB.out)) hb); clear HB; have HO144 := n0_; have HB := n1_; clear n0_ n1_; clear hb ho14; obtain ⟨Ao15, co15, eo15⟩ := Kd.R_slice HO144.out; subst eo15) | ((with_reducible refine gate_callee (f := 16) rfl ?_); refine goesL_ (some 36) rfl rfl Try.func16 (by kernel_rfl) rfl #[.slice Ao15 y142.length co15] rfl (by (try simp only [List.map_toArray, List.map_cons, List.map_nil]); first | done | rfl | (simp only [List.length_drop, List.length_take]; rfl)) ?_; (with_reducible refine (impl_ReadBool.calls _ _ y142 true t146 _ ?side1 ?side2 A8.out).mono ?_); (case side1 => repeat (first | exact (Kd.R_reads' HO144.out).2.2 | (with_reducible refine Kd.C_alloc ?_ _) | (with_reducible refine Kd.C_drewN ?_ _) | (with_reducible refine Kd.C_drew ?_))); (case side2 => exact (Kd.R_reads' HO144.out).2.1); rintro e w16 ⟨rfl, hb⟩; refine ⟨_, rfl, ?_⟩; have n0_ := Aside0.mk (Kd.R_below (by (with_reducible repeat (first | apply Kd.R_alloc | apply Kd.R_drewN | apply Kd.R_drew)); exact HO144.out) hb); have n1_ := Aside0.mk (below_step (by repeat (first | (with_reducible first | exact HB.out | apply below_alloc | apply pw_below_drewN | apply below_drew1) | exact HB.out)) hb); clear HO144; clear HB; have HO144 := n0_; have HB := n1_; clear n0_ n1_; (try clear hb); (try clear hb2); (try clear hk); (try clear hi); have p147 : 0 ≤ (0 : Int) := (by omega); have q147 : 0 < (l0.length : Int) := of_decide_eq_true (by first | (with_reducible assumption) | assumption); obtain ⟨ad147, e147, hx147_0⟩ := Kd.at_int HR0.out 0 p147 q147; obtain rfl : ad139 = ad147 := (by injection e147); have qi147 : (0 < l0.length) = True := eq_true (by omega); (try rw [show ((0 : Int)).toNat = 0 from rfl] at hx147_0); (try rw [Addr.add_zero'] at hx147_0); replace hx147_0 := (HB.out.cell (World.block_lt_of_cell? w _ hx147_0)).trans hx147_0; replace p147 := eq_true p147; replace q147 := eq_true q147))
                  go_ret
                  exact ⟨by first | rfl | (simp [errW_none, errW_some] <;> rfl) | (simp [*, errW_none, errW_some] <;> rfl), by repeat (first | (with_reducible first | exact HB.out | apply below_alloc | apply pw_below_drewN | apply below_drew1) | exact HB.out)⟩
                · replace c11 := Bool.eq_false_iff.mpr c11
                  subst c11
                  have H1 : (some false) = some r := by rw [if_neg (show ¬ (false = true) by decide)] at H; exact H
                  clear H
                  have H := H1
                  clear H1
                  obtain rfl := Option.some.inj H
                  have p139 : 0 ≤ (0 : Int) := (by omega)
                  have q139 : 0 < (l0.length : Int) := of_decide_eq_true (by first | (with_reducible assumption) | assumption)
                  obtain ⟨ad139, e139, hx139_0⟩ := Kd.at_int HR0.out 0 p139 q139
                  cases e139
                  have qi139 : (0 < l0.length) = True := eq_true (by omega)
                  (try rw [show ((0 : Int)).toNat = 0 from rfl] at hx139_0)
                  (try rw [Addr.add_zero'] at hx139_0)
                  replace p139 := eq_true p139
                  replace q139 := eq_true q139
                  go_enter Try.func4, Try.ntmps4
                  go_wp2_with (first | ((with_reducible refine gate_callee (f := 16) rfl ?_); refine goesL_ (some 31) rfl rfl Try.func16 (by kernel_rfl) rfl #[.slice (some ad139) l0.length c0] rfl (by (try simp only [List.map_toArray, List.map_cons, List.map_nil]); first | done | rfl | (simp only [List.length_drop, List.length_take]; rfl)) ?_; (with_reducible refine (impl_ReadBool.calls _ _ l0 t140 t141 _ ?side1 ?side2 A7.out).mono ?_); (case side1 => repeat (first | exact HR0.out | (with_reducible refine Kd.C_alloc ?_ _) | (with_reducible refine Kd.C_drewN ?_ _) | (with_reducible refine Kd.C_drew ?_))); (case side2 => exact HC0.out); rintro e w17 ⟨rfl, hb⟩; refine ⟨_, rfl, ?_⟩; have n0_ := Aside0.mk (below_step (by repeat (first | (with_reducible first | exact HB.out | apply below_alloc | apply pw_below_drewN | apply below_drew1) | exact HB.out)) hb); clear HB; have HB := n0_; clear n0_; (try clear hb); (try clear hb2); (try clear hk); (try clear hi)) | ((with_reducible refine gate_dst (N := 35) rfl ?_); refine Kd.R_lit (Kd.int .u8) _ 5 ?hg (N := 35) ?hd (xs := ([255] : List Int)) (inner := [.int .u8 255]) (ok := fun _ => True) (okp := fun _ => True) ?hr ?hp (fun _ hk => hk) trivial (Below.refl _ _) (Nat.le_refl _) (by simp) ?_; (case hd => rfl); (case hg => rfl); (case hr => first | (go_simp; done) | (go_simp; rfl)); (case hp => exact (Reps.one (show Kd.M (Kd.int .u8) _ _ _ 255 [.int .u8 255] from rfl) (Reps.none _ _))); intro v143 w18 ho19 hb hg_ hnew_; clear hg_ hnew_; (first | rw [← Ny142.out] at ho19 | (simp only [Int.reduceToNat] at ho19; rw [← Ny142.out] at ho19)); have n0_ := Aside0.mk (Kd.R_lower ho19 (below_size (by repeat (first | (with_reducible first | exact HB.out | apply below_alloc | apply pw_below_drewN | apply below_drew1) | exact HB.out)))); have n1_ := Aside0.mk (below_step (by repeat (first | (with_reducible first | exact HB.out | apply below_alloc | apply pw_below_drewN | apply below_drew1) | exact HB.out)) hb); clear HB; have HO144 := n0_; have HB := n1_; clear n0_ n1_; clear hb ho19; obtain ⟨Ao20, co20, eo20⟩ := Kd.R_slice HO144.out; subst eo20) | ((with_reducible refine gate_callee (f := 16) rfl ?_); refine goesL_ (some 36) rfl rfl Try.func16 (by kernel_rfl) rfl #[.slice Ao20 y142.length co20] rfl (by (try simp only [List.map_toArray, List.map_cons, List.map_nil]); first | done | rfl | (simp only [List.length_drop, List.length_take]; rfl)) ?_; (with_reducible refine (impl_ReadBool.calls _ _ y142 false t146 _ ?side1 ?side2 A8.out).mono ?_); (case side1 => repeat (first | exact (Kd.R_reads' HO144.out).2.2 | (with_reducible refine Kd.C_alloc ?_ _) | (with_reducible refine Kd.C_drewN ?_ _) | (with_reducible refine Kd.C_drew ?_))); (case side2 => exact (Kd.R_reads' HO144.out).2.1); rintro e w21 ⟨rfl, hb⟩; refine ⟨_, rfl, ?_⟩; have n0_ := Aside0.mk (Kd.R_below (by (with_reducible repeat (first | apply Kd.R_alloc | apply Kd.R_drewN | apply Kd.R_drew)); exact HO144.out) hb); have n1_ := Aside0.mk (below_step (by repeat (first | (with_reducible first | exact HB.out | apply below_alloc | apply pw_below_drewN | apply below_drew1) | exact HB.out)) hb); clear HO144; clear HB; have HO144 := n0_; have HB := n1_; clear n0_ n1_; (try clear hb); (try clear hb2); (try clear hk); (try clear hi); have p147 : 0 ≤ (0 : Int) := (by omega); have q147 : 0 < (l0.length : Int) := of_decide_eq_true (by first | (with_reducible assumption) | assumption); obtain ⟨ad147, e147, hx147_0⟩ := Kd.at_int HR0.out 0 p147 q147; obtain rfl : ad139 = ad147 := (by injection e147); have qi147 : (0 < l0.length) = True := eq_true (by omega); (try rw [show ((0 : Int)).toNat = 0 from rfl] at hx147_0); (try rw [Addr.add_zero'] at hx147_0); replace hx147_0 := (HB.out.cell (World.block_lt_of_cell? w _ hx147_0)).trans hx147_0; replace p147 := eq_true p147; replace q147 := eq_true q147))
                  go_ret
                  exact ⟨by first | rfl | (simp [errW_none, errW_some] <;> rfl) | (simp [*, errW_none, errW_some] <;> rfl), by repeat (first | (with_reducible first | exact HB.out | apply below_alloc | apply pw_below_drewN | apply below_drew1) | exact HB.out)⟩
              · rw [if_neg c10] at H
                have c10b0 : (t140 == ((rd l0 0) == 255)) = false := by simpa using c10
                (try (have c10b1 : t140 = !(((rd l0 0) == 255)) := bool_ne_of _ _ (by simpa using c10)))
                (try (have c10b2 : decide (t140 = ((rd l0 0) == 255)) = false := by simpa using c10))
                (try (have c10b3 : (t140 == ((rd l0 0) == 255)) = false := by simpa using c10))
                (try (have c10b4 : ¬ (t140 = ((rd l0 0) == 255)) := by simpa using c10))
                clear c10
                obtain rfl := Option.some.inj H
                have p139 : 0 ≤ (0 : Int) := (by omega)
                have q139 : 0 < (l0.length : Int) := of_decide_eq_true (by first | (with_reducible assumption) | assumption)
                obtain ⟨ad139, e139, hx139_0⟩ := Kd.at_int HR0.out 0 p139 q139
                cases e139
                have qi139 : (0 < l0.length) = True := eq_true (by omega)
                (try rw [show ((0 : Int)).toNat = 0 from rfl] at hx139_0)
                (try rw [Addr.add_zero'] at hx139_0)
                replace p139 := eq_true p139
                replace q139 := eq_true q139
                go_enter Try.func4, Try.ntmps4
                go_wp2_with (first | ((with_reducible refine gate_callee (f := 16) rfl ?_); refine goesL_ (some 31) rfl rfl Try.func16 (by kernel_rfl) rfl #[.slice (some ad139) l0.length c0] rfl (by (try simp only [List.map_toArray, List.map_cons, List.map_nil]); first | done | rfl | (simp only [List.length_drop, List.length_take]; rfl)) ?_; (with_reducible refine (impl_ReadBool.calls _ _ l0 t140 t141 _ ?side1 ?side2 A7.out).mono ?_); (case side1 => repeat (first | exact HR0.out | (with_reducible refine Kd.C_alloc ?_ _) | (with_reducible refine Kd.C_drewN ?_ _) | (with_reducible refine Kd.C_drew ?_))); (case side2 => exact HC0.out); rintro e w22 ⟨rfl, hb⟩; refine ⟨_, rfl, ?_⟩; have n0_ := Aside0.mk (below_step (by repeat (first | (with_reducible first | exact HB.out | apply below_alloc | apply pw_below_drewN | apply below_drew1) | exact HB.out)) hb); clear HB; have HB := n0_; clear n0_; (try clear hb); (try clear hb2); (try clear hk); (try clear hi)) | ((with_reducible refine gate_dst (N := 35) rfl ?_); refine Kd.R_lit (Kd.int .u8) _ 5 ?hg (N := 35) ?hd (xs := ([255] : List Int)) (inner := [.int .u8 255]) (ok := fun _ => True) (okp := fun _ => True) ?hr ?hp (fun _ hk => hk) trivial (Below.refl _ _) (Nat.le_refl _) (by simp) ?_; (case hd => rfl); (case hg => rfl); (case hr => first | (go_simp; done) | (go_simp; rfl)); (case hp => exact (Reps.one (show Kd.M (Kd.int .u8) _ _ _ 255 [.int .u8 255] from rfl) (Reps.none _ _))); intro v143 w23 ho24 hb hg_ hnew_; clear hg_ hnew_; (first | rw [← Ny142.out] at ho24 | (simp only [Int.reduceToNat] at ho24; rw [← Ny142.out] at ho24)); have n0_ := Aside0.mk (Kd.R_lower ho24 (below_size (by repeat (first | (with_reducible first | exact HB.out | apply below_alloc | apply pw_below_drewN | apply below_drew1) | exact HB.out)))); have n1_ := Aside0.mk (below_step (by repeat (first | (with_reducible first | exact HB.out | apply below_alloc | apply pw_below_drewN | apply below_drew1) | exact HB.out)) hb); clear HB; have HO144 := n0_; have HB := n1_; clear n0_ n1_; clear hb ho24; obtain ⟨Ao25, co25, eo25⟩ := Kd.R_slice HO144.out; subst eo25) | ((with_reducible refine gate_callee (f := 16) rfl ?_); refine goesL_ (some 36) rfl rfl Try.func16 (by kernel_rfl) rfl #[.slice Ao25 y142.length co25] rfl (by (try simp only [List.map_toArray, List.map_cons, List.map_nil]); first | done | rfl | (simp only [List.length_drop, List.length_take]; rfl)) ?_; (with_reducible refine (impl_ReadBool.calls _ _ y142 t145 t146 _ ?side1 ?side2 A8.out).mono ?_); (case side1 => repeat (first | exact (Kd.R_reads' HO144.out).2.2 | (with_reducible refine Kd.C_alloc ?_ _) | (with_reducible refine Kd.C_drewN ?_ _) | (with_reducible refine Kd.C_drew ?_))); (case side2 => exact (Kd.R_reads' HO144.out).2.1); rintro e w26 ⟨rfl, hb⟩; refine ⟨_, rfl, ?_⟩; have n0_ := Aside0.mk (Kd.R_below (by (with_reducible repeat (first | apply Kd.R_alloc | apply Kd.R_drewN | apply Kd.R_drew)); exact HO144.out) hb); have n1_ := Aside0.mk (below_step (by repeat (first | (with_reducible first | exact HB.out | apply below_alloc | apply pw_below_drewN | apply below_drew1) | exact HB.out)) hb); clear HO144; clear HB; have HO144 := n0_; have HB := n1_; clear n0_ n1_; (try clear hb); (try clear hb2); (try clear hk); (try clear hi); have p147 : 0 ≤ (0 : Int) := (by omega); have q147 : 0 < (l0.length : Int) := of_decide_eq_true (by first | (with_reducible assumption) | assumption); obtain ⟨ad147, e147, hx147_0⟩ := Kd.at_int HR0.out 0 p147 q147; obtain rfl : ad139 = ad147 := (by injection e147); have qi147 : (0 < l0.length) = True := eq_true (by omega); (try rw [show ((0 : Int)).toNat = 0 from rfl] at hx147_0); (try rw [Addr.add_zero'] at hx147_0); replace hx147_0 := (HB.out.cell (World.block_lt_of_cell? w _ hx147_0)).trans hx147_0; replace p147 := eq_true p147; replace q147 := eq_true q147))
                go_ret
                exact ⟨by first | rfl | (simp [errW_none, errW_some] <;> rfl) | (simp [*, errW_none, errW_some] <;> rfl), by repeat (first | (with_reducible first | exact HB.out | apply below_alloc | apply pw_below_drewN | apply below_drew1) | exact HB.out)⟩
            · rw [if_neg c9] at H
              have c9b0 : (t141 == true) = false := by simpa using c9
              (try (have c9b1 : t141 = !(true) := bool_ne_of _ _ (by simpa using c9)))
              (try (have c9b2 : decide (t141 = true) = false := by simpa using c9))
              (try (have c9b3 : (t141 == true) = false := by simpa using c9))
              (try (have c9b4 : ¬ (t141 = true) := by simpa using c9))
              clear c9
              obtain rfl := Option.some.inj H
              have p139 : 0 ≤ (0 : Int) := (by omega)
              have q139 : 0 < (l0.length : Int) := of_decide_eq_true (by first | (with_reducible assumption) | assumption)
              obtain ⟨ad139, e139, hx139_0⟩ := Kd.at_int HR0.out 0 p139 q139
              cases e139
              have qi139 : (0 < l0.length) = True := eq_true (by omega)
              (try rw [show ((0 : Int)).toNat = 0 from rfl] at hx139_0)
              (try rw [Addr.add_zero'] at hx139_0)
              replace p139 := eq_true p139
              replace q139 := eq_true q139
              go_enter Try.func4, Try.ntmps4
              go_wp2_with (first | ((with_reducible refine gate_callee (f := 16) rfl ?_); refine goesL_ (some 31) rfl rfl Try.func16 (by kernel_rfl) rfl #[.slice (some ad139) l0.length c0] rfl (by (try simp only [List.map_toArray, List.map_cons, List.map_nil]); first | done | rfl | (simp only [List.length_drop, List.length_take]; rfl)) ?_; (with_reducible refine (impl_ReadBool.calls _ _ l0 t140 t141 _ ?side1 ?side2 A7.out).mono ?_); (case side1 => repeat (first | exact HR0.out | (with_reducible refine Kd.C_alloc ?_ _) | (with_reducible refine Kd.C_drewN ?_ _) | (with_reducible refine Kd.C_drew ?_))); (case side2 => exact HC0.out); rintro e w27 ⟨rfl, hb⟩; refine ⟨_, rfl, ?_⟩; have n0_ := Aside0.mk (below_step (by repeat (first | (with_reducible first | exact HB.out | apply below_alloc | apply pw_below_drewN | apply below_drew1) | exact HB.out)) hb); clear HB; have HB := n0_; clear n0_; (try clear hb); (try clear hb2); (try clear hk); (try clear hi)) | ((with_reducible refine gate_dst (N := 35) rfl ?_); refine Kd.R_lit (Kd.int .u8) _ 5 ?hg (N := 35) ?hd (xs := ([255] : List Int)) (inner := [.int .u8 255]) (ok := fun _ => True) (okp := fun _ => True) ?hr ?hp (fun _ hk => hk) trivial (Below.refl _ _) (Nat.le_refl _) (by simp) ?_; (case hd => rfl); (case hg => rfl); (case hr => first | (go_simp; done) | (go_simp; rfl)); (case hp => exact (Reps.one (show Kd.M (Kd.int .u8) _ _ _ 255 [.int .u8 255] from rfl) (Reps.none _ _))); intro v143 w28 ho29 hb hg_ hnew_; clear hg_ hnew_; (first | rw [← Ny142.out] at ho29 | (simp only [Int.reduceToNat] at ho29; rw [← Ny142.out] at ho29)); have n0_ := Aside0.mk (Kd.R_lower ho29 (below_size (by repeat (first | (with_reducible first | exact HB.out | apply below_alloc | apply pw_below_drewN | apply below_drew1) | exact HB.out)))); have n1_ := Aside0.mk (below_step (by repeat (first | (with_reducible first | exact HB.out | apply below_alloc | apply pw_below_drewN | apply below_drew1) | exact HB.out)) hb); clear HB; have HO144 := n0_; have HB := n1_; clear n0_ n1_; clear hb ho29; obtain ⟨Ao30, co30, eo30⟩ := Kd.R_slice HO144.out; subst eo30) | ((with_reducible refine gate_callee (f := 16) rfl ?_); refine goesL_ (some 36) rfl rfl Try.func16 (by kernel_rfl) rfl #[.slice Ao30 y142.length co30] rfl (by (try simp only [List.map_toArray, List.map_cons, List.map_nil]); first | done | rfl | (simp only [List.length_drop, List.length_take]; rfl)) ?_; (with_reducible refine (impl_ReadBool.calls _ _ y142 t145 t146 _ ?side1 ?side2 A8.out).mono ?_); (case side1 => repeat (first | exact (Kd.R_reads' HO144.out).2.2 | (with_reducible refine Kd.C_alloc ?_ _) | (with_reducible refine Kd.C_drewN ?_ _) | (with_reducible refine Kd.C_drew ?_))); (case side2 => exact (Kd.R_reads' HO144.out).2.1); rintro e w31 ⟨rfl, hb⟩; refine ⟨_, rfl, ?_⟩; have n0_ := Aside0.mk (Kd.R_below (by (with_reducible repeat (first | apply Kd.R_alloc | apply Kd.R_drewN | apply Kd.R_drew)); exact HO144.out) hb); have n1_ := Aside0.mk (below_step (by repeat (first | (with_reducible first | exact HB.out | apply below_alloc | apply pw_below_drewN | apply below_drew1) | exact HB.out)) hb); clear HO144; clear HB; have HO144 := n0_; have HB := n1_; clear n0_ n1_; (try clear hb); (try clear hb2); (try clear hk); (try clear hi)))
              go_ret
              exact ⟨by first | rfl | (simp [errW_none, errW_some] <;> rfl) | (simp [*, errW_none, errW_some] <;> rfl), by repeat (first | (with_reducible first | exact HB.out | apply below_alloc | apply pw_below_drewN | apply below_drew1) | exact HB.out)⟩
          · rw [if_neg c6] at H
            have c6b0 : ((rd l0 0) == 0) = false := beq_eq_false_iff_ne.mpr c6
            have c6b1 : ((rd l0 0) != 0) = true := bne_iff_ne.mpr c6
            replace H := Option.bind_eq_some_iff.mp H
            obtain ⟨⟨t149, t150⟩, A320, H⟩ := H
            replace H : ((impl_ReadBool.f (([255] : List Int))).bind fun bt154 => (if (t150 == ((rd l0 0) == 255)) = true then (if ((rd l0 0) = 255) then (if (t149 == ((rd l0 0) == 255)) = true then (if bt154.1 = true then (some bt154.2) else (some false)) else (some false)) else (if bt154.1 = true then (some bt154.2) else (some false))) else (some false))) = some r := H
            have A32 := Aside0.mk A320
            clear A320
            obtain ⟨y151, hy151⟩ : ∃ y_ : List Int, y_ = (([255] : List Int)) := ⟨_, rfl⟩
            replace H : ((impl_ReadBool.f y151).bind fun bt154 => (if (t150 == ((rd l0 0) == 255)) = true then (if ((rd l0 0) = 255) then (if (t149 == ((rd l0 0) == 255)) = true then (if bt154.1 = true then (some bt154.2) else (some false)) else (some false)) else (if bt154.1 = true then (some bt154.2) else (some false))) else (some false))) = some r := by first | (rw [hy151]; with_reducible exact H) | (have H2_ := (Option.bind_some _ _).symm.trans H; rw [hy151]; with_reducible exact H2_) | (have H2_ := (Option.bind_some _ _).symm.trans H; with_reducible exact H2_) | with_reducible exact H | (rw [hy151]; exact H) | exact H
            have Ny151 := Aside0.mk hy151
            clear hy151
            replace H := Option.bind_eq_some_iff.mp H
            obtain ⟨⟨t154, t155⟩, A330, H⟩ := H
            replace H : (if (t150 == ((rd l0 0) == 255)) = true then (if ((rd l0 0) = 255) then (if (t149 == ((rd l0 0) == 255)) = true then (if t154 = true then (some t155) else (some false)) else (some false)) else (if t154 = true then (some t155) else (some false))) else (some false)) = some r := H
            have A33 := Aside0.mk A330
            clear A330
            by_cases c34 : (t150 == ((rd l0 0) == 255)) = true
            · rw [if_pos c34] at H
              have c34b0 : (t150 == ((rd l0 0) == 255)) = true := c34
              (try (have c34b1 : t150 = ((rd l0 0) == 255) := bool_eq_of _ _ (by simpa using c34)))
              (try (have c34b2 : decide (t150 = ((rd l0 0) == 255)) = true := by simpa using c34))
              (try (have c34b3 : (t150 == ((rd l0 0) == 255)) = true := by simpa using c34))
              clear c34
              by_cases c35 : ((rd l0 0) = 255)
              · rw [if_pos c35] at H
                have c35b0 : ((rd l0 0) == 255) = true := beq_iff_eq.mpr c35
                have c35b1 : ((rd l0 0) != 255) = false := bne_eq_false_iff_eq.mpr c35
                clear c35
                by_cases c36 : (t149 == ((rd l0 0) == 255)) = true
                · rw [if_pos c36] at H
                  have c36b0 : (t149 == ((rd l0 0) == 255)) = true := c36
                  (try (have c36b1 : t149 = ((rd l0 0) == 255) := bool_eq_of _ _ (by simpa using c36)))
                  (try (have c36b2 : decide (t149 = ((rd l0 0) == 255)) = true := by simpa using c36))
                  (try (have c36b3 : (t149 == ((rd l0 0) == 255)) = true := by simpa using c36))
                  clear c36
                  by_cases c37 : t154 = true
                  · subst c37
                    have H1 : (some t155) = some r := by rw [if_pos rfl] at H; exact H
                    clear H
                    have H := H1
                    clear H1
                    obtain rfl := Option.some.inj H
                    have p139 : 0 ≤ (0 : Int) := (by omega)
                    have q139 : 0 < (l0.length : Int) := of_decide_eq_true (by first | (with_reducible assumption) | assumption)
                    obtain ⟨ad139, e139, hx139_0⟩ := Kd.at_int HR0.out 0 p139 q139
                    cases e139
                    have qi139 : (0 < l0.length) = True := eq_true (by omega)
                    (try rw [show ((0 : Int)).toNat = 0 from rfl] at hx139_0)
                    (try rw [Addr.add_zero'] at hx139_0)
                    replace p139 := eq_true p139
                    replace q139 := eq_true q139
                    have p148 : 0 ≤ (0 : Int) := (by omega)
                    have q148 : 0 < (l0.length : Int) := of_decide_eq_true (by first | (with_reducible assumption) | assumption)
                    obtain ⟨ad148, e148, hx148_0⟩ := Kd.at_int HR0.out 0 p148 q148
                    obtain rfl : ad139 = ad148 := (by injection e148)
                    have qi148 : (0 < l0.length) = True := eq_true (by omega)
                    (try rw [show ((0 : Int)).toNat = 0 from rfl] at hx148_0)
                    (try rw [Addr.add_zero'] at hx148_0)
                    replace p148 := eq_true p148
                    replace q148 := eq_true q148
                    go_enter Try.func4, Try.ntmps4
                    go_wp2_with (first | ((with_reducible refine gate_callee (f := 16) rfl ?_); refine goesL_ (some 31) rfl rfl Try.func16 (by kernel_rfl) rfl #[.slice (some ad139) l0.length c0] rfl (by (try simp only [List.map_toArray, List.map_cons, List.map_nil]); first | done | rfl | (simp only [List.length_drop, List.length_take]; rfl)) ?_; (with_reducible refine (impl_ReadBool.calls _ _ l0 t149 t150 _ ?side1 ?side2 A32.out).mono ?_); (case side1 => repeat (first | exact HR0.out | (with_reducible refine Kd.C_alloc ?_ _) | (with_reducible refine Kd.C_drewN ?_ _) | (with_reducible refine Kd.C_drew ?_))); (case side2 => exact HC0.out); rintro e w38 ⟨rfl, hb⟩; refine ⟨_, rfl, ?_⟩; have n0_ := Aside0.mk (below_step (by repeat (first | (with_reducible first | exact HB.out | apply below_alloc | apply pw_below_drewN | apply below_drew1) | exact HB.out)) hb); clear HB; have HB := n0_; clear n0_; (try clear hb); (try clear hb2); (try clear hk); (try clear hi)) | ((with_reducible refine gate_dst (N := 35) rfl ?_); refine Kd.R_lit (Kd.int .u8) _ 5 ?hg (N := 35) ?hd (xs := ([255] : List Int)) (inner := [.int .u8 255]) (ok := fun _ => True) (okp := fun _ => True) ?hr ?hp (fun _ hk => hk) trivial (Below.refl _ _) (Nat.le_refl _) (by simp) ?_; (case hd => rfl); (case hg => rfl); (case hr => first | (go_simp; done) | (go_simp; rfl)); (case hp => exact (Reps.one (show Kd.M (Kd.int .u8) _ _ _ 255 [.int .u8 255] from rfl) (Reps.none _ _))); intro v152 w39 ho40 hb hg_ hnew_; clear hg_ hnew_; (first | rw [← Ny151.out] at ho40 | (simp only [Int.reduceToNat] at ho40; rw [← Ny151.out] at ho40)); have n0_ := Aside0.mk (Kd.R_lower ho40 (below_size (by repeat (first | (with_reducible first | exact HB.out | apply below_alloc | apply pw_below_drewN | apply below_drew1) | exact HB.out)))); have n1_ := Aside0.mk (below_step (by repeat (first | (with_reducible first | exact HB.out | apply below_alloc | apply pw_below_drewN | apply below_drew1) | exact HB.out)) hb); clear HB; have HO153 := n0_; have HB := n1_; clear n0_ n1_; clear hb ho40; obtain ⟨Ao41, co41, eo41⟩ := Kd.R_slice HO153.out; subst eo41) | ((with_reducible refine gate_callee (f := 16) rfl ?_); refine goesL_ (some 36) rfl rfl Try.func16 (by kernel_rfl) rfl #[.slice Ao41 y151.length co41] rfl (by (try simp only [List.map_toArray, List.map_cons, List.map_nil]); first | done | rfl | (simp only [List.length_drop, List.length_take]; rfl)) ?_; (with_reducible refine (impl_ReadBool.calls _ _ y151 true t155 _ ?side1 ?side2 A33.out).mono ?_); (case side1 => repeat (first | exact (Kd.R_reads' HO153.out).2.2 | (with_reducible refine Kd.C_alloc ?_ _) | (with_reducible refine Kd.C_drewN ?_ _) | (with_reducible refine Kd.C_drew ?_))); (case side2 => exact (Kd.R_reads' HO153.out).2.1); rintro e w42 ⟨rfl, hb⟩; refine ⟨_, rfl, ?_⟩; have n0_ := Aside0.mk (Kd.R_below (by (with_reducible repeat (first | apply Kd.R_alloc | apply Kd.R_drewN | apply Kd.R_drew)); exact HO153.out) hb); have n1_ := Aside0.mk (below_step (by repeat (first | (with_reducible first | exact HB.out | apply below_alloc | apply pw_below_drewN | apply below_drew1) | exact HB.out)) hb); clear HO153; clear HB; have HO153 := n0_; have HB := n1_; clear n0_ n1_; (try clear hb); (try clear hb2); (try clear hk); (try clear hi); have p156 : 0 ≤ (0 : Int) := (by omega); have q156 : 0 < (l0.length : Int) := of_decide_eq_true (by first | (with_reducible assumption) | assumption); obtain ⟨ad156, e156, hx156_0⟩ := Kd.at_int HR0.out 0 p156 q156; obtain rfl : ad139 = ad156 := (by injection e156); have qi156 : (0 < l0.length) = True := eq_true (by omega); (try rw [show ((0 : Int)).toNat = 0 from rfl] at hx156_0); (try rw [Addr.add_zero'] at hx156_0); replace hx156_0 := (HB.out.cell (World.block_lt_of_cell? w _ hx156_0)).trans hx156_0; replace p156 := eq_true p156; replace q156 := eq_true q156))
                    go_ret
                    exact ⟨by first | rfl | (simp [errW_none, errW_some] <;> rfl) | (simp [*, errW_none, errW_some] <;> rfl), by repeat (first | (with_reducible first | exact HB.out | apply below_alloc | apply pw_below_drewN | apply below_drew1) | exact HB.out)⟩
                  · replace c37 := Bool.eq_false_iff.mpr c37
                    subst c37
                    have H1 : (some false) = some r := by rw [if_neg (show ¬ (false = true) by decide)] at H; exact H
                    clear H
                    have H := H1
                    clear H1
                    obtain rfl := Option.some.inj H
                    have p139 : 0 ≤ (0 : Int) := (by omega)
                    have q139 : 0 < (l0.length : Int) := of_decide_eq_true (by first | (with_reducible assumption) | assumption)
                    obtain ⟨ad139, e139, hx139_0⟩ := Kd.at_int HR0.out 0 p139 q139
                    cases e139
                    have qi139 : (0 < l0.length) = True := eq_true (by omega)
                    (try rw [show ((0 : Int)).toNat = 0 from rfl] at hx139_0)
                    (try rw [Addr.add_zero'] at hx139_0)
                    replace p139 := eq_true p139
                    replace q139 := eq_true q139
                    have p148 : 0 ≤ (0 : Int) := (by omega)
                    have q148 : 0 < (l0.length : Int) := of_decide_eq_true (by first | (with_reducible assumption) | assumption)
                    obtain ⟨ad148, e148, hx148_0⟩ := Kd.at_int HR0.out 0 p148 q148
                    obtain rfl : ad139 = ad148 := (by injection e148)
                    have qi148 : (0 < l0.length) = True := eq_true (by omega)
                    (try rw [show ((0 : Int)).toNat = 0 from rfl] at hx148_0)
                    (try rw [Addr.add_zero'] at hx148_0)
                    replace p148 := eq_true p148
                    replace q148 := eq_true q148
                    go_enter Try.func4, Try.ntmps4
                    go_wp2_with (first | ((with_reducible refine gate_callee (f := 16) rfl ?_); refine goesL_ (some 31) rfl rfl Try.func16 (by kernel_rfl) rfl #[.slice (some ad139) l0.length c0] rfl (by (try simp only [List.map_toArray, List.map_cons, List.map_nil]); first | done | rfl | (simp only [List.length_drop, List.length_take]; rfl)) ?_; (with_reducible refine (impl_ReadBool.calls _ _ l0 t149 t150 _ ?side1 ?side2 A32.out).mono ?_); (case side1 => repeat (first | exact HR0.out | (with_reducible refine Kd.C_alloc ?_ _) | (with_reducible refine Kd.C_drewN ?_ _) | (with_reducible refine Kd.C_drew ?_))); (case side2 => exact HC0.out); rintro e w43 ⟨rfl, hb⟩; refine ⟨_, rfl, ?_⟩; have n0_ := Aside0.mk (below_step (by repeat (first | (with_reducible first | exact HB.out | apply below_alloc | apply pw_below_drewN | apply below_drew1) | exact HB.out)) hb); clear HB; have HB := n0_; clear n0_; (try clear hb); (try clear hb2); (try clear hk); (try clear hi)) | ((with_reducible refine gate_dst (N := 35) rfl ?_); refine Kd.R_lit (Kd.int .u8) _ 5 ?hg (N := 35) ?hd (xs := ([255] : List Int)) (inner := [.int .u8 255]) (ok := fun _ => True) (okp := fun _ => True) ?hr ?hp (fun _ hk => hk) trivial (Below.refl _ _) (Nat.le_refl _) (by simp) ?_; (case hd => rfl); (case hg => rfl); (case hr => first | (go_simp; done) | (go_simp; rfl)); (case hp => exact (Reps.one (show Kd.M (Kd.int .u8) _ _ _ 255 [.int .u8 255] from rfl) (Reps.none _ _))); intro v152 w44 ho45 hb hg_ hnew_; clear hg_ hnew_; (first | rw [← Ny151.out] at ho45 | (simp only [Int.reduceToNat] at ho45; rw [← Ny151.out] at ho45)); have n0_ := Aside0.mk (Kd.R_lower ho45 (below_size (by repeat (first | (with_reducible first | exact HB.out | apply below_alloc | apply pw_below_drewN | apply below_drew1) | exact HB.out)))); have n1_ := Aside0.mk (below_step (by repeat (first | (with_reducible first | exact HB.out | apply below_alloc | apply pw_below_drewN | apply below_drew1) | exact HB.out)) hb); clear HB; have HO153 := n0_; have HB := n1_; clear n0_ n1_; clear hb ho45; obtain ⟨Ao46, co46, eo46⟩ := Kd.R_slice HO153.out; subst eo46) | ((with_reducible refine gate_callee (f := 16) rfl ?_); refine goesL_ (some 36) rfl rfl Try.func16 (by kernel_rfl) rfl #[.slice Ao46 y151.length co46] rfl (by (try simp only [List.map_toArray, List.map_cons, List.map_nil]); first | done | rfl | (simp only [List.length_drop, List.length_take]; rfl)) ?_; (with_reducible refine (impl_ReadBool.calls _ _ y151 false t155 _ ?side1 ?side2 A33.out).mono ?_); (case side1 => repeat (first | exact (Kd.R_reads' HO153.out).2.2 | (with_reducible refine Kd.C_alloc ?_ _) | (with_reducible refine Kd.C_drewN ?_ _) | (with_reducible refine Kd.C_drew ?_))); (case side2 => exact (Kd.R_reads' HO153.out).2.1); rintro e w47 ⟨rfl, hb⟩; refine ⟨_, rfl, ?_⟩; have n0_ := Aside0.mk (Kd.R_below (by (with_reducible repeat (first | apply Kd.R_alloc | apply Kd.R_drewN | apply Kd.R_drew)); exact HO153.out) hb); have n1_ := Aside0.mk (below_step (by repeat (first | (with_reducible first | exact HB.out | apply below_alloc | apply pw_below_drewN | apply below_drew1) | exact HB.out)) hb); clear HO153; clear HB; have HO153 := n0_; have HB := n1_; clear n0_ n1_; (try clear hb); (try clear hb2); (try clear hk); (try clear hi); have p156 : 0 ≤ (0 : Int) := (by omega); have q156 : 0 < (l0.length : Int) := of_decide_eq_true (by first | (with_reducible assumption) | assumption); obtain ⟨ad156, e156, hx156_0⟩ := Kd.at_int HR0.out 0 p156 q156; obtain rfl : ad139 = ad156 := (by injection e156); have qi156 : (0 < l0.length) = True := eq_true (by omega); (try rw [show ((0 : Int)).toNat = 0 from rfl] at hx156_0); (try rw [Addr.add_zero'] at hx156_0); replace hx156_0 := (HB.out.cell (World.block_lt_of_cell? w _ hx156_0)).trans hx156_0; replace p156 := eq_true p156; replace q156 := eq_true q156))
                    go_ret
                    exact ⟨by first | rfl | (simp [errW_none, errW_some] <;> rfl) | (simp [*, errW_none, errW_some] <;> rfl), by repeat (first | (with_reducible first | exact HB.out | apply below_alloc | apply pw_below_drewN | apply below_drew1) | exact HB.out)⟩
                · rw [if_neg c36] at H
                  have c36b0 : (t149 == ((rd l0 0) == 255)) = false := by simpa using c36
                  (try (have c36b1 : t149 = !(((rd l0 0) == 255)) := bool_ne_of _ _ (by simpa using c36)))
                  (try (have c36b2 : decide (t149 = ((rd l0 0) == 255)) = false := by simpa using c36))
                  (try (have c36b3 : (t149 == ((rd l0 0) == 255)) = false := by simpa using c36))
                  (try (have c36b4 : ¬ (t149 = ((rd l0 0) == 255)) := by simpa using c36))
                  clear c36
                  obtain rfl := Option.some.inj H
                  have p139 : 0 ≤ (0 : Int) := (by omega)
                  have q139 : 0 < (l0.length : Int) := of_decide_eq_true (by first | (with_reducible assumption) | assumption)
                  obtain ⟨ad139, e139, hx139_0⟩ := Kd.at_int HR0.out 0 p139 q139
                  cases e139
                  have qi139 : (0 < l0.length) = True := eq_true (by omega)
                  (try rw [show ((0 : Int)).toNat = 0 from rfl] at hx139_0)
                  (try rw [Addr.add_zero'] at hx139_0)
                  replace p139 := eq_true p139
                  replace q139 := eq_true q139
                  have p148 : 0 ≤ (0 : Int) := (by omega)
                  have q148 : 0 < (l0.length : Int) := of_decide_eq_true (by first | (with_reducible assumption) | assumption)
                  obtain ⟨ad148, e148, hx148_0⟩ := Kd.at_int HR0.out 0 p148 q148
                  obtain rfl : ad139 = ad148 := (by injection e148)
                  have qi148 : (0 < l0.length) = True := eq_true (by omega)
                  (try rw [show ((0 : Int)).toNat = 0 from rfl] at hx148_0)
                  (try rw [Addr.add_zero'] at hx148_0)
                  replace p148 := eq_true p148
                  replace q148 := eq_true q148
                  go_enter Try.func4, Try.ntmps4
                  go_wp2_with (first | ((with_reducible refine gate_callee (f := 16) rfl ?_); refine goesL_ (some 31) rfl rfl Try.func16 (by kernel_rfl) rfl #[.slice (some ad139) l0.length c0] rfl (by (try simp only [List.map_toArray, List.map_cons, List.map_nil]); first | done | rfl | (simp only [List.length_drop, List.length_take]; rfl)) ?_; (with_reducible refine (impl_ReadBool.calls _ _ l0 t149 t150 _ ?side1 ?side2 A32.out).mono ?_); (case side1 => repeat (first | exact HR0.out | (with_reducible refine Kd.C_alloc ?_ _) | (with_reducible refine Kd.C_drewN ?_ _) | (with_reducible refine Kd.C_drew ?_))); (case side2 => exact HC0.out); rintro e w48 ⟨rfl, hb⟩; refine ⟨_, rfl, ?_⟩; have n0_ := Aside0.mk (below_step (by repeat (first | (with_reducible first | exact HB.out | apply below_alloc | apply pw_below_drewN | apply below_drew1) | exact HB.out)) hb); clear HB; have HB := n0_; clear n0_; (try clear hb); (try clear hb2); (try clear hk); (try clear hi)) | ((with_reducible refine gate_dst (N := 35) rfl ?_); refine Kd.R_lit (Kd.int .u8) _ 5 ?hg (N := 35) ?hd (xs := ([255] : List Int)) (inner := [.int .u8 255]) (ok := fun _ => True) (okp := fun _ => True) ?hr ?hp (fun _ hk => hk) trivial (Below.refl _ _) (Nat.le_refl _) (by simp) ?_; (case hd => rfl); (case hg => rfl); (case hr => first | (go_simp; done) | (go_simp; rfl)); (case hp => exact (Reps.one (show Kd.M (Kd.int .u8) _ _ _ 255 [.int .u8 255] from rfl) (Reps.none _ _))); intro v152 w49 ho50 hb hg_ hnew_; clear hg_ hnew_; (first | rw [← Ny151.out] at ho50 | (simp only [Int.reduceToNat] at ho50; rw [← Ny151.out] at ho50)); have n0_ := Aside0.mk (Kd.R_lower ho50 (below_size (by repeat (first | (with_reducible first | exact HB.out | apply below_alloc | apply pw_below_drewN | apply below_drew1) | exact HB.out)))); have n1_ := Aside0.mk (below_step (by repeat (first | (with_reducible first | exact HB.out | apply below_alloc | apply pw_below_drewN | apply below_drew1) | exact HB.out)) hb); clear HB; have HO153 := n0_; have HB := n1_; clear n0_ n1_; clear hb ho50; obtain ⟨Ao51, co51, eo51⟩ := Kd.R_slice HO153.out; subst eo51) | ((with_reducible refine gate_callee (f := 16) rfl ?_); refine goesL_ (some 36) rfl rfl Try.func16 (by kernel_rfl) rfl #[.slice Ao51 y151.length co51] rfl (by (try simp only [List.map_toArray, List.map_cons, List.map_nil]); first | done | rfl | (simp only [List.length_drop, List.length_take]; rfl)) ?_; (with_reducible refine (impl_ReadBool.calls _ _ y151 t154 t155 _ ?side1 ?side2 A33.out).mono ?_); (case side1 => repeat (first | exact (Kd.R_reads' HO153.out).2.2 | (with_reducible refine Kd.C_alloc ?_ _) | (with_reducible refine Kd.C_drewN ?_ _) | (with_reducible refine Kd.C_drew ?_))); (case side2 => exact (Kd.R_reads' HO153.out).2.1); rintro e w52 ⟨rfl, hb⟩; refine ⟨_, rfl, ?_⟩; have n0_ := Aside0.mk (Kd.R_below (by (with_reducible repeat (first | apply Kd.R_alloc | apply Kd.R_drewN | apply Kd.R_drew)); exact HO153.out) hb); have n1_ := Aside0.mk (below_step (by repeat (first | (with_reducible first | exact HB.out | apply below_alloc | apply pw_below_drewN | apply below_drew1) | exact HB.out)) hb); clear HO153; clear HB; have HO153 := n0_; have HB := n1_; clear n0_ n1_; (try clear hb); (try clear hb2); (try clear hk); (try clear hi); have p156 : 0 ≤ (0 : Int) := (by omega); have q156 : 0 < (l0.length : Int) := of_decide_eq_true (by first | (with_reducible assumption) | assumption); obtain ⟨ad156, e156, hx156_0⟩ := Kd.at_int HR0.out 0 p156 q156; obtain rfl : ad139 = ad156 := (by injection e156); have qi156 : (0 < l0.length) = True := eq_true (by omega); (try rw [show ((0 : Int)).toNat = 0 from rfl] at hx156_0); (try rw [Addr.add_zero'] at hx156_0); replace hx156_0 := (HB.out.cell (World.block_lt_of_cell? w _ hx156_0)).trans hx156_0; replace p156 := eq_true p156; replace q156 := eq_true q156))
                  go_ret
                  exact ⟨by first | rfl | (simp [errW_none, errW_some] <;> rfl) | (simp [*, errW_none, errW_some] <;> rfl), by repeat (first | (with_reducible first | exact HB.out | apply below_alloc | apply pw_below_drewN | apply below_drew1) | exact HB.out)⟩
              · rw [if_neg c35] at H
                have c35b0 : ((rd l0 0) == 255) = false := beq_eq_false_iff_ne.mpr c35
                have c35b1 : ((rd l0 0) != 255) = true := bne_iff_ne.mpr c35
                by_cases c53 : t154 = true
                · subst c53
                  have H1 : (some t155) = some r := by rw [if_pos rfl] at H; exact H
                  clear H
                  have H := H1
                  clear H1
                  obtain rfl := Option.some.inj H
                  have p139 : 0 ≤ (0 : Int) := (by omega)
                  have q139 : 0 < (l0.length : Int) := of_decide_eq_true (by first | (with_reducible assumption) | assumption)
                  obtain ⟨ad139, e139, hx139_0⟩ := Kd.at_int HR0.out 0 p139 q139
                  cases e139
                  have qi139 : (0 < l0.length) = True := eq_true (by omega)
                  (try rw [show ((0 : Int)).toNat = 0 from rfl] at hx139_0)
                  (try rw [Addr.add_zero'] at hx139_0)
                  replace p139 := eq_true p139
                  replace q139 := eq_true q139
                  have p148 : 0 ≤ (0 : Int) := (by omega)
                  have q148 : 0 < (l0.length : Int) := of_decide_eq_true (by first | (with_reducible assumption) | assumption)
                  obtain ⟨ad148, e148, hx148_0⟩ := Kd.at_int HR0.out 0 p148 q148
                  obtain rfl : ad139 = ad148 := (by injection e148)
                  have qi148 : (0 < l0.length) = True := eq_true (by omega)
                  (try rw [show ((0 : Int)).toNat = 0 from rfl] at hx148_0)
                  (try rw [Addr.add_zero'] at hx148_0)
                  replace p148 := eq_true p148
                  replace q148 := eq_true q148
                  go_enter Try.func4, Try.ntmps4
                  go_wp2_with (first | ((with_reducible refine gate_callee (f := 16) rfl ?_); refine goesL_ (some 31) rfl rfl Try.func16 (by kernel_rfl) rfl #[.slice (some ad139) l0.length c0] rfl (by (try simp only [List.map_toArray, List.map_cons, List.map_nil]); first | done | rfl | (simp only [List.length_drop, List.length_take]; rfl)) ?_; (with_reducible refine (impl_ReadBool.calls _ _ l0 t149 t150 _ ?side1 ?side2 A32.out).mono ?_); (case side1 => repeat (first | exact HR0.out | (with_reducible refine Kd.C_alloc ?_ _) | (with_reducible refine Kd.C_drewN ?_ _) | (with_reducible refine Kd.C_drew ?_))); (case side2 => exact HC0.out); rintro e w54 ⟨rfl, hb⟩; refine ⟨_, rfl, ?_⟩; have n0_ := Aside0.mk (below_step (by repeat (first | (with_reducible first | exact HB.out | apply below_alloc | apply pw_below_drewN | apply below_drew1) | exact HB.out)) hb); clear HB; have HB := n0_; clear n0_; (try clear hb); (try clear hb2); (try clear hk); (try clear hi)) | ((with_reducible refine gate_dst (N := 35) rfl ?_); refine Kd.R_lit (Kd.int .u8) _ 5 ?hg (N := 35) ?hd (xs := ([255] : List Int)) (inner := [.int .u8 255]) (ok := fun _ => True) (okp := fun _ => True) ?hr ?hp (fun _ hk => hk) trivial (Below.refl _ _) (Nat.le_refl _) (by simp) ?_; (case hd => rfl); (case hg => rfl); (case hr => first | (go_simp; done) | (go_simp; rfl)); (case hp => exact (Reps.one (show Kd.M (Kd.int .u8) _ _ _ 255 [.int .u8 255] from rfl) (Reps.none _ _))); intro v152 w55 ho56 hb hg_ hnew_; clear hg_ hnew_; (first | rw [← Ny151.out] at ho56 | (simp only [Int.reduceToNat] at ho56; rw [← Ny151.out] at ho56)); have n0_ := Aside0.mk (Kd.R_lower ho56 (below_size (by repeat (first | (with_reducible first | exact HB.out | apply below_alloc | apply pw_below_drewN | apply below_drew1) | exact HB.out)))); have n1_ := Aside0.mk (below_step (by repeat (first | (with_reducible first | exact HB.out | apply below_alloc | apply pw_below_drewN | apply below_drew1) | exact HB.out)) hb); clear HB; have HO153 := n0_; have HB := n1_; clear n0_ n1_; clear hb ho56; obtain ⟨Ao57, co57, eo57⟩ := Kd.R_slice HO153.out; subst eo57) | ((with_reducible refine gate_callee (f := 16) rfl ?_); refine goesL_ (some 36) rfl rfl Try.func16 (by kernel_rfl) rfl #[.slice Ao57 y151.length co57] rfl (by (try simp only [List.map_toArray, List.map_cons, List.map_nil]); first | done | rfl | (simp only [List.length_drop, List.length_take]; rfl)) ?_; (with_reducible refine (impl_ReadBool.calls _ _ y151 true t155 _ ?side1 ?side2 A33.out).mono ?_); (case side1 => repeat (first | exact (Kd.R_reads' HO153.out).2.2 | (with_reducible refine Kd.C_alloc ?_ _) | (with_reducible refine Kd.C_drewN ?_ _) | (with_reducible refine Kd.C_drew ?_))); (case side2 => exact (Kd.R_reads' HO153.out).2.1); rintro e w58 ⟨rfl, hb⟩; refine ⟨_, rfl, ?_⟩; have n0_ := Aside0.mk (Kd.R_below (by (with_reducible repeat (first | apply Kd.R_alloc | apply Kd.R_drewN | apply Kd.R_drew)); exact HO153.out) hb); have n1_ := Aside0.mk (below_step (by repeat (first | (with_reducible first | exact HB.out | apply below_alloc | apply pw_below_drewN | apply below_drew1) | exact HB.out)) hb); clear HO153; clear HB; have HO153 := n0_; have HB := n1_; clear n0_ n1_; (try clear hb); (try clear hb2); (try clear hk); (try clear hi)))
                  go_ret
                  exact ⟨by first | rfl | (simp [errW_none, errW_some] <;> rfl) | (simp [*, errW_none, errW_some] <;> rfl), by repeat (first | (with_reducible first | exact HB.out | apply below_alloc | apply pw_below_drewN | apply below_drew1) | exact HB.out)⟩
                · replace c53 := Bool.eq_false_iff.mpr c53
                  subst c53
                  have H1 : (some false) = some r := by rw [if_neg (show ¬ (false = true) by decide)] at H; exact H
                  clear H
                  have H := H1
                  clear H1
                  obtain rfl := Option.some.inj H
                  have p139 : 0 ≤ (0 : Int) := (by omega)
                  have q139 : 0 < (l0.length : Int) := of_decide_eq_true (by first | (with_reducible assumption) | assumption)
                  obtain ⟨ad139, e139, hx139_0⟩ := Kd.at_int HR0.out 0 p139 q139
                  cases e139
                  have qi139 : (0 < l0.length) = True := eq_true (by omega)
                  (try rw [show ((0 : Int)).toNat = 0 from rfl] at hx139_0)
                  (try rw [Addr.add_zero'] at hx139_0)
                  replace p139 := eq_true p139
                  replace q139 := eq_true q139
                  have p148 : 0 ≤ (0 : Int) := (by omega)
                  have q148 : 0 < (l0.length : Int) := of_decide_eq_true (by first | (with_reducible assumption) | assumption)
                  obtain ⟨ad148, e148, hx148_0⟩ := Kd.at_int HR0.out 0 p148 q148
                  obtain rfl : ad139 = ad148 := (by injection e148)
                  have qi148 : (0 < l0.length) = True := eq_true (by omega)
                  (try rw [show ((0 : Int)).toNat = 0 from rfl] at hx148_0)
                  (try rw [Addr.add_zero'] at hx148_0)
                  replace p148 := eq_true p148
                  replace q148 := eq_true q148
                  go_enter Try.func4, Try.ntmps4
                  go_wp2_with (first | ((with_reducible refine gate_callee (f := 16) rfl ?_); refine goesL_ (some 31) rfl rfl Try.func16 (by kernel_rfl) rfl #[.slice (some ad139) l0.length c0] rfl (by (try simp only [List.map_toArray, List.map_cons, List.map_nil]); first | done | rfl | (simp only [List.length_drop, List.length_take]; rfl)) ?_; (with_reducible refine (impl_ReadBool.calls _ _ l0 t149 t150 _ ?side1 ?side2 A32.out).mono ?_); (case side1 => repeat (first | exact HR0.out | (with_reducible refine Kd.C_alloc ?_ _) | (with_reducible refine Kd.C_drewN ?_ _) | (with_reducible refine Kd.C_drew ?_))); (case side2 => exact HC0.out); rintro e w59 ⟨rfl, hb⟩; refine ⟨_, rfl, ?_⟩; have n0_ := Aside0.mk (below_step (by repeat (first | (with_reducible first | exact HB.out | apply below_alloc | apply pw_below_drewN | apply below_drew1) | exact HB.out)) hb); clear HB; have HB := n0_; clear n0_; (try clear hb); (try clear hb2); (try clear hk); (try clear hi)) | ((with_reducible refine gate_dst (N := 35) rfl ?_); refine Kd.R_lit (Kd.int .u8) _ 5 ?hg (N := 35) ?hd (xs := ([255] : List Int)) (inner := [.int .u8 255]) (ok := fun _ => True) (okp := fun _ => True) ?hr ?hp (fun _ hk => hk) trivial (Below.refl _ _) (Nat.le_refl _) (by simp) ?_; (case hd => rfl); (case hg => rfl); (case hr => first | (go_simp; done) | (go_simp; rfl)); (case hp => exact (Reps.one (show Kd.M (Kd.int .u8) _ _ _ 255 [.int .u8 255] from rfl) (Reps.none _ _))); intro v152 w60 ho61 hb hg_ hnew_; clear hg_ hnew_; (first | rw [← Ny151.out] at ho61 | (simp only [Int.reduceToNat] at ho61; rw [← Ny151.out] at ho61)); have n0_ := Aside0.mk (Kd.R_lower ho61 (below_size (by repeat (first | (with_reducible first | exact HB.out | apply below_alloc | apply pw_below_drewN | apply below_drew1) | exact HB.out)))); have n1_ := Aside0.mk (below_step (by repeat (first | (with_reducible first | exact HB.out | apply below_alloc | apply pw_below_drewN | apply below_drew1) | exact HB.out)) hb); clear HB; have HO153 := n0_; have HB := n1_; clear n0_ n1_; clear hb ho61; obtain ⟨Ao62, co62, eo62⟩ := Kd.R_slice HO153.out; subst eo62) | ((with_reducible refine gate_callee (f := 16) rfl ?_); refine goesL_ (some 36) rfl rfl Try.func16 (by kernel_rfl) rfl #[.slice Ao62 y151.length co62] rfl (by (try simp only [List.map_toArray, List.map_cons, List.map_nil]); first | done | rfl | (simp only [List.length_drop, List.length_take]; rfl)) ?_; (with_reducible refine (impl_ReadBool.calls _ _ y151 false t155 _ ?side1 ?side2 A33.out).mono ?_); (case side1 => repeat (first | exact (Kd.R_reads' HO153.out).2.2 | (with_reducible refine Kd.C_alloc ?_ _) | (with_reducible refine Kd.C_drewN ?_ _) | (with_reducible refine Kd.C_drew ?_))); (case side2 => exact (Kd.R_reads' HO153.out).2.1); rintro e w63 ⟨rfl, hb⟩; refine ⟨_, rfl, ?_⟩; have n0_ := Aside0.mk (Kd.R_below (by (with_reducible repeat (first | apply Kd.R_alloc | apply Kd.R_drewN | apply Kd.R_drew)); exact HO153.out) hb); have n1_ := Aside0.mk (below_step (by repeat (first | (with_reducible first | exact HB.out | apply below_alloc | apply pw_below_drewN | apply below_drew1) | exact HB.out)) hb); clear HO153; clear HB; have HO153 := n0_; have HB := n1_; clear n0_ n1_; (try clear hb); (try clear hb2); (try clear hk); (try clear hi)))
                  go_ret
                  exact ⟨by first | rfl | (simp [errW_none, errW_some] <;> rfl) | (simp [*, errW_none, errW_some] <;> rfl), by repeat (first | (with_reducible first | exact HB.out | apply below_alloc | apply pw_below_drewN | apply below_drew1) | exact HB.out)⟩
            · rw [if_neg c34] at H
              have c34b0 : (t150 == ((rd l0 0) == 255)) = false := by simpa using c34
              (try (have c34b1 : t150 = !(((rd l0 0) == 255)) := bool_ne_of _ _ (by simpa using c34)))
              (try (have c34b2 : decide (t150 = ((rd l0 0) == 255)) = false := by simpa using c34))
              (try (have c34b3 : (t150 == ((rd l0 0) == 255)) = false := by simpa using c34))
              (try (have c34b4 : ¬ (t150 = ((rd l0 0) == 255)) := by simpa using c34))
              clear c34
              obtain rfl := Option.some.inj H
              have p139 : 0 ≤ (0 : Int) := (by omega)
              have q139 : 0 < (l0.length : Int) := of_decide_eq_true (by first | (with_reducible assumption) | assumption)
              obtain ⟨ad139, e139, hx139_0⟩ := Kd.at_int HR0.out 0 p139 q139
              cases e139
              have qi139 : (0 < l0.length) = True := eq_true (by omega)
              (try rw [show ((0 : Int)).toNat = 0 from rfl] at hx139_0)
              (try rw [Addr.add_zero'] at hx139_0)
              replace p139 := eq_true p139
              replace q139 := eq_true q139
              have p148 : 0 ≤ (0 : Int) := (by omega)
              have q148 : 0 < (l0.length : Int) := of_decide_eq_true (by first | (with_reducible assumption) | assumption)
              obtain ⟨ad148, e148, hx148_0⟩ := Kd.at_int HR0.out 0 p148 q148
              obtain rfl : ad139 = ad148 := (by injection e148)
              have qi148 : (0 < l0.length) = True := eq_true (by omega)
              (try rw [show ((0 : Int)).toNat = 0 from rfl] at hx148_0)
              (try rw [Addr.add_zero'] at hx148_0)
              replace p148 := eq_true p148
              replace q148 := eq_true q148
              go_enter Try.func4, Try.ntmps4
              go_wp2_with (first | ((with_reducible refine gate_callee (f := 16) rfl ?_); refine goesL_ (some 31) rfl rfl Try.func16 (by kernel_rfl) rfl #[.slice (some ad139) l0.length c0] rfl (by (try simp only [List.map_toArray, List.map_cons, List.map_nil]); first | done | rfl | (simp only [List.length_drop, List.length_take]; rfl)) ?_; (with_reducible refine (impl_ReadBool.calls _ _ l0 t149 t150 _ ?side1 ?side2 A32.out).mono ?_); (case side1 => repeat (first | exact HR0.out | (with_reducible refine Kd.C_alloc ?_ _) | (with_reducible refine Kd.C_drewN ?_ _) | (with_reducible refine Kd.C_drew ?_))); (case side2 => exact HC0.out); rintro e w64 ⟨rfl, hb⟩; refine ⟨_, rfl, ?_⟩; have n0_ := Aside0.mk (below_step (by repeat (first | (with_reducible first | exact HB.out | apply below_alloc | apply pw_below_drewN | apply below_drew1) | exact HB.out)) hb); clear HB; have HB := n0_; clear n0_; (try clear hb); (try clear hb2); (try clear hk); (try clear hi)) | ((with_reducible refine gate_dst (N := 35) rfl ?_); refine Kd.R_lit (Kd.int .u8) _ 5 ?hg (N := 35) ?hd (xs := ([255] : List Int)) (inner := [.int .u8 255]) (ok := fun _ => True) (okp := fun _ => True) ?hr ?hp (fun _ hk => hk) trivial (Below.refl _ _) (Nat.le_refl _) (by simp) ?_; (case hd => rfl); (case hg => rfl); (case hr => first | (go_simp; done) | (go_simp; rfl)); (case hp => exact (Reps.one (show Kd.M (Kd.int .u8) _ _ _ 255 [.int .u8 255] from rfl) (Reps.none _ _))); intro v152 w65 ho66 hb hg_ hnew_; clear hg_ hnew_; (first | rw [← Ny151.out] at ho66 | (simp only [Int.reduceToNat] at ho66; rw [← Ny151.out] at ho66)); have n0_ := Aside0.mk (Kd.R_lower ho66 (below_size (by repeat (first | (with_reducible first | exact HB.out | apply below_alloc | apply pw_below_drewN | apply below_drew1) | exact HB.out)))); have n1_ := Aside0.mk (below_step (by repeat (first | (with_reducible first | exact HB.out | apply below_alloc | apply pw_below_drewN | apply below_drew1) | exact HB.out)) hb); clear HB; have HO153 := n0_; have HB := n1_; clear n0_ n1_; clear hb ho66; obtain ⟨Ao67, co67, eo67⟩ := Kd.R_slice HO153.out; subst eo67) | ((with_reducible refine gate_callee (f := 16) rfl ?_); refine goesL_ (some 36) rfl rfl Try.func16 (by kernel_rfl) rfl #[.slice Ao67 y151.length co67] rfl (by (try simp only [List.map_toArray, List.map_cons, List.map_nil]); first | done | rfl | (simp only [List.length_drop, List.length_take]; rfl)) ?_; (with_reducible refine (impl_ReadBool.calls _ _ y151 t154 t155 _ ?side1 ?side2 A33.out).mono ?_); (case side1 => repeat (first | exact (Kd.R_reads' HO153.out).2.2 | (with_reducible refine Kd.C_alloc ?_ _) | (with_reducible refine Kd.C_drewN ?_ _) | (with_reducible refine Kd.C_drew ?_))); (case side2 => exact (Kd.R_reads' HO153.out).2.1); rintro e w68 ⟨rfl, hb⟩; refine ⟨_, rfl, ?_⟩; have n0_ := Aside0.mk (Kd.R_below (by (with_reducible repeat (first | apply Kd.R_alloc | apply Kd.R_drewN | apply Kd.R_drew)); exact HO153.out) hb); have n1_ := Aside0.mk (below_step (by repeat (first | (with_reducible first | exact HB.out | apply below_alloc | apply pw_below_drewN | apply below_drew1) | exact HB.out)) hb); clear HO153; clear HB; have HO153 := n0_; have HB := n1_; clear n0_ n1_; (try clear hb); (try clear hb2); (try clear hk); (try clear hi)))
              go_ret
              exact ⟨by first | rfl | (simp [errW_none, errW_some] <;> rfl) | (simp [*, errW_none, errW_some] <;> rfl), by repeat (first | (with_reducible first | exact HB.out | apply below_alloc | apply pw_below_drewN | apply below_drew1) | exact HB.out)⟩
        · rw [if_neg c5] at H
          exact absurd H (by simp)
      · rw [if_neg c4] at H
        have c4b0 : ((l0.length : Int) == 1) = false := beq_eq_false_iff_ne.mpr c4
        have c4b1 : ((l0.length : Int) != 1) = true := bne_iff_ne.mpr c4
        replace H := Option.bind_eq_some_iff.mp H
        obtain ⟨⟨t157, t158⟩, A690, H⟩ := H
        replace H : ((impl_ReadBool.f (([255] : List Int))).bind fun bt162 => (if (t158 == false) = true then (if bt162.1 = true then (some bt162.2) else (some false)) else (some false))) = some r := H
        have A69 := Aside0.mk A690
        clear A690
        obtain ⟨y159, hy159⟩ : ∃ y_ : List Int, y_ = (([255] : List Int)) := ⟨_, rfl⟩
        replace H : ((impl_ReadBool.f y159).bind fun bt162 => (if (t158 == false) = true then (if bt162.1 = true then (some bt162.2) else (some false)) else (some false))) = some r := by first | (rw [hy159]; with_reducible exact H) | (have H2_ := (Option.bind_some _ _).symm.trans H; rw [hy159]; with_reducible exact H2_) | (have H2_ := (Option.bind_some _ _).symm.trans H; with_reducible exact H2_) | with_reducible exact H | (rw [hy159]; exact H) | exact H
        have Ny159 := Aside0.mk hy159
        clear hy159
        replace H := Option.bind_eq_some_iff.mp H
        obtain ⟨⟨t162, t163⟩, A700, H⟩ := H
        replace H : (if (t158 == false) = true then (if t162 = true then (some t163) else (some false)) else (some false)) = some r := H
        have A70 := Aside0.mk A700
        clear A700
        by_cases c71 : (t158 == false) = true
        · rw [if_pos c71] at H
          have c71b0 : (t158 == false) = true := c71
          (try (have c71b1 : t158 = false := bool_eq_of _ _ (by simpa using c71)))
          (try (have c71b2 : decide (t158 = false) = true := by simpa using c71))
          (try (have c71b3 : (t158 == false) = true := by simpa using c71))
          clear c71
          by_cases c72 : t162 = true
          · subst c72
            have H1 : (some t163) = some r := by rw [if_pos rfl] at H; exact H
            clear H
            have H := H1
            clear H1
            obtain rfl := Option.some.inj H
            go_enter Try.func4, Try.ntmps4
            go_wp2_with (first | ((with_reducible refine gate_callee (f := 16) rfl ?_); refine goesL_ (some 31) rfl rfl Try.func16 (by kernel_rfl) rfl #[.slice A0 l0.length c0] rfl (by (try simp only [List.map_toArray, List.map_cons, List.map_nil]); first | done | rfl | (simp only [List.length_drop, List.length_take]; rfl)) ?_; (with_reducible refine (impl_ReadBool.calls _ _ l0 t157 t158 _ ?side1 ?side2 A69.out).mono ?_); (case side1 => repeat (first | exact HR0.out | (with_reducible refine Kd.C_alloc ?_ _) | (with_reducible refine Kd.C_drewN ?_ _) | (with_reducible refine Kd.C_drew ?_))); (case side2 => exact HC0.out); rintro e w73 ⟨rfl, hb⟩; refine ⟨_, rfl, ?_⟩; have n0_ := Aside0.mk (below_step (by repeat (first | (with_reducible first | exact HB.out | apply below_alloc | apply pw_below_drewN | apply below_drew1) | exact HB.out)) hb); clear HB; have HB := n0_; clear n0_; (try clear hb); (try clear hb2); (try clear hk); (try clear hi)) | ((with_reducible refine gate_dst (N := 35) rfl ?_); refine Kd.R_lit (Kd.int .u8) _ 5 ?hg (N := 35) ?hd (xs := ([255] : List Int)) (inner := [.int .u8 255]) (ok := fun _ => True) (okp := fun _ => True) ?hr ?hp (fun _ hk => hk) trivial (Below.refl _ _) (Nat.le_refl _) (by simp) ?_; (case hd => rfl); (case hg => rfl); (case hr => first | (go_simp; done) | (go_simp; rfl)); (case hp => exact (Reps.one (show Kd.M (Kd.int .u8) _ _ _ 255 [.int .u8 255] from rfl) (Reps.none _ _))); intro v160 w74 ho75 hb hg_ hnew_; clear hg_ hnew_; (first | rw [← Ny159.out] at ho75 | (simp only [Int.reduceToNat] at ho75; rw [← Ny159.out] at ho75)); have n0_ := Aside0.mk (Kd.R_lower ho75 (below_size (by repeat (first | (with_reducible first | exact HB.out | apply below_alloc | apply pw_below_drewN | apply below_drew1) | exact HB.out)))); have n1_ := Aside0.mk (below_step (by repeat (first | (with_reducible first | exact HB.out | apply below_alloc | apply pw_below_drewN | apply below_drew1) | exact HB.out)) hb); clear HB; have HO161 := n0_; have HB := n1_; clear n0_ n1_; clear hb ho75; obtain ⟨Ao76, co76, eo76⟩ := Kd.R_slice HO161.out; subst eo76) | ((with_reducible refine gate_callee (f := 16) rfl ?_); refine goesL_ (some 36) rfl rfl Try.func16 (by kernel_rfl) rfl #[.slice Ao76 y159.length co76] rfl (by (try simp only [List.map_toArray, List.map_cons, List.map_nil]); first | done | rfl | (simp only [List.length_drop, List.length_take]; rfl)) ?_; (with_reducible refine (impl_ReadBool.calls _ _ y159 true t163 _ ?side1 ?side2 A70.out).mono ?_); (case side1 => repeat (first | exact (Kd.R_reads' HO161.out).2.2 | (with_reducible refine Kd.C_alloc ?_ _) | (with_reducible refine Kd.C_drewN ?_ _) | (with_reducible refine Kd.C_drew ?_))); (case side2 => exact (Kd.R_reads' HO161.out).2.1); rintro e w77 ⟨rfl, hb⟩; refine ⟨_, rfl, ?_⟩; have n0_ := Aside0.mk (Kd.R_below (by (with_reducible repeat (first | apply Kd.R_alloc | apply Kd.R_drewN | apply Kd.R_drew)); exact HO161.out) hb); have n1_ := Aside0.mk (below_step (by repeat (first | (with_reducible first | exact HB.out | apply below_alloc | apply pw_below_drewN | apply below_drew1) | exact HB.out)) hb); clear HO161; clear HB; have HO161 := n0_; have HB := n1_; clear n0_ n1_; (try clear hb); (try clear hb2); (try clear hk); (try clear hi)))
            go_ret
            exact ⟨by first | rfl | (simp [errW_none, errW_some] <;> rfl) | (simp [*, errW_none, errW_some] <;> rfl), by repeat (first | (with_reducible first | exact HB.out | apply below_alloc | apply pw_below_drewN | apply below_drew1) | exact HB.out)⟩
          · replace c72 := Bool.eq_false_iff.mpr c72
            subst c72
            have H1 : (some false) = some r := by rw [if_neg (show ¬ (false = true) by decide)] at H; exact H
            clear H
            have H := H1
            clear H1
            obtain rfl := Option.some.inj H
            go_enter Try.func4, Try.ntmps4
            go_wp2_with (first | ((with_reducible refine gate_callee (f := 16) rfl ?_); refine goesL_ (some 31) rfl rfl Try.func16 (by kernel_rfl) rfl #[.slice A0 l0.length c0] rfl (by (try simp only [List.map_toArray, List.map_cons, List.map_nil]); first | done | rfl | (simp only [List.length_drop, List.length_take]; rfl)) ?_; (with_reducible refine (impl_ReadBool.calls _ _ l0 t157 t158 _ ?side1 ?side2 A69.out).mono ?_); (case side1 => repeat (first | exact HR0.out | (with_reducible refine Kd.C_alloc ?_ _) | (with_reducible refine Kd.C_drewN ?_ _) | (with_reducible refine Kd.C_drew ?_))); (case side2 => exact HC0.out); rintro e w78 ⟨rfl, hb⟩; refine ⟨_, rfl, ?_⟩; have n0_ := Aside0.mk (below_step (by repeat (first | (with_reducible first | exact HB.out | apply below_alloc | apply pw_below_drewN | apply below_drew1) | exact HB.out)) hb); clear HB; have HB := n0_; clear n0_; (try clear hb); (try clear hb2); (try clear hk); (try clear hi)) | ((with_reducible refine gate_dst (N := 35) rfl ?_); refine Kd.R_lit (Kd.int .u8) _ 5 ?hg (N := 35) ?hd (xs := ([255] : List Int)) (inner := [.int .u8 255]) (ok := fun _ => True) (okp := fun _ => True) ?hr ?hp (fun _ hk => hk) trivial (Below.refl _ _) (Nat.le_refl _) (by simp) ?_; (case hd => rfl); (case hg => rfl); (case hr => first | (go_simp; done) | (go_simp; rfl)); (case hp => exact (Reps.one (show Kd.M (Kd.int .u8) _ _ _ 255 [.int .u8 255] from rfl) (Reps.none _ _))); intro v160 w79 ho80 hb hg_ hnew_; clear hg_ hnew_; (first | rw [← Ny159.out] at ho80 | (simp only [Int.reduceToNat] at ho80; rw [← Ny159.out] at ho80)); have n0_ := Aside0.mk (Kd.R_lower ho80 (below_size (by repeat (first | (with_reducible first | exact HB.out | apply below_alloc | apply pw_below_drewN | apply below_drew1) | exact HB.out)))); have n1_ := Aside0.mk (below_step (by repeat (first | (with_reducible first | exact HB.out | apply below_alloc | apply pw_below_drewN | apply below_drew1) | exact HB.out)) hb); clear HB; have HO161 := n0_; have HB := n1_; clear n0_ n1_; clear hb ho80; obtain ⟨Ao81, co81, eo81⟩ := Kd.R_slice HO161.out; subst eo81) | ((with_reducible refine gate_callee (f := 16) rfl ?_); refine goesL_ (some 36) rfl rfl Try.func16 (by kernel_rfl) rfl #[.slice Ao81 y159.length co81] rfl (by (try simp only [List.map_toArray, List.map_cons, List.map_nil]); first | done | rfl | (simp only [List.length_drop, List.length_take]; rfl)) ?_; (with_reducible refine (impl_ReadBool.calls _ _ y159 false t163 _ ?side1 ?side2 A70.out).mono ?_); (case side1 => repeat (first | exact (Kd.R_reads' HO161.out).2.2 | (with_reducible refine Kd.C_alloc ?_ _) | (with_reducible refine Kd.C_drewN ?_ _) | (with_reducible refine Kd.C_drew ?_))); (case side2 => exact (Kd.R_reads' HO161.out).2.1); rintro e w82 ⟨rfl, hb⟩; refine ⟨_, rfl, ?_⟩; have n0_ := Aside0.mk (Kd.R_below (by (with_reducible repeat (first | apply Kd.R_alloc | apply Kd.R_drewN | apply Kd.R_drew)); exact HO161.out) hb); have n1_ := Aside0.mk (below_step (by repeat (first | (with_reducible first | exact HB.out | apply below_alloc | apply pw_below_drewN | apply below_drew1) | exact HB.out)) hb); clear HO161; clear HB; have HO161 := n0_; have HB := n1_; clear n0_ n1_; (try clear hb); (try clear hb2); (try clear hk); (try clear hi)))
            go_ret
            exact ⟨by first | rfl | (simp [errW_none, errW_some] <;> rfl) | (simp [*, errW_none, errW_some] <;> rfl), by repeat (first | (with_reducible first | exact HB.out | apply below_alloc | apply pw_below_drewN | apply below_drew1) | exact HB.out)⟩
        · rw [if_neg c71] at H
          have c71b0 : (t158 == false) = false := by simpa using c71
          (try (have c71b1 : t158 = !(false) := bool_ne_of _ _ (by simpa using c71)))
          (try (have c71b2 : decide (t158 = false) = false := by simpa using c71))
          (try (have c71b3 : (t158 == false) = false := by simpa using c71))
          (try (have c71b4 : ¬ (t158 = false) := by simpa using c71))
          clear c71
          obtain rfl := Option.some.inj H
          go_enter Try.func4, Try.ntmps4
          go_wp2_with (first | ((with_reducible refine gate_callee (f := 16) rfl ?_); refine goesL_ (some 31) rfl rfl Try.func16 (by kernel_rfl) rfl #[.slice A0 l0.length c0] rfl (by (try simp only [List.map_toArray, List.map_cons, List.map_nil]); first | done | rfl | (simp only [List.length_drop, List.length_take]; rfl)) ?_; (with_reducible refine (impl_ReadBool.calls _ _ l0 t157 t158 _ ?side1 ?side2 A69.out).mono ?_); (case side1 => repeat (first | exact HR0.out | (with_reducible refine Kd.C_alloc ?_ _) | (with_reducible refine Kd.C_drewN ?_ _) | (with_reducible refine Kd.C_drew ?_))); (case side2 => exact HC0.out); rintro e w83 ⟨rfl, hb⟩; refine ⟨_, rfl, ?_⟩; have n0_ := Aside0.mk (below_step (by repeat (first | (with_reducible first | exact HB.out | apply below_alloc | apply pw_below_drewN | apply below_drew1) | exact HB.out)) hb); clear HB; have HB := n0_; clear n0_; (try clear hb); (try clear hb2); (try clear hk); (try clear hi)) | ((with_reducible refine gate_dst (N := 35) rfl ?_); refine Kd.R_lit (Kd.int .u8) _ 5 ?hg (N := 35) ?hd (xs := ([255] : List Int)) (inner := [.int .u8 255]) (ok := fun _ => True) (okp := fun _ => True) ?hr ?hp (fun _ hk => hk) trivial (Below.refl _ _) (Nat.le_refl _) (by simp) ?_; (case hd => rfl); (case hg => rfl); (case hr => first | (go_simp; done) | (go_simp; rfl)); (case hp => exact (Reps.one (show Kd.M (Kd.int .u8) _ _ _ 255 [.int .u8 255] from rfl) (Reps.none _ _))); intro v160 w84 ho85 hb hg_ hnew_; clear hg_ hnew_; (first | rw [← Ny159.out] at ho85 | (simp only [Int.reduceToNat] at ho85; rw [← Ny159.out] at ho85)); have n0_ := Aside0.mk (Kd.R_lower ho85 (below_size (by repeat (first | (with_reducible first | exact HB.out | apply below_alloc | apply pw_below_drewN | apply below_drew1) | exact HB.out)))); have n1_ := Aside0.mk (below_step (by repeat (first | (with_reducible first | exact HB.out | apply below_alloc | apply pw_below_drewN | apply below_drew1) | exact HB.out)) hb); clear HB; have HO161 := n0_; have HB := n1_; clear n0_ n1_; clear hb ho85; obtain ⟨Ao86, co86, eo86⟩ := Kd.R_slice HO161.out; subst eo86) | ((with_reducible refine gate_callee (f := 16) rfl ?_); refine goesL_ (some 36) rfl rfl Try.func16 (by kernel_rfl) rfl #[.slice Ao86 y159.length co86] rfl (by (try simp only [List.map_toArray, List.map_cons, List.map_nil]); first | done | rfl | (simp only [List.length_drop, List.length_take]; rfl)) ?_; (with_reducible refine (impl_ReadBool.calls _ _ y159 t162 t163 _ ?side1 ?side2 A70.out).mono ?_); (case side1 => repeat (first | exact (Kd.R_reads' HO161.out).2.2 | (with_reducible refine Kd.C_alloc ?_ _) | (with_reducible refine Kd.C_drewN ?_ _) | (with_reducible refine Kd.C_drew ?_))); (case side2 => exact (Kd.R_reads' HO161.out).2.1); rintro e w87 ⟨rfl, hb⟩; refine ⟨_, rfl, ?_⟩; have n0_ := Aside0.mk (Kd.R_below (by (with_reducible repeat (first | apply Kd.R_alloc | apply Kd.R_drewN | apply Kd.R_drew)); exact HO161.out) hb); have n1_ := Aside0.mk (below_step (by repeat (first | (with_reducible first | exact HB.out | apply below_alloc | apply pw_below_drewN | apply below_drew1) | exact HB.out)) hb); clear HO161; clear HB; have HO161 := n0_; have HB := n1_; clear n0_ n1_; (try clear hb); (try clear hb2); (try clear hk); (try clear hi)))
          go_ret
          exact ⟨by first | rfl | (simp [errW_none, errW_some] <;> rfl) | (simp [*, errW_none, errW_some] <;> rfl), by repeat (first | (with_reducible first | exact HB.out | apply below_alloc | apply pw_below_drewN | apply below_drew1) | exact HB.out)⟩

/-- THE ONE PURE STATEMENT of laws_FnReadBool: yours. -/
def laws_FnReadBool.Pure : Prop := ∀ (l0 : List Int), l0.length ≤ maxLen → l0.length * 1 ≤ 140737488351232 → (∀ x ∈ l0, (Lit.int .u8 x).wf = true) → laws_FnReadBool.f l0 = some true
theorem laws_FnReadBool.walk (P : laws_FnReadBool.Pure) (a0 : Option Addr) (len0 cap0 : Nat) (z0 : List Int) (w : World) (w0 : (a0 = none ∧ len0 = 0 ∧ cap0 = 0 ∧ z0 = []) ∨ ∃ x, a0 = some x ∧ len0 ≤ cap0 ∧ cap0 ≤ maxLen ∧ z0.length = cap0 ∧ (∀ i, i < z0.length → w.cell? (x.add i) = some (.int .u8 (z0.getD i 0))) ∧ ∀ n ∈ z0, (Lit.int .u8 n).wf = true) (y0 : len0 * 1 ≤ 140737488351232) :
    Calls Try.prog 4 #[.slice a0 len0 cap0] w fun e w' => e = .returned (.bool true) ∧ Below w.heap.size w w' := by
  obtain ⟨l0, rfl, hr0, hm0, hw0, hc0⟩ := ReadsInt.ofRowC w0
  have h := P l0 hm0 y0 hw0
  refine (laws_FnReadBool.calls _ _ l0 true w (Kd.C_of_reads (d := (0 : Int)) (h1 := fun _ => rfl) hr0) hc0 h).mono ?_
  rintro e w' ⟨rfl, hd⟩
  exact ⟨rfl, hd⟩

-- NOT PRINTED: function 49 (asn1_parseBitString)

-- NOT PRINTED: function 39 (asn1_ZZBits)

-- NOT PRINTED: function 17 (impl_ReadBits)

/-! ### bytes_Equal: function 18 -/
def bytes_Equal.f (l0 : List Int) (l1 : List Int) : Option (Bool) := some ((strOfNums l0).toList == (strOfNums l1).toList)
set_option maxHeartbeats 8000000 in
set_option maxRecDepth 100000 in
theorem bytes_Equal.calls (A0 : Option Addr) (c0 : Nat) (l0 : List Int) (A1 : Option Addr) (c1 : Nat) (l1 : List Int) (r : Bool) (w : World) (hr0 : Kd.C (Kd.int .u8) w A0 l0.length l0) (hc0 : l0.length ≤ c0) (hr1 : Kd.C (Kd.int .u8) w A1 l1.length l1) (hc1 : l1.length ≤ c1) (h : bytes_Equal.f l0 l1 = some r) :
    Calls Try.prog 18 #[.slice A0 l0.length c0, .slice A1 l1.length c1] w fun e w' => e = .returned (.bool r) ∧ Drawn0 w w' := by
  have HR0 := Aside0.mk hr0
  have HC0 := Aside0.mk hc0
  clear hr0 hc0
  have HR1 := Aside0.mk hr1
  have HC1 := Aside0.mk hc1
  clear hr1 hc1
  have H : (some ((strOfNums l0).toList == (strOfNums l1).toList)) = some r := h
  clear h
  obtain rfl := Option.some.inj H
  have hcv3 := Kd.C_string (P := Try.prog) (A := A0) (c := c0) Try.underlying22 Try.underlying5 Try.underlying9 HR0.out
  have hcv4 := Kd.C_string (P := Try.prog) (A := A1) (c := c1) Try.underlying22 Try.underlying5 Try.underlying9 HR1.out
  go_enter Try.func18, Try.ntmps18
  go_wp2
  go_ret
  exact ⟨by first | rfl | (simp; done) | (simp [*]; done), by repeat (first | exact Drawn0.refl _ | apply Drawn0.step)⟩

-- NOT PRINTED: function 5 (laws_FnReadBits)

/-! ### asn1_base128IntLength: function 57 -/
def asn1_base128IntLength.l0 : Nat → Int → Int → Option (Int)
  | 0, _, _ => none
  | k + 1, x3, x4 => if x4 > 0 then (asn1_base128IntLength.l0 k (wrap64 (x3 + 1)) (x4 / 128)) else (some x3)
def asn1_base128IntLength.f (k : Nat) (a0 : Int) : Option (Int) := if a0 = 0 then (some 1) else (asn1_base128IntLength.l0 k 0 a0)
theorem asn1_base128IntLength.mono_l : ∀ k, (∀ y0 y1, LeO (asn1_base128IntLength.l0 k y0 y1) (asn1_base128IntLength.l0 (k + 1) y0 y1))
  | 0 => fun _ _ r h => by simp [asn1_base128IntLength.l0] at h
  | k + 1 => by
    have ih0 := asn1_base128IntLength.mono_l k
    · intro y0 y1
      unfold asn1_base128IntLength.l0
      repeat' first
      | (with_reducible exact ih0 _ _)
      | (with_reducible exact LeO.refl _)
      | (with_reducible exact LeO.none _)
      | (with_reducible refine LeO.ite ?_ ?_)
      | (with_reducible refine LeO.bind ?_ (fun _ => ?_))
      | exact ih0 _ _
      | exact LeO.none _
      | refine LeO.ite ?_ ?_
      | refine LeO.bind ?_ (fun _ => ?_)
theorem asn1_base128IntLength.mono : ∀ a0 k, LeO (asn1_base128IntLength.f k a0) (asn1_base128IntLength.f (k + 1) a0) := by
  intro a0 k
  have ih0 := asn1_base128IntLength.mono_l k
  unfold asn1_base128IntLength.f
  repeat' first
      | (with_reducible exact ih0 _ _)
      | (with_reducible exact LeO.refl _)
      | (with_reducible exact LeO.none _)
      | (with_reducible refine LeO.ite ?_ ?_)
      | (with_reducible refine LeO.bind ?_ (fun _ => ?_))
      | exact ih0 _ _
      | exact LeO.none _
      | refine LeO.ite ?_ ?_
      | refine LeO.bind ?_ (fun _ => ?_)
set_option maxHeartbeats 8000000 in
set_option maxRecDepth 100000 in
theorem asn1_base128IntLength.calls (k : Nat) (a0 : Int) (r : Int) (w : World) (h : asn1_base128IntLength.f k a0 = some r) :
    Calls Try.prog 57 #[.int .i64 a0] w fun e w' => e = .returned (.int .i64 r) ∧ Drawn0 w w' := by
  have H : (if a0 = 0 then (some 1) else (asn1_base128IntLength.l0 k 0 a0)) = some r := h
  clear h
  by_cases c2 : a0 = 0
  · rw [if_pos c2] at H
    have c2b0 : (a0 == 0) = true := beq_iff_eq.mpr c2
    have c2b1 : (a0 != 0) = false := bne_eq_false_iff_eq.mpr c2
    clear c2
    obtain rfl := Option.some.inj H
    go_enter Try.func57, Try.ntmps57
    go_wp2
    go_ret
    exact ⟨by first | rfl | (simp; done) | (simp [*]; done), by repeat (first | exact Drawn0.refl _ | apply Drawn0.step)⟩
  · rw [if_neg c2] at H
    have c2b0 : (a0 == 0) = false := beq_eq_false_iff_ne.mpr c2
    have c2b1 : (a0 != 0) = true := bne_iff_ne.mpr c2
    have H' := Aside0.mk H
    clear H
    go_enter Try.func57, Try.ntmps57
    go_wp2
    go_loopg [3, 4] k (fun kq v3 v4 w' => ∃ (x3_1 : Int) (x4_1 : Int), v3 = .int .i64 x3_1 ∧ v4 = .int .i64 x4_1 ∧ Aside0 (asn1_base128IntLength.l0 kq x3_1 x4_1 = some r) ∧ Aside0 (kq ≤ k) ∧ Drawn0 w w')
    case atStart => exact ⟨(0), (a0), (by first | rfl | (simp; done) | (simp [*]; done)), (by first | rfl | (simp; done) | (simp [*]; done)), H', ⟨Nat.le_refl _⟩, by repeat (first | exact Drawn0.refl _ | apply Drawn0.step)⟩
    case round =>
      clear H'
      try clear c2
      try clear c2b0
      try clear c2b1
      try clear p2
      obtain ⟨x3_1, x4_1, rfl, rfl, HA, HK1, ⟨m1, rfl⟩⟩ := hrel
      cases gk with
      | zero => exact absurd HA.out (by simp [asn1_base128IntLength.l0])
      | succ k1 =>
        have H := HA.out
        clear HA
        simp only [asn1_base128IntLength.l0] at H
        by_cases c3 : x4_1 > 0
        · rw [if_pos c3] at H
          have c3b0 : decide (0 < x4_1) = true := decide_eq_true c3
          clear c3
          have H' := Aside0.mk H
          clear H
          go_wp2
          go_roundg k1
          case measure => have := HK1.out; omega
          case rel => exact ⟨(wrap64 (x3_1 + 1)), (x4_1 / 128), (by first | rfl | (simp; done) | (simp [*]; done)), (by first | rfl | (simp; done) | (simp [*]; done)), H', ⟨by have := HK1.out; omega⟩, by repeat (first | exact Drawn0.refl _ | apply Drawn0.step)⟩
        · rw [if_neg c3] at H
          have c3b0 : decide (0 < x4_1) = false := decide_eq_false c3
          clear c3
          obtain rfl := Option.some.inj H
          go_wp2
          go_ret
          exact ⟨by first | rfl | (simp; done) | (simp [*]; done), by repeat (first | exact Drawn0.refl _ | apply Drawn0.step)⟩

/-! ### asn1_appendBase128Int: function 50 -/
def asn1_appendBase128Int.l0 : Nat → List Int → Int → Int → Option (List Int)
  | 0, _, _, _ => none
  | k + 1, x0, x1, x6 => if x6 ≥ 0 then (if 0 ≤ (IntKind.u64.wrap (wrap64 (x6 * 7))) then (if x6 = 0 then (if x0.length < 140737488355328 then (asn1_appendBase128Int.l0 k (x0 ++ [Go.bits .and .u8 ((shr .i64 x1 (IntKind.u64.wrap (wrap64 (x6 * 7)))) % 256) 127]) x1 (wrap64 (x6 - 1))) else (none)) else (if x0.length < 140737488355328 then (asn1_appendBase128Int.l0 k (x0 ++ [Go.bits .or .u8 (Go.bits .and .u8 ((shr .i64 x1 (IntKind.u64.wrap (wrap64 (x6 * 7)))) % 256) 127) 128]) x1 (wrap64 (x6 - 1))) else (none))) else (none)) else (some x0)
def asn1_appendBase128Int.f (k : Nat) (l0 : List Int) (a1 : Int) : Option (List Int) := (asn1_base128IntLength.f k a1).bind fun t187 => (asn1_appendBase128Int.l0 k l0 a1 (wrap64 (t187 - 1)))
theorem asn1_appendBase128Int.mono_l : ∀ k, (∀ y0 y1 y2, LeO (asn1_appendBase128Int.l0 k y0 y1 y2) (asn1_appendBase128Int.l0 (k + 1) y0 y1 y2))
  | 0 => fun _ _ _ r h => by simp [asn1_appendBase128Int.l0] at h
  | k + 1 => by
    have ih0 := asn1_appendBase128Int.mono_l k
    · intro y0 y1 y2
      unfold asn1_appendBase128Int.l0
      repeat' first
      | (with_reducible exact ih0 _ _ _)
      | (with_reducible exact asn1_base128IntLength.mono _ _)
      | (with_reducible exact LeO.refl _)
      | (with_reducible exact LeO.none _)
      | (with_reducible refine LeO.ite ?_ ?_)
      | (with_reducible refine LeO.bind ?_ (fun _ => ?_))
      | exact ih0 _ _ _
      | exact asn1_base128IntLength.mono _ _
      | exact LeO.none _
      | refine LeO.ite ?_ ?_
      | refine LeO.bind ?_ (fun _ => ?_)
theorem asn1_appendBase128Int.mono : ∀ a0 a1 k, LeO (asn1_appendBase128Int.f k a0 a1) (asn1_appendBase128Int.f (k + 1) a0 a1) := by
  intro a0 a1 k
  have ih0 := asn1_appendBase128Int.mono_l k
  unfold asn1_appendBase128Int.f
  repeat' first
      | (with_reducible exact ih0 _ _ _)
      | (with_reducible exact asn1_base128IntLength.mono _ _)
      | (with_reducible exact LeO.refl _)
      | (with_reducible exact LeO.none _)
      | (with_reducible refine LeO.ite ?_ ?_)
      | (with_reducible refine LeO.bind ?_ (fun _ => ?_))
      | exact ih0 _ _ _
      | exact asn1_base128IntLength.mono _ _
      | exact LeO.none _
      | refine LeO.ite ?_ ?_
      | refine LeO.bind ?_ (fun _ => ?_)
set_option maxHeartbeats 8000000 in
set_option maxRecDepth 100000 in
theorem asn1_appendBase128Int.calls (k : Nat) (P0_ : Nat → Prop) (u9000_ : Value) (l0 : List Int) (a1 : Int) (r : List Int) (w0 w : World) (hB : Below w0.heap.size w0 w) (ho0 : Kd.R (Kd.int .u8) 5 w w0.heap.size P0_ u9000_ l0) (h : asn1_appendBase128Int.f k l0 a1 = some r) :
    Calls Try.prog 50 #[u9000_, .int .i64 a1] w fun e w' => ∃ v0_ : Value, e = .returned (v0_) ∧ Kd.R (Kd.int .u8) 5 w' w0.heap.size (fun k_ => (P0_ k_ ∨ w.heap.size ≤ k_)) v0_ r ∧ Below w0.heap.size w0 w' ∧ Kept w w' (fun k_ => P0_ k_) := by
  have HO0 := Aside0.mk (show Kd.R (Kd.int .u8) 5 w w0.heap.size (fun k_ => (P0_ k_ ∨ w.heap.size ≤ k_)) u9000_ l0 from Kd.R_mono ho0 (fun k_ hk => (.inl hk)))
  have HK := Aside0.mk (Kept.refl w (fun k_ => P0_ k_))
  have HW0 := Aside0.mk hB.size
  have HB := Aside0.mk hB
  clear hB
  have H : ((asn1_base128IntLength.f k a1).bind fun t187 => (asn1_appendBase128Int.l0 k l0 a1 (wrap64 (t187 - 1)))) = some r := h
  clear h
  replace H := Option.bind_eq_some_iff.mp H
  obtain ⟨t187, A30, H⟩ := H
  replace H : (asn1_appendBase128Int.l0 k l0 a1 (wrap64 (t187 - 1))) = some r := H
  have A3 := Aside0.mk A30
  clear A30
  have H' := Aside0.mk H
  clear H
  go_enter Try.func50, Try.ntmps50
  go_wp2_with (first | ((with_reducible refine gate_callee (f := 57) rfl ?_); refine goesL_ (some 9) rfl rfl Try.func57 (by kernel_rfl) rfl #[.int .i64 a1] rfl (by (try simp only [List.map_toArray, List.map_cons, List.map_nil]); first | done | rfl | (simp only [List.length_drop, List.length_take]; rfl)) ?_; (with_reducible refine (asn1_base128IntLength.calls k a1 t187 _ A3.out).mono ?_); rintro e w' ⟨rfl, ⟨nd, rfl⟩⟩; refine ⟨_, rfl, ?_⟩))
  go_loopg [0, 6] k (fun kq v0 v6 w' => ∃ (x0_1 : List Int) (x6_1 : Int), v6 = .int .i64 x6_1 ∧ Aside0 (asn1_appendBase128Int.l0 kq x0_1 a1 x6_1 = some r) ∧ Aside0 (kq ≤ k) ∧ Aside0 (Kd.R (Kd.int .u8) 5 w' w0.heap.size (fun k_ => (P0_ k_ ∨ w.heap.size ≤ k_)) v0 x0_1) ∧ Aside0 (Kept w w' (fun k_ => P0_ k_)) ∧ Aside0 (Below w0.heap.size w0 w'))
  case atStart => exact ⟨(l0), (wrap64 (t187 - 1)), (by first | rfl | (simp; done) | (simp [*]; done)), H', ⟨Nat.le_refl _⟩, ⟨by (with_reducible repeat (first | apply Kd.R_alloc | apply Kd.R_drewN | apply Kd.R_drew)); exact HO0.out⟩, ⟨by repeat (first | (with_reducible first | exact HK.out | apply Kept.alloc | apply Kept.drewN | apply Kept.drew) | exact HK.out)⟩, ⟨by repeat (first | (with_reducible first | exact HB.out | apply below_alloc | apply pw_below_drewN | apply below_drew1) | exact HB.out)⟩⟩
  case round =>
    clear H'
    try clear p2
    obtain ⟨x0_1, x6_1, rfl, HA, HK1, HO_0, HK, HB⟩ := hrel
    cases gk with
    | zero => exact absurd HA.out (by simp [asn1_appendBase128Int.l0])
    | succ k1 =>
      have H := HA.out
      clear HA
      simp only [asn1_appendBase128Int.l0] at H
      by_cases c4 : x6_1 ≥ 0
      · rw [if_pos c4] at H
        have c4b0 : decide (0 ≤ x6_1) = true := decide_eq_true c4
        clear c4
        obtain ⟨ji5, hji5⟩ : ∃ j_ : Int, (IntKind.u64.wrap (wrap64 (x6_1 * 7))) = j_ := ⟨_, rfl⟩
        replace H : (if 0 ≤ (ji5) then (if x6_1 = 0 then (if x0_1.length < 140737488355328 then (asn1_appendBase128Int.l0 k1 (x0_1 ++ [Go.bits .and .u8 ((shr .i64 a1 (ji5)) % 256) 127]) a1 (wrap64 (x6_1 - 1))) else (none)) else (if x0_1.length < 140737488355328 then (asn1_appendBase128Int.l0 k1 (x0_1 ++ [Go.bits .or .u8 (Go.bits .and .u8 ((shr .i64 a1 (ji5)) % 256) 127) 128]) a1 (wrap64 (x6_1 - 1))) else (none))) else (none)) = some r := by first | (rw [hji5] at H; exact H) | (simp only [hji5] at H ⊢; exact H)
        by_cases c6 : 0 ≤ (ji5)
        · rw [if_pos c6] at H
          have c6b0 := eq_true c6
          have c6b1 : decide (0 ≤ (ji5)) = true := decide_eq_true c6
          clear c6
          obtain ⟨ji7, hji7⟩ : ∃ j_ : Int, (shr .i64 a1 (ji5)) = j_ := ⟨_, rfl⟩
          replace H : (if x6_1 = 0 then (if x0_1.length < 140737488355328 then (asn1_appendBase128Int.l0 k1 (x0_1 ++ [Go.bits .and .u8 ((ji7) % 256) 127]) a1 (wrap64 (x6_1 - 1))) else (none)) else (if x0_1.length < 140737488355328 then (asn1_appendBase128Int.l0 k1 (x0_1 ++ [Go.bits .or .u8 (Go.bits .and .u8 ((ji7) % 256) 127) 128]) a1 (wrap64 (x6_1 - 1))) else (none))) = some r := by first | (rw [hji7] at H; exact H) | (simp only [hji7] at H ⊢; exact H)
          have hji7_ : (a1 / 2 ^ min (ji5).toNat 64) = ji7 := hji7
          have hji7z : (ji5) ≤ 64 → (a1 / 2 ^ (ji5).toNat) = ji7 := shr_small hji7
          by_cases c8 : x6_1 = 0
          · rw [if_pos c8] at H
            have c8b0 : (x6_1 == 0) = true := beq_iff_eq.mpr c8
            have c8b1 : (x6_1 != 0) = false := bne_eq_false_iff_eq.mpr c8
            clear c8
            by_cases c9 : x0_1.length < 140737488355328
            · rw [if_pos c9] at H
              have LMc9 := Aside0.mk c9
              clear c9
              obtain ⟨y188, hy188⟩ : ∃ y_ : List Int, y_ = (x0_1 ++ [Go.bits .and .u8 ((ji7) % 256) 127]) := ⟨_, rfl⟩
              replace H : (asn1_appendBase128Int.l0 k1 y188 a1 (wrap64 (x6_1 - 1))) = some r := by first | (rw [hy188]; with_reducible exact H) | (have H2_ := (Option.bind_some _ _).symm.trans H; rw [hy188]; with_reducible exact H2_) | (have H2_ := (Option.bind_some _ _).symm.trans H; with_reducible exact H2_) | with_reducible exact H | (rw [hy188]; exact H) | exact H
              have Ny188 := Aside0.mk hy188
              clear hy188
              have H' := Aside0.mk H
              clear H
              go_wp2_with (first | ((with_reducible refine gate_builtin (b := .append) (xs := #[.tmp 28, .tmp 30]) rfl ?_); at_builtin; refine Kd.R_append (Kd.int .u8) (w0 := w0) w0.heap.size rfl (.tmp 28) (.tmp 30) 22 5 (.int .u8 0) 1 rfl Try.underlying22 info5 rfl (by decide) (by omega) u0 x0_1 (Go.bits .and .u8 ((ji7) % 256) 127) [.int .u8 (Go.bits .and .u8 ((ji7) % 256) 127)] (fun k_ => (P0_ k_ ∨ w.heap.size ≤ k_)) (fun _ => False) rfl rfl ?aP (fun _ hk => hk.elim) ?aF ?aO ?aB ?aS ?aL ?_; (case aP => exact rfl); (case aB => exact (by repeat (first | (with_reducible first | exact HB.out | apply below_alloc | apply pw_below_drewN | apply below_drew1) | exact HB.out))); (case aF => exact (fun k_ hk => (.inr (Nat.le_trans (by first | exact HK.out.1 | exact (show Kept w _ (fun k_ => P0_ k_) from by repeat (first | (with_reducible first | exact HK.out | apply Kept.alloc | apply Kept.drewN | apply Kept.drew) | exact HK.out)).1) hk)))); (case aO => exact (by (with_reducible repeat (first | apply Kd.R_alloc | apply Kd.R_drewN | apply Kd.R_drew)); exact HO_0.out)); (case aS => exact (below_size (by repeat (first | (with_reducible first | exact HB.out | apply below_alloc | apply pw_below_drewN | apply below_drew1) | exact HB.out)))); (case aL => have := LMc9.out; omega); intro v189 w10 ho hb hg hat; rw [← Ny188.out] at ho; have n0_ := Aside0.mk (hb); have n1_ := Aside0.mk (Kept.of_grown (S := (fun k_ => P0_ k_)) hg (by repeat (first | (with_reducible first | exact HK.out | apply Kept.alloc | apply Kept.drewN | apply Kept.drew) | exact HK.out)) (fun k_ e_ => (HO_0.out.1 k_ e_))); have n2_ := Aside0.mk (ho); clear HB; clear HK; clear HO_0; have HB := n0_; have HK := n1_; have HO190 := n2_; clear n0_ n1_ n2_; clear ho hb hg hat))
              go_roundg k1
              case measure => have := HK1.out; omega
              case rel => exact ⟨(y188), (wrap64 (x6_1 - 1)), (by first | rfl | (simp; done) | (simp [*]; done)), H', ⟨by have := HK1.out; omega⟩, ⟨by (with_reducible repeat (first | apply Kd.R_alloc | apply Kd.R_drewN | apply Kd.R_drew)); exact HO190.out⟩, ⟨by repeat (first | (with_reducible first | exact HK.out | apply Kept.alloc | apply Kept.drewN | apply Kept.drew) | exact HK.out)⟩, ⟨by repeat (first | (with_reducible first | exact HB.out | apply below_alloc | apply pw_below_drewN | apply below_drew1) | exact HB.out)⟩⟩
            · rw [if_neg c9] at H
              exact absurd H (by simp)
          · rw [if_neg c8] at H
            have c8b0 : (x6_1 == 0) = false := beq_eq_false_iff_ne.mpr c8
            have c8b1 : (x6_1 != 0) = true := bne_iff_ne.mpr c8
            by_cases c11 : x0_1.length < 140737488355328
            · rw [if_pos c11] at H
              have LMc11 := Aside0.mk c11
              clear c11
              obtain ⟨y191, hy191⟩ : ∃ y_ : List Int, y_ = (x0_1 ++ [Go.bits .or .u8 (Go.bits .and .u8 ((ji7) % 256) 127) 128]) := ⟨_, rfl⟩
              replace H : (asn1_appendBase128Int.l0 k1 y191 a1 (wrap64 (x6_1 - 1))) = some r := by first | (rw [hy191]; with_reducible exact H) | (have H2_ := (Option.bind_some _ _).symm.trans H; rw [hy191]; with_reducible exact H2_) | (have H2_ := (Option.bind_some _ _).symm.trans H; with_reducible exact H2_) | with_reducible exact H | (rw [hy191]; exact H) | exact H
              have Ny191 := Aside0.mk hy191
              clear hy191
              have H' := Aside0.mk H
              clear H
              go_wp2_with (first | ((with_reducible refine gate_builtin (b := .append) (xs := #[.tmp 28, .tmp 30]) rfl ?_); at_builtin; refine Kd.R_append (Kd.int .u8) (w0 := w0) w0.heap.size rfl (.tmp 28) (.tmp 30) 22 5 (.int .u8 0) 1 rfl Try.underlying22 info5 rfl (by decide) (by omega) u0 x0_1 (Go.bits .or .u8 (Go.bits .and .u8 ((ji7) % 256) 127) 128) [.int .u8 (Go.bits .or .u8 (Go.bits .and .u8 ((ji7) % 256) 127) 128)] (fun k_ => (P0_ k_ ∨ w.heap.size ≤ k_)) (fun _ => False) rfl rfl ?aP (fun _ hk => hk.elim) ?aF ?aO ?aB ?aS ?aL ?_; (case aP => exact rfl); (case aB => exact (by repeat (first | (with_reducible first | exact HB.out | apply below_alloc | apply pw_below_drewN | apply below_drew1) | exact HB.out))); (case aF => exact (fun k_ hk => (.inr (Nat.le_trans (by first | exact HK.out.1 | exact (show Kept w _ (fun k_ => P0_ k_) from by repeat (first | (with_reducible first | exact HK.out | apply Kept.alloc | apply Kept.drewN | apply Kept.drew) | exact HK.out)).1) hk)))); (case aO => exact (by (with_reducible repeat (first | apply Kd.R_alloc | apply Kd.R_drewN | apply Kd.R_drew)); exact HO_0.out)); (case aS => exact (below_size (by repeat (first | (with_reducible first | exact HB.out | apply below_alloc | apply pw_below_drewN | apply below_drew1) | exact HB.out)))); (case aL => have := LMc11.out; omega); intro v192 w12 ho hb hg hat; rw [← Ny191.out] at ho; have n0_ := Aside0.mk (hb); have n1_ := Aside0.mk (Kept.of_grown (S := (fun k_ => P0_ k_)) hg (by repeat (first | (with_reducible first | exact HK.out | apply Kept.alloc | apply Kept.drewN | apply Kept.drew) | exact HK.out)) (fun k_ e_ => (HO_0.out.1 k_ e_))); have n2_ := Aside0.mk (ho); clear HB; clear HK; clear HO_0; have HB := n0_; have HK := n1_; have HO193 := n2_; clear n0_ n1_ n2_; clear ho hb hg hat))
              go_roundg k1
              case measure => have := HK1.out; omega
              case rel => exact ⟨(y191), (wrap64 (x6_1 - 1)), (by first | rfl | (simp; done) | (simp [*]; done)), H', ⟨by have := HK1.out; omega⟩, ⟨by (with_reducible repeat (first | apply Kd.R_alloc | apply Kd.R_drewN | apply Kd.R_drew)); exact HO193.out⟩, ⟨by repeat (first | (with_reducible first | exact HK.out | apply Kept.alloc | apply Kept.drewN | apply Kept.drew) | exact HK.out)⟩, ⟨by repeat (first | (with_reducible first | exact HB.out | apply below_alloc | apply pw_below_drewN | apply below_drew1) | exact HB.out)⟩⟩
            · rw [if_neg c11] at H
              exact absurd H (by simp)
        · rw [if_neg c6] at H
          exact absurd H (by simp)
      · rw [if_neg c4] at H
        have c4b0 : decide (0 ≤ x6_1) = false := decide_eq_false c4
        clear c4
        obtain rfl := Option.some.inj H
        go_wp2
        go_ret
        exact ⟨_, by first | rfl | (simp [errW_none, errW_some] <;> rfl) | (simp [*, errW_none, errW_some] <;> rfl), by (with_reducible repeat (first | apply Kd.R_alloc | apply Kd.R_drewN | apply Kd.R_drew)); exact HO_0.out, by repeat (first | (with_reducible first | exact HB.out | apply below_alloc | apply pw_below_drewN | apply below_drew1) | exact HB.out), by repeat (first | (with_reducible first | exact HK.out | apply Kept.alloc | apply Kept.drewN | apply Kept.drew) | exact HK.out)⟩

/-! ### asn1_ZZPutBase128: function 40 -/
def asn1_ZZPutBase128.f (k : Nat) (a0 : Int) : Option (List Int) := (asn1_appendBase128Int.f k ([] : List Int) a0).bind fun t194 => (some t194)
theorem asn1_ZZPutBase128.mono : ∀ a0 k, LeO (asn1_ZZPutBase128.f k a0) (asn1_ZZPutBase128.f (k + 1) a0) := by
  intro a0 k
  unfold asn1_ZZPutBase128.f
  repeat' first
      | (with_reducible exact asn1_appendBase128Int.mono _ _ _)
      | (with_reducible exact LeO.refl _)
      | (with_reducible exact LeO.none _)
      | (with_reducible refine LeO.ite ?_ ?_)
      | (with_reducible refine LeO.bind ?_ (fun _ => ?_))
      | exact asn1_appendBase128Int.mono _ _ _
      | exact LeO.none _
      | refine LeO.ite ?_ ?_
      | refine LeO.bind ?_ (fun _ => ?_)
set_option maxHeartbeats 8000000 in
set_option maxRecDepth 100000 in
theorem asn1_ZZPutBase128.calls (k : Nat) (a0 : Int) (r : List Int) (w : World) (h : asn1_ZZPutBase128.f k a0 = some r) :
    Calls Try.prog 40 #[.int .i64 a0] w fun e w' => ∃ v0_ : Value, e = .returned (v0_) ∧ Kd.R (Kd.int .u8) 5 w' w.heap.size (fun _ => True) v0_ r ∧ Below w.heap.size w w' := by
  have HB := Aside0.mk (Below.refl w.heap.size w)
  have H : ((asn1_appendBase128Int.f k ([] : List Int) a0).bind fun t194 => (some t194)) = some r := h
  clear h
  replace H := Option.bind_eq_some_iff.mp H
  obtain ⟨t194, A20, H⟩ := H
  replace H : (some t194) = some r := H
  have A2 := Aside0.mk A20
  clear A20
  obtain rfl := Option.some.inj H
  go_enter Try.func40, Try.ntmps40
  go_wp2_with (first | ((with_reducible refine gate_callee (f := 50) rfl ?_); refine goesL_ (some 4) rfl rfl Try.func50 (by kernel_rfl) rfl #[.slice none 0 0, .int .i64 a0] rfl (by (try simp only [List.map_toArray, List.map_cons, List.map_nil]); first | done | rfl | (simp only [List.length_drop, List.length_take]; rfl)) ?_; (refine (asn1_appendBase128Int.calls k (fun k_ => some k_ = (.slice none 0 0 : Value).ownBlock) (.slice none 0 0) ([] : List Int) a0 t194 w _ ?side1 ?side2 A2.out).mono ?_); (case side1 => repeat (first | (with_reducible first | exact HB.out | apply below_alloc | apply pw_below_drewN | apply below_drew1) | exact HB.out)); (case side2 => exact Kd.R_nil _ _ _ _ _); rintro e w3 ⟨v195, rfl, ho0, hb, hkp⟩; refine ⟨_, rfl, ?_⟩; have n0_ := Aside0.mk (Kd.R_mono (ok' := fun k_ => True) ho0 (fun k_ hk_ => trivial)); have n1_ := Aside0.mk (hb); clear HB; have HO196 := n0_; have HB := n1_; clear n0_ n1_; (try clear hb); (try clear hkp); (try clear ho0)))
  go_ret
  exact ⟨_, by first | rfl | (simp [errW_none, errW_some] <;> rfl) | (simp [*, errW_none, errW_some] <;> rfl), by (with_reducible repeat (first | apply Kd.R_alloc | apply Kd.R_drewN | apply Kd.R_drew)); exact HO196.out, by repeat (first | (with_reducible first | exact HB.out | apply below_alloc | apply pw_below_drewN | apply below_drew1) | exact HB.out)⟩

/-! ### impl_PutBase128: function 19 -/
def impl_PutBase128.f (k : Nat) (a0 : Int) : Option (List Int) := if a0 < 0 then (some ([] : List Int)) else ((asn1_ZZPutBase128.f k a0).bind fun t197 => (some t197))
theorem impl_PutBase128.mono : ∀ a0 k, LeO (impl_PutBase128.f k a0) (impl_PutBase128.f (k + 1) a0) := by
  intro a0 k
  unfold impl_PutBase128.f
  repeat' first
      | (with_reducible exact asn1_ZZPutBase128.mono _ _)
      | (with_reducible exact LeO.refl _)
      | (with_reducible exact LeO.none _)
      | (with_reducible refine LeO.ite ?_ ?_)
      | (with_reducible refine LeO.bind ?_ (fun _ => ?_))
      | exact asn1_ZZPutBase128.mono _ _
      | exact LeO.none _
      | refine LeO.ite ?_ ?_
      | refine LeO.bind ?_ (fun _ => ?_)
set_option maxHeartbeats 8000000 in
set_option maxRecDepth 100000 in
theorem impl_PutBase128.calls (k : Nat) (a0 : Int) (r : List Int) (w : World) (h : impl_PutBase128.f k a0 = some r) :
    Calls Try.prog 19 #[.int .i64 a0] w fun e w' => ∃ v0_ : Value, e = .returned (v0_) ∧ Kd.R (Kd.int .u8) 5 w' w.heap.size (fun _ => True) v0_ r ∧ Below w.heap.size w w' := by
  have HB := Aside0.mk (Below.refl w.heap.size w)
  have H : (if a0 < 0 then (some ([] : List Int)) else ((asn1_ZZPutBase128.f k a0).bind fun t197 => (some t197))) = some r := h
  clear h
  by_cases c2 : a0 < 0
  · rw [if_pos c2] at H
    have c2b0 : decide (a0 < 0) = true := decide_eq_true c2
    clear c2
    obtain rfl := Option.some.inj H
    go_enter Try.func19, Try.ntmps19
    go_wp2
    go_ret
    exact ⟨_, by first | rfl | (simp [errW_none, errW_some] <;> rfl) | (simp [*, errW_none, errW_some] <;> rfl), by first | exact Kd.R_nil _ _ _ _ _ | exact Kd.N_nil _ _ _ _ _ | exact Kd.V_nil _ _ _ _ _ | exact Kd.Q_nil _ _ _ _ _ | exact Kd.S_nil _ _ _ _ _, by repeat (first | (with_reducible first | exact HB.out | apply below_alloc | apply pw_below_drewN | apply below_drew1) | exact HB.out)⟩
  · rw [if_neg c2] at H
    have c2b0 : decide (a0 < 0) = false := decide_eq_false c2
    clear c2
    replace H := Option.bind_eq_some_iff.mp H
    obtain ⟨t197, A30, H⟩ := H
    replace H : (some t197) = some r := H
    have A3 := Aside0.mk A30
    clear A30
    obtain rfl := Option.some.inj H
    go_enter Try.func19, Try.ntmps19
    go_wp2_with (first | ((with_reducible refine gate_callee (f := 40) rfl ?_); refine goesL_ (some 6) rfl rfl Try.func40 (by kernel_rfl) rfl #[.int .i64 a0] rfl (by (try simp only [List.map_toArray, List.map_cons, List.map_nil]); first | done | rfl | (simp only [List.length_drop, List.length_take]; rfl)) ?_; (with_reducible refine (asn1_ZZPutBase128.calls k a0 t197 _ A3.out).mono ?_); rintro e w4 ⟨v198, rfl, ho0, hb⟩; refine ⟨_, rfl, ?_⟩; have n0_ := Aside0.mk (Kd.R_lower ho0 (below_size (by repeat (first | (with_reducible first | exact HB.out | apply below_alloc | apply pw_below_drewN | apply below_drew1) | exact HB.out)))); have n1_ := Aside0.mk (below_step (by repeat (first | (with_reducible first | exact HB.out | apply below_alloc | apply pw_below_drewN | apply below_drew1) | exact HB.out)) hb); clear HB; have HO199 := n0_; have HB := n1_; clear n0_ n1_; (try clear hb); (try clear hb2); (try clear hk); (try clear hi); (try clear ho0)))
    go_ret
    exact ⟨_, by first | rfl | (simp [errW_none, errW_some] <;> rfl) | (simp [*, errW_none, errW_some] <;> rfl), by (with_reducible repeat (first | apply Kd.R_alloc | apply Kd.R_drewN | apply Kd.R_drew)); exact HO199.out, by repeat (first | (with_reducible first | exact HB.out | apply below_alloc | apply pw_below_drewN | apply below_drew1) | exact HB.out)⟩

end Go.Proofs.Ytapnkngcnlomhaa.QA
