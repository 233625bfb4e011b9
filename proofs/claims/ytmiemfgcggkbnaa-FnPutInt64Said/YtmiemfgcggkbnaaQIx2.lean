-- Written by a program of this work (wip/patch_print.py) for this claim.
import Derived.Test.YtmiemfgcggkbnaaQIx0
import Derived.Test.YtmiemfgcggkbnaaQIx1
namespace Go.Proofs.Ytmiemfgcggkbnaa.QI
open Go.RowKit Go.Proofs.YtmiemfgcggkbnaaW.PrintWords Go.Proofs.YtmiemfgcggkbnaaW.PrintLast Go.Proofs.YtmiemfgcggkbnaaW.PrintMore
attribute [local go_sem] max2_int min2_int max_two min_two max_three min_three max_four min_four   -- for this text's walks alone
set_option linter.unusedVariables false
set_option linter.unusedSimpArgs false

/-! ### impl_ReadInt64: function 38 -/
def impl_ReadInt64.f (k : Nat) (l0 : List Int) : Option (Int × Bool) := (impl_short.f l0).bind fun t117 => (if t117 = true then ((impl_copied.f l0).bind fun t118 => ((asn1_ZZInt64.f k t118).bind fun bt121 => (if bt121.2.isNone = true then (some (bt121.1, true)) else (some (0, false))))) else (some (0, false)))
theorem impl_ReadInt64.mono : ∀ a0 k, LeO (impl_ReadInt64.f k a0) (impl_ReadInt64.f (k + 1) a0) := by
  intro a0 k
  unfold impl_ReadInt64.f
  repeat' first
      | (with_reducible exact asn1_ZZInt64.mono _ _)
      | (with_reducible exact LeO.refl _)
      | (with_reducible exact LeO.none _)
      | (with_reducible refine LeO.ite ?_ ?_)
      | (with_reducible refine LeO.bind ?_ (fun _ => ?_))
      | exact asn1_ZZInt64.mono _ _
      | exact LeO.none _
      | refine LeO.ite ?_ ?_
      | refine LeO.bind ?_ (fun _ => ?_)
set_option maxHeartbeats 8000000 in
set_option maxRecDepth 100000 in
theorem impl_ReadInt64.calls (k : Nat) (A0 : Option Addr) (c0 : Nat) (l0 : List Int) (r1 : Int) (r2 : Bool) (w : World) (hr0 : Kd.C (Kd.int .u8) w A0 l0.length l0) (hc0 : l0.length ≤ c0) (h : impl_ReadInt64.f k l0 = some (r1, r2)) :
    Calls Try.prog 38 #[.slice A0 l0.length c0] w fun e w' => e = .returned (.tuple #[.int .i64 r1, .bool r2]) ∧ Below w.heap.size w w' := by
  have hu72 := Try.underlying72
  have HR0 := Aside0.mk hr0
  have HC0 := Aside0.mk hc0
  clear hr0 hc0
  have HB := Aside0.mk (Below.refl w.heap.size w)
  have H : ((impl_short.f l0).bind fun t117 => (if t117 = true then ((impl_copied.f l0).bind fun t118 => ((asn1_ZZInt64.f k t118).bind fun bt121 => (if bt121.2.isNone = true then (some (bt121.1, true)) else (some (0, false))))) else (some (0, false)))) = some (r1, r2) := h
  clear h
  replace H := Option.bind_eq_some_iff.mp H
  obtain ⟨t117, A20, H⟩ := H
  replace H : (if t117 = true then ((impl_copied.f l0).bind fun t118 => ((asn1_ZZInt64.f k t118).bind fun bt121 => (if bt121.2.isNone = true then (some (bt121.1, true)) else (some (0, false))))) else (some (0, false))) = some (r1, r2) := H
  have A2 := Aside0.mk A20
  clear A20
  by_cases c3 : t117 = true
  · subst c3
    have H1 : ((impl_copied.f l0).bind fun t118 => ((asn1_ZZInt64.f k t118).bind fun bt121 => (if bt121.2.isNone = true then (some (bt121.1, true)) else (some (0, false))))) = some (r1, r2) := by rw [if_pos rfl] at H; exact H
    clear H
    have H := H1
    clear H1
    replace H := Option.bind_eq_some_iff.mp H
    obtain ⟨t118, A40, H⟩ := H
    replace H : ((asn1_ZZInt64.f k t118).bind fun bt121 => (if bt121.2.isNone = true then (some (bt121.1, true)) else (some (0, false)))) = some (r1, r2) := H
    have A4 := Aside0.mk A40
    clear A40
    replace H := Option.bind_eq_some_iff.mp H
    obtain ⟨⟨t121, t122⟩, A50, H⟩ := H
    replace H : (if t122.isNone = true then (some (t121, true)) else (some (0, false))) = some (r1, r2) := H
    have A5 := Aside0.mk A50
    clear A50
    rcases t122 with _ | q123
    · have H1 : (some (t121, true)) = some (r1, r2) := by rw [if_pos (show (none : Option Int).isNone = true by rfl)] at H; exact H
      clear H
      have H := H1
      clear H1
      try simp only [errW_none, errW_some]
      simp only [Option.some.injEq, Prod.mk.injEq] at H
      obtain ⟨rfl, rfl⟩ := H
      go_enter Try.func38, Try.ntmps38
      go_wp2_with (first | ((with_reducible refine gate_callee (f := 48) rfl ?_); refine goesL_ (some 7) rfl rfl Try.func48 (by kernel_rfl) rfl #[.slice A0 l0.length c0] rfl (by (try simp only [List.map_toArray, List.map_cons, List.map_nil]); first | done | rfl | (simp only [List.length_drop, List.length_take]; rfl)) ?_; (with_reducible refine (impl_short.calls _ _ l0 true _ ?side1 ?side2 A2.out).mono ?_); (case side1 => repeat (first | exact HR0.out | (with_reducible refine Kd.C_alloc ?_ _) | (with_reducible refine Kd.C_drewN ?_ _) | (with_reducible refine Kd.C_drew ?_))); (case side2 => exact HC0.out); rintro e w' ⟨rfl, ⟨nd, rfl⟩⟩; refine ⟨_, rfl, ?_⟩) | ((with_reducible refine gate_callee (f := 44) rfl ?_); refine goesL_ (some 11) rfl rfl Try.func44 (by kernel_rfl) rfl #[.slice A0 l0.length c0] rfl (by (try simp only [List.map_toArray, List.map_cons, List.map_nil]); first | done | rfl | (simp only [List.length_drop, List.length_take]; rfl)) ?_; (with_reducible refine (impl_copied.calls _ _ l0 t118 _ ?side1 ?side2 A4.out).mono ?_); (case side1 => repeat (first | exact HR0.out | (with_reducible refine Kd.C_alloc ?_ _) | (with_reducible refine Kd.C_drewN ?_ _) | (with_reducible refine Kd.C_drew ?_))); (case side2 => exact HC0.out); rintro e w6 ⟨v119, rfl, ho0, hb⟩; refine ⟨_, rfl, ?_⟩; have n0_ := Aside0.mk (Kd.R_lower ho0 (below_size (by repeat (first | (with_reducible first | exact HB.out | apply below_alloc | apply pw_below_drewN | apply below_drew1) | exact HB.out)))); have n1_ := Aside0.mk (below_step (by repeat (first | (with_reducible first | exact HB.out | apply below_alloc | apply pw_below_drewN | apply below_drew1) | exact HB.out)) hb); clear HB; have HO120 := n0_; have HB := n1_; clear n0_ n1_; (try clear hb); (try clear hb2); (try clear hk); (try clear hi); (try clear ho0); obtain ⟨Ao7, co7, eo7⟩ := Kd.R_slice HO120.out; subst eo7) | ((with_reducible refine gate_callee (f := 68) rfl ?_); refine goesL_ (some 12) rfl rfl Try.func68 (by kernel_rfl) rfl #[.slice Ao7 t118.length co7] rfl (by (try simp only [List.map_toArray, List.map_cons, List.map_nil]); first | done | rfl | (simp only [List.length_drop, List.length_take]; rfl)) ?_; (with_reducible refine (asn1_ZZInt64.calls k _ _ t118 t121 none _ ?side1 ?side2 A5.out).mono ?_); (case side1 => repeat (first | exact (Kd.R_reads' HO120.out).2.2 | (with_reducible refine Kd.C_alloc ?_ _) | (with_reducible refine Kd.C_drewN ?_ _) | (with_reducible refine Kd.C_drew ?_))); (case side2 => exact (Kd.R_reads' HO120.out).2.1); rintro e w' ⟨rfl, ⟨nd, rfl⟩⟩; refine ⟨_, rfl, ?_⟩; (try simp only [errW_none, errW_some])))
      go_ret2
      exact ⟨by first | rfl | (simp [errW_none, errW_some] <;> rfl) | (simp [*, errW_none, errW_some] <;> rfl), by repeat (first | (with_reducible first | exact HB.out | apply below_alloc | apply pw_below_drewN | apply below_drew1) | exact HB.out)⟩
    · have H1 : (some (0, false)) = some (r1, r2) := by rw [if_neg (show ¬ (some q123).isNone = true by simp)] at H; exact H
      clear H
      have H := H1
      clear H1
      try simp only [errW_none, errW_some]
      simp only [Option.some.injEq, Prod.mk.injEq] at H
      obtain ⟨rfl, rfl⟩ := H
      go_enter Try.func38, Try.ntmps38
      go_wp2_with (first | ((with_reducible refine gate_callee (f := 48) rfl ?_); refine goesL_ (some 7) rfl rfl Try.func48 (by kernel_rfl) rfl #[.slice A0 l0.length c0] rfl (by (try simp only [List.map_toArray, List.map_cons, List.map_nil]); first | done | rfl | (simp only [List.length_drop, List.length_take]; rfl)) ?_; (with_reducible refine (impl_short.calls _ _ l0 true _ ?side1 ?side2 A2.out).mono ?_); (case side1 => repeat (first | exact HR0.out | (with_reducible refine Kd.C_alloc ?_ _) | (with_reducible refine Kd.C_drewN ?_ _) | (with_reducible refine Kd.C_drew ?_))); (case side2 => exact HC0.out); rintro e w' ⟨rfl, ⟨nd, rfl⟩⟩; refine ⟨_, rfl, ?_⟩) | ((with_reducible refine gate_callee (f := 44) rfl ?_); refine goesL_ (some 11) rfl rfl Try.func44 (by kernel_rfl) rfl #[.slice A0 l0.length c0] rfl (by (try simp only [List.map_toArray, List.map_cons, List.map_nil]); first | done | rfl | (simp only [List.length_drop, List.length_take]; rfl)) ?_; (with_reducible refine (impl_copied.calls _ _ l0 t118 _ ?side1 ?side2 A4.out).mono ?_); (case side1 => repeat (first | exact HR0.out | (with_reducible refine Kd.C_alloc ?_ _) | (with_reducible refine Kd.C_drewN ?_ _) | (with_reducible refine Kd.C_drew ?_))); (case side2 => exact HC0.out); rintro e w8 ⟨v119, rfl, ho0, hb⟩; refine ⟨_, rfl, ?_⟩; have n0_ := Aside0.mk (Kd.R_lower ho0 (below_size (by repeat (first | (with_reducible first | exact HB.out | apply below_alloc | apply pw_below_drewN | apply below_drew1) | exact HB.out)))); have n1_ := Aside0.mk (below_step (by repeat (first | (with_reducible first | exact HB.out | apply below_alloc | apply pw_below_drewN | apply below_drew1) | exact HB.out)) hb); clear HB; have HO120 := n0_; have HB := n1_; clear n0_ n1_; (try clear hb); (try clear hb2); (try clear hk); (try clear hi); (try clear ho0); obtain ⟨Ao9, co9, eo9⟩ := Kd.R_slice HO120.out; subst eo9) | ((with_reducible refine gate_callee (f := 68) rfl ?_); refine goesL_ (some 12) rfl rfl Try.func68 (by kernel_rfl) rfl #[.slice Ao9 t118.length co9] rfl (by (try simp only [List.map_toArray, List.map_cons, List.map_nil]); first | done | rfl | (simp only [List.length_drop, List.length_take]; rfl)) ?_; (with_reducible refine (asn1_ZZInt64.calls k _ _ t118 t121 (some q123) _ ?side1 ?side2 A5.out).mono ?_); (case side1 => repeat (first | exact (Kd.R_reads' HO120.out).2.2 | (with_reducible refine Kd.C_alloc ?_ _) | (with_reducible refine Kd.C_drewN ?_ _) | (with_reducible refine Kd.C_drew ?_))); (case side2 => exact (Kd.R_reads' HO120.out).2.1); rintro e w' ⟨rfl, ⟨nd, rfl⟩⟩; refine ⟨_, rfl, ?_⟩; (try simp only [errW_none, errW_some])))
      go_ret2
      exact ⟨by first | rfl | (simp [errW_none, errW_some] <;> rfl) | (simp [*, errW_none, errW_some] <;> rfl), by repeat (first | (with_reducible first | exact HB.out | apply below_alloc | apply pw_below_drewN | apply below_drew1) | exact HB.out)⟩
  · replace c3 := Bool.eq_false_iff.mpr c3
    subst c3
    have H1 : (some (0, false)) = some (r1, r2) := by rw [if_neg (show ¬ (false = true) by decide)] at H; exact H
    clear H
    have H := H1
    clear H1
    simp only [Option.some.injEq, Prod.mk.injEq] at H
    obtain ⟨rfl, rfl⟩ := H
    go_enter Try.func38, Try.ntmps38
    go_wp2_with (first | ((with_reducible refine gate_callee (f := 48) rfl ?_); refine goesL_ (some 7) rfl rfl Try.func48 (by kernel_rfl) rfl #[.slice A0 l0.length c0] rfl (by (try simp only [List.map_toArray, List.map_cons, List.map_nil]); first | done | rfl | (simp only [List.length_drop, List.length_take]; rfl)) ?_; (with_reducible refine (impl_short.calls _ _ l0 false _ ?side1 ?side2 A2.out).mono ?_); (case side1 => repeat (first | exact HR0.out | (with_reducible refine Kd.C_alloc ?_ _) | (with_reducible refine Kd.C_drewN ?_ _) | (with_reducible refine Kd.C_drew ?_))); (case side2 => exact HC0.out); rintro e w' ⟨rfl, ⟨nd, rfl⟩⟩; refine ⟨_, rfl, ?_⟩))
    go_ret2
    exact ⟨by first | rfl | (simp [errW_none, errW_some] <;> rfl) | (simp [*, errW_none, errW_some] <;> rfl), by repeat (first | (with_reducible first | exact HB.out | apply below_alloc | apply pw_below_drewN | apply below_drew1) | exact HB.out)⟩

/-! ### spec_Shortest: function 69 -/
def spec_Shortest.f (l0 : List Int) : Option (Bool) := if (l0.length : Int) < 2 then (some ((l0.length : Int) == 1)) else (if 0 < (l0.length : Int) then (if (rd l0 0) = 0 then (if 1 < (l0.length : Int) then (if (rd l0 1) < 128 then (some (!true)) else (if (rd l0 0) = 255 then (some (!(decide ((rd l0 1) ≥ 128)))) else (some (!false)))) else (none)) else (if (rd l0 0) = 255 then (if 1 < (l0.length : Int) then (some (!(decide ((rd l0 1) ≥ 128)))) else (none)) else (some (!false)))) else (none))
set_option maxHeartbeats 8000000 in
set_option maxRecDepth 100000 in
theorem spec_Shortest.calls (A0 : Option Addr) (c0 : Nat) (l0 : List Int) (r : Bool) (w : World) (hr0 : Kd.C (Kd.int .u8) w A0 l0.length l0) (hc0 : l0.length ≤ c0) (h : spec_Shortest.f l0 = some r) :
    Calls Try.prog 69 #[.slice A0 l0.length c0] w fun e w' => e = .returned (.bool r) ∧ Drawn0 w w' := by
  have HR0 := Aside0.mk hr0
  have HC0 := Aside0.mk hc0
  clear hr0 hc0
  have H : (if (l0.length : Int) < 2 then (some ((l0.length : Int) == 1)) else (if 0 < (l0.length : Int) then (if (rd l0 0) = 0 then (if 1 < (l0.length : Int) then (if (rd l0 1) < 128 then (some (!true)) else (if (rd l0 0) = 255 then (some (!(decide ((rd l0 1) ≥ 128)))) else (some (!false)))) else (none)) else (if (rd l0 0) = 255 then (if 1 < (l0.length : Int) then (some (!(decide ((rd l0 1) ≥ 128)))) else (none)) else (some (!false)))) else (none))) = some r := h
  clear h
  by_cases c2 : (l0.length : Int) < 2
  · rw [if_pos c2] at H
    have c2b0 : decide ((l0.length : Int) < 2) = true := decide_eq_true c2
    have c2b1 : decide (l0.length < 2) = true := decide_eq_true (by omega)
    clear c2
    obtain rfl := Option.some.inj H
    go_enter Try.func69, Try.ntmps69
    go_wp2
    go_ret
    exact ⟨by first | rfl | (simp; done) | (simp [*]; done), by repeat (first | exact Drawn0.refl _ | apply Drawn0.step)⟩
  · rw [if_neg c2] at H
    have c2b0 : decide ((l0.length : Int) < 2) = false := decide_eq_false c2
    have c2b1 : decide (l0.length < 2) = false := decide_eq_false (by omega)
    clear c2
    by_cases c3 : 0 < (l0.length : Int)
    · rw [if_pos c3] at H
      have c3b0 : decide (0 < (l0.length : Int)) = true := decide_eq_true c3
      have c3b1 : decide (0 < l0.length) = true := decide_eq_true (by omega)
      clear c3
      by_cases c4 : (rd l0 0) = 0
      · rw [if_pos c4] at H
        have c4b0 : ((rd l0 0) == 0) = true := beq_iff_eq.mpr c4
        have c4b1 : ((rd l0 0) != 0) = false := bne_eq_false_iff_eq.mpr c4
        clear c4
        by_cases c5 : 1 < (l0.length : Int)
        · rw [if_pos c5] at H
          have c5b0 : decide (1 < (l0.length : Int)) = true := decide_eq_true c5
          have c5b1 : decide (1 < l0.length) = true := decide_eq_true (by omega)
          clear c5
          by_cases c6 : (rd l0 1) < 128
          · rw [if_pos c6] at H
            have c6b0 : decide ((rd l0 1) < 128) = true := decide_eq_true c6
            clear c6
            obtain rfl := Option.some.inj H
            have p124 : 0 ≤ (0 : Int) := (by omega)
            have q124 : 0 < (l0.length : Int) := of_decide_eq_true (by first | (with_reducible assumption) | assumption)
            obtain ⟨ad124, e124, hx124_0⟩ := Kd.at_int HR0.out 0 p124 q124
            cases e124
            have qi124 : (0 < l0.length) = True := eq_true (by omega)
            (try rw [show ((0 : Int)).toNat = 0 from rfl] at hx124_0)
            (try rw [Addr.add_zero'] at hx124_0)
            replace p124 := eq_true p124
            replace q124 := eq_true q124
            have p125 : 0 ≤ (1 : Int) := (by omega)
            have q125 : 1 < (l0.length : Int) := of_decide_eq_true (by first | (with_reducible assumption) | assumption)
            obtain ⟨ad125, e125, hx125_0⟩ := Kd.at_int HR0.out 1 p125 q125
            obtain rfl : ad124 = ad125 := (by injection e125)
            (try simp only [show (1 : Int).toNat = 1 from rfl, Nat.reduceMul, Nat.reduceEqDiff, Go.Addr.add, ↓reduceIte] at hx125_0)
            have qi125 : (1 < l0.length) = True := eq_true (by omega)
            (try rw [show ((1 : Int)).toNat = 1 from rfl] at hx125_0)
            replace p125 := eq_true p125
            replace q125 := eq_true q125
            go_enter Try.func69, Try.ntmps69
            go_wp2
            go_ret
            exact ⟨by first | rfl | (simp; done) | (simp [*]; done), by repeat (first | exact Drawn0.refl _ | apply Drawn0.step)⟩
          · rw [if_neg c6] at H
            have c6b0 : decide ((rd l0 1) < 128) = false := decide_eq_false c6
            clear c6
            by_cases c7 : (rd l0 0) = 255
            · rw [if_pos c7] at H
              have c7b0 : ((rd l0 0) == 255) = true := beq_iff_eq.mpr c7
              have c7b1 : ((rd l0 0) != 255) = false := bne_eq_false_iff_eq.mpr c7
              clear c7
              obtain rfl := Option.some.inj H
              have p124 : 0 ≤ (0 : Int) := (by omega)
              have q124 : 0 < (l0.length : Int) := of_decide_eq_true (by first | (with_reducible assumption) | assumption)
              obtain ⟨ad124, e124, hx124_0⟩ := Kd.at_int HR0.out 0 p124 q124
              cases e124
              have qi124 : (0 < l0.length) = True := eq_true (by omega)
              (try rw [show ((0 : Int)).toNat = 0 from rfl] at hx124_0)
              (try rw [Addr.add_zero'] at hx124_0)
              replace p124 := eq_true p124
              replace q124 := eq_true q124
              have p125 : 0 ≤ (1 : Int) := (by omega)
              have q125 : 1 < (l0.length : Int) := of_decide_eq_true (by first | (with_reducible assumption) | assumption)
              obtain ⟨ad125, e125, hx125_0⟩ := Kd.at_int HR0.out 1 p125 q125
              obtain rfl : ad124 = ad125 := (by injection e125)
              (try simp only [show (1 : Int).toNat = 1 from rfl, Nat.reduceMul, Nat.reduceEqDiff, Go.Addr.add, ↓reduceIte] at hx125_0)
              have qi125 : (1 < l0.length) = True := eq_true (by omega)
              (try rw [show ((1 : Int)).toNat = 1 from rfl] at hx125_0)
              replace p125 := eq_true p125
              replace q125 := eq_true q125
              have p126 : 0 ≤ (0 : Int) := (by omega)
              have q126 : 0 < (l0.length : Int) := of_decide_eq_true (by first | (with_reducible assumption) | assumption)
              obtain ⟨ad126, e126, hx126_0⟩ := Kd.at_int HR0.out 0 p126 q126
              obtain rfl : ad124 = ad126 := (by injection e126)
              have qi126 : (0 < l0.length) = True := eq_true (by omega)
              (try rw [show ((0 : Int)).toNat = 0 from rfl] at hx126_0)
              (try rw [Addr.add_zero'] at hx126_0)
              replace p126 := eq_true p126
              replace q126 := eq_true q126
              have p127 : 0 ≤ (1 : Int) := (by omega)
              have q127 : 1 < (l0.length : Int) := of_decide_eq_true (by first | (with_reducible assumption) | assumption)
              obtain ⟨ad127, e127, hx127_0⟩ := Kd.at_int HR0.out 1 p127 q127
              obtain rfl : ad124 = ad127 := (by injection e127)
              (try simp only [show (1 : Int).toNat = 1 from rfl, Nat.reduceMul, Nat.reduceEqDiff, Go.Addr.add, ↓reduceIte] at hx127_0)
              have qi127 : (1 < l0.length) = True := eq_true (by omega)
              (try rw [show ((1 : Int)).toNat = 1 from rfl] at hx127_0)
              replace p127 := eq_true p127
              replace q127 := eq_true q127
              go_enter Try.func69, Try.ntmps69
              go_wp2
              go_ret
              exact ⟨by first | rfl | (simp; done) | (simp [*]; done), by repeat (first | exact Drawn0.refl _ | apply Drawn0.step)⟩
            · rw [if_neg c7] at H
              have c7b0 : ((rd l0 0) == 255) = false := beq_eq_false_iff_ne.mpr c7
              have c7b1 : ((rd l0 0) != 255) = true := bne_iff_ne.mpr c7
              obtain rfl := Option.some.inj H
              have p124 : 0 ≤ (0 : Int) := (by omega)
              have q124 : 0 < (l0.length : Int) := of_decide_eq_true (by first | (with_reducible assumption) | assumption)
              obtain ⟨ad124, e124, hx124_0⟩ := Kd.at_int HR0.out 0 p124 q124
              cases e124
              have qi124 : (0 < l0.length) = True := eq_true (by omega)
              (try rw [show ((0 : Int)).toNat = 0 from rfl] at hx124_0)
              (try rw [Addr.add_zero'] at hx124_0)
              replace p124 := eq_true p124
              replace q124 := eq_true q124
              have p125 : 0 ≤ (1 : Int) := (by omega)
              have q125 : 1 < (l0.length : Int) := of_decide_eq_true (by first | (with_reducible assumption) | assumption)
              obtain ⟨ad125, e125, hx125_0⟩ := Kd.at_int HR0.out 1 p125 q125
              obtain rfl : ad124 = ad125 := (by injection e125)
              (try simp only [show (1 : Int).toNat = 1 from rfl, Nat.reduceMul, Nat.reduceEqDiff, Go.Addr.add, ↓reduceIte] at hx125_0)
              have qi125 : (1 < l0.length) = True := eq_true (by omega)
              (try rw [show ((1 : Int)).toNat = 1 from rfl] at hx125_0)
              replace p125 := eq_true p125
              replace q125 := eq_true q125
              have p126 : 0 ≤ (0 : Int) := (by omega)
              have q126 : 0 < (l0.length : Int) := of_decide_eq_true (by first | (with_reducible assumption) | assumption)
              obtain ⟨ad126, e126, hx126_0⟩ := Kd.at_int HR0.out 0 p126 q126
              obtain rfl : ad124 = ad126 := (by injection e126)
              have qi126 : (0 < l0.length) = True := eq_true (by omega)
              (try rw [show ((0 : Int)).toNat = 0 from rfl] at hx126_0)
              (try rw [Addr.add_zero'] at hx126_0)
              replace p126 := eq_true p126
              replace q126 := eq_true q126
              go_enter Try.func69, Try.ntmps69
              go_wp2
              go_ret
              exact ⟨by first | rfl | (simp; done) | (simp [*]; done), by repeat (first | exact Drawn0.refl _ | apply Drawn0.step)⟩
        · rw [if_neg c5] at H
          exact absurd H (by simp)
      · rw [if_neg c4] at H
        have c4b0 : ((rd l0 0) == 0) = false := beq_eq_false_iff_ne.mpr c4
        have c4b1 : ((rd l0 0) != 0) = true := bne_iff_ne.mpr c4
        by_cases c8 : (rd l0 0) = 255
        · rw [if_pos c8] at H
          have c8b0 : ((rd l0 0) == 255) = true := beq_iff_eq.mpr c8
          have c8b1 : ((rd l0 0) != 255) = false := bne_eq_false_iff_eq.mpr c8
          clear c8
          by_cases c9 : 1 < (l0.length : Int)
          · rw [if_pos c9] at H
            have c9b0 : decide (1 < (l0.length : Int)) = true := decide_eq_true c9
            have c9b1 : decide (1 < l0.length) = true := decide_eq_true (by omega)
            clear c9
            obtain rfl := Option.some.inj H
            have p124 : 0 ≤ (0 : Int) := (by omega)
            have q124 : 0 < (l0.length : Int) := of_decide_eq_true (by first | (with_reducible assumption) | assumption)
            obtain ⟨ad124, e124, hx124_0⟩ := Kd.at_int HR0.out 0 p124 q124
            cases e124
            have qi124 : (0 < l0.length) = True := eq_true (by omega)
            (try rw [show ((0 : Int)).toNat = 0 from rfl] at hx124_0)
            (try rw [Addr.add_zero'] at hx124_0)
            replace p124 := eq_true p124
            replace q124 := eq_true q124
            have p128 : 0 ≤ (0 : Int) := (by omega)
            have q128 : 0 < (l0.length : Int) := of_decide_eq_true (by first | (with_reducible assumption) | assumption)
            obtain ⟨ad128, e128, hx128_0⟩ := Kd.at_int HR0.out 0 p128 q128
            obtain rfl : ad124 = ad128 := (by injection e128)
            have qi128 : (0 < l0.length) = True := eq_true (by omega)
            (try rw [show ((0 : Int)).toNat = 0 from rfl] at hx128_0)
            (try rw [Addr.add_zero'] at hx128_0)
            replace p128 := eq_true p128
            replace q128 := eq_true q128
            have p129 : 0 ≤ (1 : Int) := (by omega)
            have q129 : 1 < (l0.length : Int) := of_decide_eq_true (by first | (with_reducible assumption) | assumption)
            obtain ⟨ad129, e129, hx129_0⟩ := Kd.at_int HR0.out 1 p129 q129
            obtain rfl : ad124 = ad129 := (by injection e129)
            (try simp only [show (1 : Int).toNat = 1 from rfl, Nat.reduceMul, Nat.reduceEqDiff, Go.Addr.add, ↓reduceIte] at hx129_0)
            have qi129 : (1 < l0.length) = True := eq_true (by omega)
            (try rw [show ((1 : Int)).toNat = 1 from rfl] at hx129_0)
            replace p129 := eq_true p129
            replace q129 := eq_true q129
            go_enter Try.func69, Try.ntmps69
            go_wp2
            go_ret
            exact ⟨by first | rfl | (simp; done) | (simp [*]; done), by repeat (first | exact Drawn0.refl _ | apply Drawn0.step)⟩
          · rw [if_neg c9] at H
            exact absurd H (by simp)
        · rw [if_neg c8] at H
          have c8b0 : ((rd l0 0) == 255) = false := beq_eq_false_iff_ne.mpr c8
          have c8b1 : ((rd l0 0) != 255) = true := bne_iff_ne.mpr c8
          obtain rfl := Option.some.inj H
          have p124 : 0 ≤ (0 : Int) := (by omega)
          have q124 : 0 < (l0.length : Int) := of_decide_eq_true (by first | (with_reducible assumption) | assumption)
          obtain ⟨ad124, e124, hx124_0⟩ := Kd.at_int HR0.out 0 p124 q124
          cases e124
          have qi124 : (0 < l0.length) = True := eq_true (by omega)
          (try rw [show ((0 : Int)).toNat = 0 from rfl] at hx124_0)
          (try rw [Addr.add_zero'] at hx124_0)
          replace p124 := eq_true p124
          replace q124 := eq_true q124
          have p128 : 0 ≤ (0 : Int) := (by omega)
          have q128 : 0 < (l0.length : Int) := of_decide_eq_true (by first | (with_reducible assumption) | assumption)
          obtain ⟨ad128, e128, hx128_0⟩ := Kd.at_int HR0.out 0 p128 q128
          obtain rfl : ad124 = ad128 := (by injection e128)
          have qi128 : (0 < l0.length) = True := eq_true (by omega)
          (try rw [show ((0 : Int)).toNat = 0 from rfl] at hx128_0)
          (try rw [Addr.add_zero'] at hx128_0)
          replace p128 := eq_true p128
          replace q128 := eq_true q128
          go_enter Try.func69, Try.ntmps69
          go_wp2
          go_ret
          exact ⟨by first | rfl | (simp; done) | (simp [*]; done), by repeat (first | exact Drawn0.refl _ | apply Drawn0.step)⟩
    · rw [if_neg c3] at H
      exact absurd H (by simp)

/-! ### spec_PutInteger: function 39 -/
mutual
def spec_PutInteger.l0 : Nat → Int → List Int → Int → Option (List Int)
  | 0, _, _, _ => none
  | k + 1, x0, x3, x4 => if x4 ≥ 0 then (if 0 ≤ (wrap64 (8 * x4)) then (if x3.length < 140737488355328 then (spec_PutInteger.l0 k x0 (x3 ++ [(shr .i64 x0 (wrap64 (8 * x4))) % 256]) (wrap64 (x4 - 1))) else (none)) else (none)) else (spec_PutInteger.l1 k x3)
def spec_PutInteger.l1 : Nat → List Int → Option (List Int)
  | 0, _ => none
  | k + 1, x3 => if (x3.length : Int) > 1 then ((spec_Shortest.f x3).bind fun t136 => (if t136 = true then (some x3) else (if 1 ≤ (x3.length : Int) then (spec_PutInteger.l1 k (x3.drop (1 : Int).toNat)) else (none)))) else (some x3)
end
def spec_PutInteger.f (k : Nat) (a0 : Int) : Option (List Int) := spec_PutInteger.l0 k a0 (([] : List Int)) 7
theorem spec_PutInteger.mono_l : ∀ k, (∀ y0 y1 y2, LeO (spec_PutInteger.l0 k y0 y1 y2) (spec_PutInteger.l0 (k + 1) y0 y1 y2)) ∧ (∀ y0, LeO (spec_PutInteger.l1 k y0) (spec_PutInteger.l1 (k + 1) y0))
  | 0 => ⟨fun _ _ _ r h => by simp [spec_PutInteger.l0] at h, fun _ r h => by simp [spec_PutInteger.l1] at h⟩
  | k + 1 => by
    obtain ⟨ih0, ih1⟩ := spec_PutInteger.mono_l k
    refine ⟨?_, ?_⟩
    · intro y0 y1 y2
      unfold spec_PutInteger.l0
      repeat' first
      | (with_reducible exact ih0 _ _ _)
      | (with_reducible exact ih1 _)
      | (with_reducible exact LeO.refl _)
      | (with_reducible exact LeO.none _)
      | (with_reducible refine LeO.ite ?_ ?_)
      | (with_reducible refine LeO.bind ?_ (fun _ => ?_))
      | exact ih0 _ _ _
      | exact ih1 _
      | exact LeO.none _
      | refine LeO.ite ?_ ?_
      | refine LeO.bind ?_ (fun _ => ?_)
    · intro y0
      unfold spec_PutInteger.l1
      repeat' first
      | (with_reducible exact ih0 _ _ _)
      | (with_reducible exact ih1 _)
      | (with_reducible exact LeO.refl _)
      | (with_reducible exact LeO.none _)
      | (with_reducible refine LeO.ite ?_ ?_)
      | (with_reducible refine LeO.bind ?_ (fun _ => ?_))
      | exact ih0 _ _ _
      | exact ih1 _
      | exact LeO.none _
      | refine LeO.ite ?_ ?_
      | refine LeO.bind ?_ (fun _ => ?_)
theorem spec_PutInteger.mono : ∀ a0 k, LeO (spec_PutInteger.f k a0) (spec_PutInteger.f (k + 1) a0) := by
  intro a0 k
  obtain ⟨ih0, ih1⟩ := spec_PutInteger.mono_l k
  unfold spec_PutInteger.f
  repeat' first
      | (with_reducible exact ih0 _ _ _)
      | (with_reducible exact ih1 _)
      | (with_reducible exact LeO.refl _)
      | (with_reducible exact LeO.none _)
      | (with_reducible refine LeO.ite ?_ ?_)
      | (with_reducible refine LeO.bind ?_ (fun _ => ?_))
      | exact ih0 _ _ _
      | exact ih1 _
      | exact LeO.none _
      | refine LeO.ite ?_ ?_
      | refine LeO.bind ?_ (fun _ => ?_)
set_option maxHeartbeats 8000000 in
set_option maxRecDepth 100000 in
theorem spec_PutInteger.calls (k : Nat) (a0 : Int) (r : List Int) (w : World) (h : spec_PutInteger.f k a0 = some r) :
    Calls Try.prog 39 #[.int .i64 a0] w fun e w' => ∃ v0_ : Value, e = .returned (v0_) ∧ Kd.Q (Kd.int .u8) 5 w' w.heap.size (fun _ => True) v0_ r ∧ Below w.heap.size w w' := by
  have HB := Aside0.mk (Below.refl w.heap.size w)
  have H : (spec_PutInteger.l0 k a0 (([] : List Int)) 7) = some r := h
  clear h
  obtain ⟨y130, hy130⟩ : ∃ y_ : List Int, y_ = (([] : List Int)) := ⟨_, rfl⟩
  replace H : (spec_PutInteger.l0 k a0 y130 7) = some r := by first | (rw [hy130]; with_reducible exact H) | (have H2_ := (Option.bind_some _ _).symm.trans H; rw [hy130]; with_reducible exact H2_) | (have H2_ := (Option.bind_some _ _).symm.trans H; with_reducible exact H2_) | with_reducible exact H | (rw [hy130]; exact H) | exact H
  have Ny130 := Aside0.mk hy130
  clear hy130
  have H' := Aside0.mk H
  clear H
  go_enter Try.func39, Try.ntmps39
  go_wp2_with (first | ((with_reducible refine gate_dst (N := 5) rfl ?_); refine Kd.R_lit (Kd.int .u8) _ 5 ?hg (N := 5) ?hd (xs := ([] : List Int)) (inner := []) (ok := fun _ => True) (okp := fun _ => True) ?hr ?hp (fun _ hk => hk) trivial (Below.refl _ _) (Nat.le_refl _) (by simp) ?_; (case hd => rfl); (case hg => rfl); (case hr => first | (go_simp; done) | (go_simp; rfl)); (case hp => exact (Reps.none _ _)); intro v131 w2 ho3 hb hg_ hnew_; clear hg_ hnew_; (first | rw [← Ny130.out] at ho3 | (simp only [Int.reduceToNat] at ho3; rw [← Ny130.out] at ho3)); have n0_ := Aside0.mk (Kd.R_lower ho3 (below_size (by repeat (first | (with_reducible first | exact HB.out | apply below_alloc | apply pw_below_drewN | apply below_drew1) | exact HB.out)))); have n1_ := Aside0.mk (below_step (by repeat (first | (with_reducible first | exact HB.out | apply below_alloc | apply pw_below_drewN | apply below_drew1) | exact HB.out)) hb); clear HB; have HO132 := n0_; have HB := n1_; clear n0_ n1_; clear hb ho3))
  go_loopg [3, 4] k (fun kq v3 v4 w' => ∃ (x3_1 : List Int) (x4_1 : Int), v4 = .int .i64 x4_1 ∧ Aside0 (spec_PutInteger.l0 kq a0 x3_1 x4_1 = some r) ∧ Aside0 (kq ≤ k) ∧ Aside0 (Kd.Q (Kd.int .u8) 5 w' w.heap.size (fun _ => True) v3 x3_1) ∧ Aside0 (Below w.heap.size w w'))
  case atStart => exact ⟨(y130), (7), (by first | rfl | (simp; done) | (simp [*]; done)), H', ⟨Nat.le_refl _⟩, ⟨Kd.Q_of_R (by (with_reducible repeat (first | apply Kd.R_alloc | apply Kd.R_drewN | apply Kd.R_drew)); exact HO132.out)⟩, ⟨by repeat (first | (with_reducible first | exact HB.out | apply below_alloc | apply pw_below_drewN | apply below_drew1) | exact HB.out)⟩⟩
  case round =>
    clear H'
    try clear p2
    try clear c3
    obtain ⟨x3_1, x4_1, rfl, HA, HK1, HO_3, HB⟩ := hrel
    cases gk with
    | zero => exact absurd HA.out (by simp [spec_PutInteger.l0])
    | succ k1 =>
      have H := HA.out
      clear HA
      simp only [spec_PutInteger.l0] at H
      by_cases c4 : x4_1 ≥ 0
      · rw [if_pos c4] at H
        have c4b0 : decide (0 ≤ x4_1) = true := decide_eq_true c4
        clear c4
        obtain ⟨ji5, hji5⟩ : ∃ j_ : Int, (wrap64 (8 * x4_1)) = j_ := ⟨_, rfl⟩
        replace H : (if 0 ≤ (ji5) then (if x3_1.length < 140737488355328 then (spec_PutInteger.l0 k1 a0 (x3_1 ++ [(shr .i64 a0 (ji5)) % 256]) (wrap64 (x4_1 - 1))) else (none)) else (none)) = some r := by first | (rw [hji5] at H; exact H) | (simp only [hji5] at H ⊢; exact H)
        have hji5w : (IntKind.i64.wrap (8 * x4_1)) = ji5 := (i64_w _).trans hji5
        by_cases c6 : 0 ≤ (ji5)
        · rw [if_pos c6] at H
          have c6b0 := eq_true c6
          have c6b1 : decide (0 ≤ (ji5)) = true := decide_eq_true c6
          clear c6
          obtain ⟨ji7, hji7⟩ : ∃ j_ : Int, (shr .i64 a0 (ji5)) = j_ := ⟨_, rfl⟩
          replace H : (if x3_1.length < 140737488355328 then (spec_PutInteger.l0 k1 a0 (x3_1 ++ [(ji7) % 256]) (wrap64 (x4_1 - 1))) else (none)) = some r := by first | (rw [hji7] at H; exact H) | (simp only [hji7] at H ⊢; exact H)
          have hji7_ : (a0 / 2 ^ min (ji5).toNat 64) = ji7 := hji7
          have hji7z : (ji5) ≤ 64 → (a0 / 2 ^ (ji5).toNat) = ji7 := shr_small hji7
          by_cases c8 : x3_1.length < 140737488355328
          · rw [if_pos c8] at H
            have LMc8 := Aside0.mk c8
            clear c8
            obtain ⟨y133, hy133⟩ : ∃ y_ : List Int, y_ = (x3_1 ++ [(ji7) % 256]) := ⟨_, rfl⟩
            replace H : (spec_PutInteger.l0 k1 a0 y133 (wrap64 (x4_1 - 1))) = some r := by first | (rw [hy133]; with_reducible exact H) | (have H2_ := (Option.bind_some _ _).symm.trans H; rw [hy133]; with_reducible exact H2_) | (have H2_ := (Option.bind_some _ _).symm.trans H; with_reducible exact H2_) | with_reducible exact H | (rw [hy133]; exact H) | exact H
            have Ny133 := Aside0.mk hy133
            clear hy133
            have H' := Aside0.mk H
            clear H
            go_wp2_with (first | ((with_reducible refine gate_builtin (b := .append) (xs := #[.tmp 10, .tmp 16]) rfl ?_); at_builtin; refine Kd.Q_append (Kd.int .u8) (w0 := w) w.heap.size rfl (.tmp 10) (.tmp 16) 25 5 (.int .u8 0) 1 rfl Try.underlying25 info5 rfl (by decide) (by omega) u3 x3_1 ((ji7) % 256) [.int .u8 ((ji7) % 256)] (fun _ => True) (fun _ => False) rfl rfl ?aP (fun _ hk => hk.elim) ?aF ?aO ?aB ?aS ?aL ?_; (case aP => exact rfl); (case aB => exact (by repeat (first | (with_reducible first | exact HB.out | apply below_alloc | apply pw_below_drewN | apply below_drew1) | exact HB.out))); (case aF => exact (fun _ _ => trivial)); (case aO => exact (by (with_reducible repeat (first | apply Kd.Q_alloc | apply Kd.Q_drewN | apply Kd.Q_drew)); exact HO_3.out)); (case aS => exact (below_size (by repeat (first | (with_reducible first | exact HB.out | apply below_alloc | apply pw_below_drewN | apply below_drew1) | exact HB.out)))); (case aL => have := LMc8.out; omega); intro v134 w9 ho hb hg hat; rw [← Ny133.out] at ho; have n0_ := Aside0.mk (hb); have n1_ := Aside0.mk (ho); clear HB; clear HO_3; have HB := n0_; have HO135 := n1_; clear n0_ n1_; clear ho hb hg hat))
            go_roundg k1
            case measure => have := HK1.out; omega
            case rel => exact ⟨(y133), (wrap64 (x4_1 - 1)), (by first | rfl | (simp; done) | (simp [*]; done)), H', ⟨by have := HK1.out; omega⟩, ⟨by (with_reducible repeat (first | apply Kd.Q_alloc | apply Kd.Q_drewN | apply Kd.Q_drew)); exact HO135.out⟩, ⟨by repeat (first | (with_reducible first | exact HB.out | apply below_alloc | apply pw_below_drewN | apply below_drew1) | exact HB.out)⟩⟩
          · rw [if_neg c8] at H
            exact absurd H (by simp)
        · rw [if_neg c6] at H
          exact absurd H (by simp)
      · rw [if_neg c4] at H
        have c4b0 : decide (0 ≤ x4_1) = false := decide_eq_false c4
        clear c4
        have H' := Aside0.mk H
        clear H
        go_wp2
        go_loopg [3] k1 (fun kq v3 w' => ∃ (x3_2 : List Int), Aside0 (spec_PutInteger.l1 kq x3_2 = some r) ∧ Aside0 (kq ≤ k1) ∧ Aside0 (Kd.Q (Kd.int .u8) 5 w' w.heap.size (fun _ => True) v3 x3_2) ∧ Aside0 (Below w.heap.size w w'))
        case atStart => exact ⟨(x3_1), H', ⟨Nat.le_refl _⟩, ⟨by (with_reducible repeat (first | apply Kd.Q_alloc | apply Kd.Q_drewN | apply Kd.Q_drew)); exact HO_3.out⟩, ⟨by repeat (first | (with_reducible first | exact HB.out | apply below_alloc | apply pw_below_drewN | apply below_drew1) | exact HB.out)⟩⟩
        case round =>
          clear H'
          try clear p2
          try clear c3
          try clear c4
          try clear c4b0
          try clear c6
          try clear c6b0
          try clear c6b1
          try clear p6
          try clear c8
          try clear p2
          obtain ⟨x3_2, HA, HK2, HO_3, HB⟩ := hrel
          cases gk with
          | zero => exact absurd HA.out (by simp [spec_PutInteger.l1])
          | succ k2 =>
            have H := HA.out
            clear HA
            simp only [spec_PutInteger.l1] at H
            by_cases c10 : (x3_2.length : Int) > 1
            · rw [if_pos c10] at H
              have c10b0 : decide (1 < (x3_2.length : Int)) = true := decide_eq_true c10
              have c10b1 : decide (1 < x3_2.length) = true := decide_eq_true (by omega)
              clear c10
              replace H := Option.bind_eq_some_iff.mp H
              obtain ⟨t136, A110, H⟩ := H
              replace H : (if t136 = true then (some x3_2) else (if 1 ≤ (x3_2.length : Int) then (spec_PutInteger.l1 k2 (x3_2.drop (1 : Int).toNat)) else (none))) = some r := H
              have A11 := Aside0.mk A110
              clear A110
              by_cases c12 : t136 = true
              · subst c12
                have H1 : (some x3_2) = some r := by rw [if_pos rfl] at H; exact H
                clear H
                have H := H1
                clear H1
                obtain rfl := Option.some.inj H
                obtain ⟨Ao13, co13, eo13, _⟩ := Kd.Q_slice HO_3.out
                subst eo13
                go_wp2_with (first | (go_at_call 69; (with_reducible refine (spec_Shortest.calls _ _ x3_2 true _ ?side1 ?side2 A11.out).mono ?_); (case side1 => repeat (first | exact (Kd.Q_reads' HO_3.out).2.2 | (with_reducible refine Kd.C_alloc ?_ _) | (with_reducible refine Kd.C_drewN ?_ _) | (with_reducible refine Kd.C_drew ?_))); (case side2 => exact (Kd.Q_reads' HO_3.out).2.1); rintro e w' ⟨rfl, ⟨nd, rfl⟩⟩))
                go_ret
                exact ⟨_, by first | rfl | (simp [errW_none, errW_some] <;> rfl) | (simp [*, errW_none, errW_some] <;> rfl), by (with_reducible repeat (first | apply Kd.Q_alloc | apply Kd.Q_drewN | apply Kd.Q_drew)); exact HO_3.out, by repeat (first | (with_reducible first | exact HB.out | apply below_alloc | apply pw_below_drewN | apply below_drew1) | exact HB.out)⟩
              · replace c12 := Bool.eq_false_iff.mpr c12
                subst c12
                have H1 : (if 1 ≤ (x3_2.length : Int) then (spec_PutInteger.l1 k2 (x3_2.drop (1 : Int).toNat)) else (none)) = some r := by rw [if_neg (show ¬ (false = true) by decide)] at H; exact H
                clear H
                have H := H1
                clear H1
                by_cases c14 : 1 ≤ (x3_2.length : Int)
                · rw [if_pos c14] at H
                  have c14b0 := eq_true c14
                  have c14b1 : decide (1 ≤ (x3_2.length : Int)) = true := decide_eq_true c14
                  clear c14
                  obtain ⟨y137, hy137⟩ : ∃ y_ : List Int, y_ = (x3_2.drop (1 : Int).toNat) := ⟨_, rfl⟩
                  replace H : (spec_PutInteger.l1 k2 y137) = some r := by first | (rw [hy137]; with_reducible exact H) | (have H2_ := (Option.bind_some _ _).symm.trans H; rw [hy137]; with_reducible exact H2_) | (have H2_ := (Option.bind_some _ _).symm.trans H; with_reducible exact H2_) | with_reducible exact H | (rw [hy137]; exact H) | exact H
                  have Ny137 := Aside0.mk hy137
                  clear hy137
                  have H' := Aside0.mk H
                  clear H
                  obtain ⟨Ao15, co15, eo15, _⟩ := Kd.Q_slice HO_3.out
                  subst eo15
                  go_wp2_with (first | (go_at_call 69; (with_reducible refine (spec_Shortest.calls _ _ x3_2 false _ ?side1 ?side2 A11.out).mono ?_); (case side1 => repeat (first | exact (Kd.Q_reads' HO_3.out).2.2 | (with_reducible refine Kd.C_alloc ?_ _) | (with_reducible refine Kd.C_drewN ?_ _) | (with_reducible refine Kd.C_drew ?_))); (case side2 => exact (Kd.Q_reads' HO_3.out).2.1); rintro e w' ⟨rfl, ⟨nd, rfl⟩⟩; have q16 : (1 : Int) ≤ ((x3_2.length : Int) : Int) := of_decide_eq_true (by first | (with_reducible assumption) | assumption); obtain ⟨i016, hi016, _, hsz16, _⟩ := info_parts info5; have hcut16 := cut_from (P := Try.prog) 25 5 .i64 Try.underlying25 hi016 1 hsz16 Ao15 x3_2.length co15 1 (by omega) q16; have hr16 := Kd.Q_drop (k := (1 : Int).toNat) HO_3.out (by omega); obtain ⟨A16, hA16⟩ : ∃ A1, A1 = (if co15 = (1 : Int).toNat then Ao15 else (Ao15 : Option Addr).map (·.add ((1 : Int).toNat * 1))) := ⟨_, rfl⟩; obtain ⟨c16, hc16⟩ : ∃ c1, c1 = co15 - (1 : Int).toNat := ⟨_, rfl⟩; have hy16 : y137.length = x3_2.length - (1 : Int).toNat := (by rw [Ny137.out, List.length_drop]); rw [← Ny137.out] at hr16; rw [← hy16, ← hA16, ← hc16] at hcut16; replace hr16 : Kd.Q (Kd.int .u8) 5 wr w.heap.size (fun _ => True) (.slice A16 y137.length c16) y137 := (by rw [hA16, hc16, hy16]; exact hr16); have HE16 : Aside0 ((Value.slice A16 y137.length c16).ownBlock = (.slice Ao15 x3_2.length co15 : Value).ownBlock) := ⟨by rw [hA16]; split <;> (cases (Ao15 : Option Addr) <;> rfl)⟩; clear hy16 hi016 hsz16 HO_3 hA16 hc16; have HO139 := Aside0.mk hr16; clear hr16; replace q16 := eq_true q16))
                  go_roundg k2
                  case measure => have := HK1.out; have := HK2.out; omega
                  case rel => exact ⟨(y137), H', ⟨by have := HK1.out; have := HK2.out; omega⟩, ⟨by (with_reducible repeat (first | apply Kd.Q_alloc | apply Kd.Q_drewN | apply Kd.Q_drew)); exact HO139.out⟩, ⟨by repeat (first | (with_reducible first | exact HB.out | apply below_alloc | apply pw_below_drewN | apply below_drew1) | exact HB.out)⟩⟩
                · rw [if_neg c14] at H
                  exact absurd H (by simp)
            · rw [if_neg c10] at H
              have c10b0 : decide (1 < (x3_2.length : Int)) = false := decide_eq_false c10
              have c10b1 : decide (1 < x3_2.length) = false := decide_eq_false (by omega)
              clear c10
              obtain rfl := Option.some.inj H
              obtain ⟨Ao17, co17, eo17, _⟩ := Kd.Q_slice HO_3.out
              subst eo17
              go_wp2
              go_ret
              exact ⟨_, by first | rfl | (simp [errW_none, errW_some] <;> rfl) | (simp [*, errW_none, errW_some] <;> rfl), by (with_reducible repeat (first | apply Kd.Q_alloc | apply Kd.Q_drewN | apply Kd.Q_drew)); exact HO_3.out, by repeat (first | (with_reducible first | exact HB.out | apply below_alloc | apply pw_below_drewN | apply below_drew1) | exact HB.out)⟩

/-! ### laws_FnPutInt64: function 11 -/
def laws_FnPutInt64.f (k : Nat) (a0 : Int) : Option (Bool) := (impl_PutInt64.f k a0).bind fun t140 => ((impl_ReadInt64.f k t140).bind fun bt143 => ((spec_PutInteger.f k a0).bind fun t145 => ((bytes_Equal.f t140 t145).bind fun t148 => (if t148 = true then (if bt143.2 = true then (some (bt143.1 == a0)) else (some false)) else (some false)))))
theorem laws_FnPutInt64.mono : ∀ a0 k, LeO (laws_FnPutInt64.f k a0) (laws_FnPutInt64.f (k + 1) a0) := by
  intro a0 k
  unfold laws_FnPutInt64.f
  repeat' first
      | (with_reducible exact impl_PutInt64.mono _ _)
      | (with_reducible exact impl_ReadInt64.mono _ _)
      | (with_reducible exact spec_PutInteger.mono _ _)
      | (with_reducible exact LeO.refl _)
      | (with_reducible exact LeO.none _)
      | (with_reducible refine LeO.ite ?_ ?_)
      | (with_reducible refine LeO.bind ?_ (fun _ => ?_))
      | exact impl_PutInt64.mono _ _
      | exact impl_ReadInt64.mono _ _
      | exact spec_PutInteger.mono _ _
      | exact LeO.none _
      | refine LeO.ite ?_ ?_
      | refine LeO.bind ?_ (fun _ => ?_)
set_option maxHeartbeats 8000000 in
set_option maxRecDepth 100000 in
theorem laws_FnPutInt64.calls (k : Nat) (a0 : Int) (r : Bool) (w : World) (h : laws_FnPutInt64.f k a0 = some r) (hrt : r = true) :
    Calls Try.prog 11 #[.int .i64 a0] w fun e w' => e = .returned (.bool r) ∧ Below w.heap.size w w' := by
  have HB := Aside0.mk (Below.refl w.heap.size w)
  have HRT := Aside0.mk hrt
  clear hrt
  have H : ((impl_PutInt64.f k a0).bind fun t140 => ((impl_ReadInt64.f k t140).bind fun bt143 => ((spec_PutInteger.f k a0).bind fun t145 => ((bytes_Equal.f t140 t145).bind fun t148 => (if t148 = true then (if bt143.2 = true then (some (bt143.1 == a0)) else (some false)) else (some false)))))) = some r := h
  clear h
  replace H := Option.bind_eq_some_iff.mp H
  obtain ⟨t140, A20, H⟩ := H
  replace H : ((impl_ReadInt64.f k t140).bind fun bt143 => ((spec_PutInteger.f k a0).bind fun t145 => ((bytes_Equal.f t140 t145).bind fun t148 => (if t148 = true then (if bt143.2 = true then (some (bt143.1 == a0)) else (some false)) else (some false))))) = some r := H
  have A2 := Aside0.mk A20
  clear A20
  replace H := Option.bind_eq_some_iff.mp H
  obtain ⟨⟨t143, t144⟩, A30, H⟩ := H
  replace H : ((spec_PutInteger.f k a0).bind fun t145 => ((bytes_Equal.f t140 t145).bind fun t148 => (if t148 = true then (if t144 = true then (some (t143 == a0)) else (some false)) else (some false)))) = some r := H
  have A3 := Aside0.mk A30
  clear A30
  replace H := Option.bind_eq_some_iff.mp H
  obtain ⟨t145, A40, H⟩ := H
  replace H : ((bytes_Equal.f t140 t145).bind fun t148 => (if t148 = true then (if t144 = true then (some (t143 == a0)) else (some false)) else (some false))) = some r := H
  have A4 := Aside0.mk A40
  clear A40
  replace H := Option.bind_eq_some_iff.mp H
  obtain ⟨t148, A50, H⟩ := H
  replace H : (if t148 = true then (if t144 = true then (some (t143 == a0)) else (some false)) else (some false)) = some r := H
  have A5 := Aside0.mk A50
  clear A50
  by_cases c6 : t148 = true
  · subst c6
    have H1 : (if t144 = true then (some (t143 == a0)) else (some false)) = some r := by rw [if_pos rfl] at H; exact H
    clear H
    have H := H1
    clear H1
    by_cases c7 : t144 = true
    · subst c7
      have H1 : (some (t143 == a0)) = some r := by rw [if_pos rfl] at H; exact H
      clear H
      have H := H1
      clear H1
      obtain rfl := Option.some.inj H
      go_enter Try.func11, Try.ntmps11
      go_wp2_with (first | ((with_reducible refine gate_callee (f := 37) rfl ?_); refine goesL_ (some 7) rfl rfl Try.func37 (by kernel_rfl) rfl #[.int .i64 a0] rfl (by (try simp only [List.map_toArray, List.map_cons, List.map_nil]); first | done | rfl | (simp only [List.length_drop, List.length_take]; rfl)) ?_; (with_reducible refine (impl_PutInt64.calls k a0 t140 _ A2.out).mono ?_); rintro e w8 ⟨v141, rfl, ho0, hb⟩; refine ⟨_, rfl, ?_⟩; have n0_ := Aside0.mk (Kd.R_lower ho0 (below_size (by repeat (first | (with_reducible first | exact HB.out | apply below_alloc | apply pw_below_drewN | apply below_drew1) | exact HB.out)))); have n1_ := Aside0.mk (below_step (by repeat (first | (with_reducible first | exact HB.out | apply below_alloc | apply pw_below_drewN | apply below_drew1) | exact HB.out)) hb); clear HB; have HO142 := n0_; have HB := n1_; clear n0_ n1_; (try clear hb); (try clear hb2); (try clear hk); (try clear hi); (try clear ho0); obtain ⟨Ao9, co9, eo9⟩ := Kd.R_slice HO142.out; subst eo9) | ((with_reducible refine gate_callee (f := 38) rfl ?_); refine goesL_ (some 10) rfl rfl Try.func38 (by kernel_rfl) rfl #[.slice Ao9 t140.length co9] rfl (by (try simp only [List.map_toArray, List.map_cons, List.map_nil]); first | done | rfl | (simp only [List.length_drop, List.length_take]; rfl)) ?_; (with_reducible refine (impl_ReadInt64.calls k _ _ t140 t143 true _ ?side1 ?side2 A3.out).mono ?_); (case side1 => repeat (first | exact (Kd.R_reads' HO142.out).2.2 | (with_reducible refine Kd.C_alloc ?_ _) | (with_reducible refine Kd.C_drewN ?_ _) | (with_reducible refine Kd.C_drew ?_))); (case side2 => exact (Kd.R_reads' HO142.out).2.1); rintro e w10 ⟨rfl, hb⟩; refine ⟨_, rfl, ?_⟩; have n0_ := Aside0.mk (Kd.R_below (by (with_reducible repeat (first | apply Kd.R_alloc | apply Kd.R_drewN | apply Kd.R_drew)); exact HO142.out) hb); have n1_ := Aside0.mk (below_step (by repeat (first | (with_reducible first | exact HB.out | apply below_alloc | apply pw_below_drewN | apply below_drew1) | exact HB.out)) hb); clear HO142; clear HB; have HO142 := n0_; have HB := n1_; clear n0_ n1_; (try clear hb); (try clear hb2); (try clear hk); (try clear hi)) | ((with_reducible refine gate_callee (f := 39) rfl ?_); refine goesL_ (some 15) rfl rfl Try.func39 (by kernel_rfl) rfl #[.int .i64 a0] rfl (by (try simp only [List.map_toArray, List.map_cons, List.map_nil]); first | done | rfl | (simp only [List.length_drop, List.length_take]; rfl)) ?_; (with_reducible refine (spec_PutInteger.calls k a0 t145 _ A4.out).mono ?_); rintro e w11 ⟨v146, rfl, ho0, hb⟩; refine ⟨_, rfl, ?_⟩; have n0_ := Aside0.mk (Kd.R_elder' (by (with_reducible repeat (first | apply Kd.R_alloc | apply Kd.R_drewN | apply Kd.R_drew)); exact HO142.out) (Kd.Q_base ho0) hb); have n1_ := Aside0.mk (Kd.Q_lower (Kd.Q_new' ho0 (Kd.R_lt (by (with_reducible repeat (first | apply Kd.R_alloc | apply Kd.R_drewN | apply Kd.R_drew)); exact HO142.out))) (below_size (by repeat (first | (with_reducible first | exact HB.out | apply below_alloc | apply pw_below_drewN | apply below_drew1) | exact HB.out)))); have n2_ := Aside0.mk (below_step (by repeat (first | (with_reducible first | exact HB.out | apply below_alloc | apply pw_below_drewN | apply below_drew1) | exact HB.out)) hb); clear HO142; clear HB; have HO142 := n0_; have HO147 := n1_; have HB := n2_; clear n0_ n1_ n2_; (try clear hb); (try clear hb2); (try clear hk); (try clear hi); (try clear ho0); obtain ⟨Ao12, co12, eo12, _⟩ := Kd.Q_slice HO147.out; subst eo12) | ((with_reducible refine gate_callee (f := 17) rfl ?_); refine goesL_ (some 16) rfl rfl Try.func17 (by kernel_rfl) rfl #[.slice Ao9 t140.length co9, .slice Ao12 t145.length co12] rfl (by (try simp only [List.map_toArray, List.map_cons, List.map_nil]); first | done | rfl | (simp only [List.length_drop, List.length_take]; rfl)) ?_; (with_reducible refine (bytes_Equal.calls _ _ t140 _ _ t145 true _ ?side1 ?side2 ?side3 ?side4 A5.out).mono ?_); (case side1 => repeat (first | exact (Kd.R_reads' HO142.out).2.2 | (with_reducible refine Kd.C_alloc ?_ _) | (with_reducible refine Kd.C_drewN ?_ _) | (with_reducible refine Kd.C_drew ?_))); (case side2 => exact (Kd.R_reads' HO142.out).2.1); (case side3 => repeat (first | exact (Kd.Q_reads' HO147.out).2.2 | (with_reducible refine Kd.C_alloc ?_ _) | (with_reducible refine Kd.C_drewN ?_ _) | (with_reducible refine Kd.C_drew ?_))); (case side4 => exact (Kd.Q_reads' HO147.out).2.1); rintro e w' ⟨rfl, ⟨nd, rfl⟩⟩; refine ⟨_, rfl, ?_⟩))
      go_ret
      exact ⟨by first | rfl | (simp [errW_none, errW_some] <;> rfl) | (simp [*, errW_none, errW_some] <;> rfl), by repeat (first | (with_reducible first | exact HB.out | apply below_alloc | apply pw_below_drewN | apply below_drew1) | exact HB.out)⟩
    · replace c7 := Bool.eq_false_iff.mpr c7
      subst c7
      have H1 : (some false) = some r := by rw [if_neg (show ¬ (false = true) by decide)] at H; exact H
      clear H
      have H := H1
      clear H1
      exact absurd (Option.some.inj H) (by rw [HRT.out]; simp)
  · replace c6 := Bool.eq_false_iff.mpr c6
    subst c6
    have H1 : (some false) = some r := by rw [if_neg (show ¬ (false = true) by decide)] at H; exact H
    clear H
    have H := H1
    clear H1
    exact absurd (Option.some.inj H) (by rw [HRT.out]; simp)

/-- THE ONE PURE STATEMENT of laws_FnPutInt64: yours. -/
def laws_FnPutInt64.Pure : Prop := ∀ (a0 : Int), (Lit.int .i64 a0).wf = true → ∃ k, laws_FnPutInt64.f k a0 = some true
theorem laws_FnPutInt64.walk (P : laws_FnPutInt64.Pure) (a0 : Int) (w : World) (w0 : (Lit.int .i64 a0).wf = true) :
    Calls Try.prog 11 #[.int .i64 a0] w fun e w' => e = .returned (.bool true) ∧ Below w.heap.size w w' := by
  obtain ⟨k, h⟩ := P a0 w0
  refine (laws_FnPutInt64.calls k a0 true w h rfl).mono ?_
  rintro e w' ⟨rfl, hd⟩
  exact ⟨rfl, hd⟩

end Go.Proofs.Ytmiemfgcggkbnaa.QI
