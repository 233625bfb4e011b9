-- Written by a program of this work (wip/patch_print.py) for this claim.
import Derived.Test.YtapnkngcnlomhaaQAx0
namespace Go.Proofs.Ytapnkngcnlomhaa.QA
open Go.RowKit Go.Proofs.YtapnkngcnlomhaaW.PrintWords Go.Proofs.YtapnkngcnlomhaaW.PrintLast Go.Proofs.YtapnkngcnlomhaaW.PrintMore
attribute [local go_sem] max2_int min2_int max_two min_two max_three min_three max_four min_four   -- for this text's walks alone
set_option linter.unusedVariables false
set_option linter.unusedSimpArgs false

/-! ### impl_short: function 35 -/
def impl_short.f (l0 : List Int) : Option (Bool) := some (decide ((l0.length : Int) ≤ 10000))
set_option maxHeartbeats 8000000 in
set_option maxRecDepth 100000 in
theorem impl_short.calls (A0 : Option Addr) (c0 : Nat) (l0 : List Int) (r : Bool) (w : World) (hr0 : Kd.C (Kd.int .u8) w A0 l0.length l0) (hc0 : l0.length ≤ c0) (h : impl_short.f l0 = some r) :
    Calls Try.prog 35 #[.slice A0 l0.length c0] w fun e w' => e = .returned (.bool r) ∧ Drawn0 w w' := by
  have HR0 := Aside0.mk hr0
  have HC0 := Aside0.mk hc0
  clear hr0 hc0
  have H : (some (decide ((l0.length : Int) ≤ 10000))) = some r := h
  clear h
  obtain rfl := Option.some.inj H
  go_enter Try.func35, Try.ntmps35
  go_wp2
  go_ret
  exact ⟨by first | rfl | (simp; done) | (simp [*]; done), by repeat (first | exact Drawn0.refl _ | apply Drawn0.step)⟩

/-! ### asn1_checkInteger: function 47 -/
def asn1_checkInteger.f (l0 : List Int) : Option (Option Int) := if (l0.length : Int) = 0 then (some (some 0)) else (if (l0.length : Int) = 1 then (some none) else (if 0 < (l0.length : Int) then (if (rd l0 0) = 0 then (if 1 < (l0.length : Int) then (if (Go.bits .and .u8 (rd l0 1) 128) = 0 then (some (some 1)) else (if (rd l0 0) = 255 then (if (Go.bits .and .u8 (rd l0 1) 128) = 128 then (some (some 1)) else (some none)) else (some none))) else (none)) else (if (rd l0 0) = 255 then (if 1 < (l0.length : Int) then (if (Go.bits .and .u8 (rd l0 1) 128) = 128 then (some (some 1)) else (some none)) else (none)) else (some none))) else (none)))
set_option maxHeartbeats 8000000 in
set_option maxRecDepth 100000 in
theorem asn1_checkInteger.calls (A0 : Option Addr) (c0 : Nat) (l0 : List Int) (r : Option Int) (w : World) (hr0 : Kd.C (Kd.int .u8) w A0 l0.length l0) (hc0 : l0.length ≤ c0) (h : asn1_checkInteger.f l0 = some r) :
    Calls Try.prog 47 #[.slice A0 l0.length c0] w fun e w' => e = .returned (errW r) ∧ Drawn0 w w' := by
  have hu86 := Try.underlying86
  have hu58 := Try.underlying58
  have HR0 := Aside0.mk hr0
  have HC0 := Aside0.mk hc0
  clear hr0 hc0
  have H : (if (l0.length : Int) = 0 then (some (some 0)) else (if (l0.length : Int) = 1 then (some none) else (if 0 < (l0.length : Int) then (if (rd l0 0) = 0 then (if 1 < (l0.length : Int) then (if (Go.bits .and .u8 (rd l0 1) 128) = 0 then (some (some 1)) else (if (rd l0 0) = 255 then (if (Go.bits .and .u8 (rd l0 1) 128) = 128 then (some (some 1)) else (some none)) else (some none))) else (none)) else (if (rd l0 0) = 255 then (if 1 < (l0.length : Int) then (if (Go.bits .and .u8 (rd l0 1) 128) = 128 then (some (some 1)) else (some none)) else (none)) else (some none))) else (none)))) = some r := h
  clear h
  by_cases c2 : (l0.length : Int) = 0
  · rw [if_pos c2] at H
    have c2b0 : ((l0.length : Int) == 0) = true := beq_iff_eq.mpr c2
    have c2b1 : ((l0.length : Int) != 0) = false := bne_eq_false_iff_eq.mpr c2
    clear c2
    obtain rfl := Option.some.inj H
    go_enter Try.func47, Try.ntmps47
    go_wp2
    go_ret
    exact ⟨by first | rfl | (simp; done) | (simp [*]; done), by repeat (first | exact Drawn0.refl _ | apply Drawn0.step)⟩
  · rw [if_neg c2] at H
    have c2b0 : ((l0.length : Int) == 0) = false := beq_eq_false_iff_ne.mpr c2
    have c2b1 : ((l0.length : Int) != 0) = true := bne_iff_ne.mpr c2
    have c2b2 : ¬ (l0 = []) := fun h_ => c2 (by rw [h_]; rfl)
    by_cases c3 : (l0.length : Int) = 1
    · rw [if_pos c3] at H
      have c3b0 : ((l0.length : Int) == 1) = true := beq_iff_eq.mpr c3
      have c3b1 : ((l0.length : Int) != 1) = false := bne_eq_false_iff_eq.mpr c3
      clear c3
      obtain rfl := Option.some.inj H
      go_enter Try.func47, Try.ntmps47
      go_wp2
      go_ret
      exact ⟨by first | rfl | (simp; done) | (simp [*]; done), by repeat (first | exact Drawn0.refl _ | apply Drawn0.step)⟩
    · rw [if_neg c3] at H
      have c3b0 : ((l0.length : Int) == 1) = false := beq_eq_false_iff_ne.mpr c3
      have c3b1 : ((l0.length : Int) != 1) = true := bne_iff_ne.mpr c3
      by_cases c4 : 0 < (l0.length : Int)
      · rw [if_pos c4] at H
        have c4b0 : decide (0 < (l0.length : Int)) = true := decide_eq_true c4
        have c4b1 : decide (0 < l0.length) = true := decide_eq_true (by omega)
        clear c4
        by_cases c5 : (rd l0 0) = 0
        · rw [if_pos c5] at H
          have c5b0 : ((rd l0 0) == 0) = true := beq_iff_eq.mpr c5
          have c5b1 : ((rd l0 0) != 0) = false := bne_eq_false_iff_eq.mpr c5
          clear c5
          by_cases c6 : 1 < (l0.length : Int)
          · rw [if_pos c6] at H
            have c6b0 : decide (1 < (l0.length : Int)) = true := decide_eq_true c6
            have c6b1 : decide (1 < l0.length) = true := decide_eq_true (by omega)
            clear c6
            by_cases c7 : (Go.bits .and .u8 (rd l0 1) 128) = 0
            · rw [if_pos c7] at H
              have c7b0 : ((Go.bits .and .u8 (rd l0 1) 128) == 0) = true := beq_iff_eq.mpr c7
              have c7b1 : ((Go.bits .and .u8 (rd l0 1) 128) != 0) = false := bne_eq_false_iff_eq.mpr c7
              clear c7
              obtain rfl := Option.some.inj H
              have p101 : 0 ≤ (0 : Int) := (by omega)
              have q101 : 0 < (l0.length : Int) := of_decide_eq_true (by first | (with_reducible assumption) | assumption)
              obtain ⟨ad101, e101, hx101_0⟩ := Kd.at_int HR0.out 0 p101 q101
              cases e101
              have qi101 : (0 < l0.length) = True := eq_true (by omega)
              (try rw [show ((0 : Int)).toNat = 0 from rfl] at hx101_0)
              (try rw [Addr.add_zero'] at hx101_0)
              replace p101 := eq_true p101
              replace q101 := eq_true q101
              have p102 : 0 ≤ (1 : Int) := (by omega)
              have q102 : 1 < (l0.length : Int) := of_decide_eq_true (by first | (with_reducible assumption) | assumption)
              obtain ⟨ad102, e102, hx102_0⟩ := Kd.at_int HR0.out 1 p102 q102
              obtain rfl : ad101 = ad102 := (by injection e102)
              (try simp only [show (1 : Int).toNat = 1 from rfl, Nat.reduceMul, Nat.reduceEqDiff, Go.Addr.add, ↓reduceIte] at hx102_0)
              have qi102 : (1 < l0.length) = True := eq_true (by omega)
              (try rw [show ((1 : Int)).toNat = 1 from rfl] at hx102_0)
              replace p102 := eq_true p102
              replace q102 := eq_true q102
              go_enter Try.func47, Try.ntmps47
              go_wp2
              go_ret
              exact ⟨by first | rfl | (simp; done) | (simp [*]; done), by repeat (first | exact Drawn0.refl _ | apply Drawn0.step)⟩
            · rw [if_neg c7] at H
              have c7b0 : ((Go.bits .and .u8 (rd l0 1) 128) == 0) = false := beq_eq_false_iff_ne.mpr c7
              have c7b1 : ((Go.bits .and .u8 (rd l0 1) 128) != 0) = true := bne_iff_ne.mpr c7
              by_cases c8 : (rd l0 0) = 255
              · rw [if_pos c8] at H
                have c8b0 : ((rd l0 0) == 255) = true := beq_iff_eq.mpr c8
                have c8b1 : ((rd l0 0) != 255) = false := bne_eq_false_iff_eq.mpr c8
                clear c8
                by_cases c9 : (Go.bits .and .u8 (rd l0 1) 128) = 128
                · rw [if_pos c9] at H
                  have c9b0 : ((Go.bits .and .u8 (rd l0 1) 128) == 128) = true := beq_iff_eq.mpr c9
                  have c9b1 : ((Go.bits .and .u8 (rd l0 1) 128) != 128) = false := bne_eq_false_iff_eq.mpr c9
                  clear c9
                  obtain rfl := Option.some.inj H
                  have p101 : 0 ≤ (0 : Int) := (by omega)
                  have q101 : 0 < (l0.length : Int) := of_decide_eq_true (by first | (with_reducible assumption) | assumption)
                  obtain ⟨ad101, e101, hx101_0⟩ := Kd.at_int HR0.out 0 p101 q101
                  cases e101
                  have qi101 : (0 < l0.length) = True := eq_true (by omega)
                  (try rw [show ((0 : Int)).toNat = 0 from rfl] at hx101_0)
                  (try rw [Addr.add_zero'] at hx101_0)
                  replace p101 := eq_true p101
                  replace q101 := eq_true q101
                  have p102 : 0 ≤ (1 : Int) := (by omega)
                  have q102 : 1 < (l0.length : Int) := of_decide_eq_true (by first | (with_reducible assumption) | assumption)
                  obtain ⟨ad102, e102, hx102_0⟩ := Kd.at_int HR0.out 1 p102 q102
                  obtain rfl : ad101 = ad102 := (by injection e102)
                  (try simp only [show (1 : Int).toNat = 1 from rfl, Nat.reduceMul, Nat.reduceEqDiff, Go.Addr.add, ↓reduceIte] at hx102_0)
                  have qi102 : (1 < l0.length) = True := eq_true (by omega)
                  (try rw [show ((1 : Int)).toNat = 1 from rfl] at hx102_0)
                  replace p102 := eq_true p102
                  replace q102 := eq_true q102
                  have p103 : 0 ≤ (0 : Int) := (by omega)
                  have q103 : 0 < (l0.length : Int) := of_decide_eq_true (by first | (with_reducible assumption) | assumption)
                  obtain ⟨ad103, e103, hx103_0⟩ := Kd.at_int HR0.out 0 p103 q103
                  obtain rfl : ad101 = ad103 := (by injection e103)
                  have qi103 : (0 < l0.length) = True := eq_true (by omega)
                  (try rw [show ((0 : Int)).toNat = 0 from rfl] at hx103_0)
                  (try rw [Addr.add_zero'] at hx103_0)
                  replace p103 := eq_true p103
                  replace q103 := eq_true q103
                  have p104 : 0 ≤ (1 : Int) := (by omega)
                  have q104 : 1 < (l0.length : Int) := of_decide_eq_true (by first | (with_reducible assumption) | assumption)
                  obtain ⟨ad104, e104, hx104_0⟩ := Kd.at_int HR0.out 1 p104 q104
                  obtain rfl : ad101 = ad104 := (by injection e104)
                  (try simp only [show (1 : Int).toNat = 1 from rfl, Nat.reduceMul, Nat.reduceEqDiff, Go.Addr.add, ↓reduceIte] at hx104_0)
                  have qi104 : (1 < l0.length) = True := eq_true (by omega)
                  (try rw [show ((1 : Int)).toNat = 1 from rfl] at hx104_0)
                  replace p104 := eq_true p104
                  replace q104 := eq_true q104
                  go_enter Try.func47, Try.ntmps47
                  go_wp2
                  go_ret
                  exact ⟨by first | rfl | (simp; done) | (simp [*]; done), by repeat (first | exact Drawn0.refl _ | apply Drawn0.step)⟩
                · rw [if_neg c9] at H
                  have c9b0 : ((Go.bits .and .u8 (rd l0 1) 128) == 128) = false := beq_eq_false_iff_ne.mpr c9
                  have c9b1 : ((Go.bits .and .u8 (rd l0 1) 128) != 128) = true := bne_iff_ne.mpr c9
                  obtain rfl := Option.some.inj H
                  have p101 : 0 ≤ (0 : Int) := (by omega)
                  have q101 : 0 < (l0.length : Int) := of_decide_eq_true (by first | (with_reducible assumption) | assumption)
                  obtain ⟨ad101, e101, hx101_0⟩ := Kd.at_int HR0.out 0 p101 q101
                  cases e101
                  have qi101 : (0 < l0.length) = True := eq_true (by omega)
                  (try rw [show ((0 : Int)).toNat = 0 from rfl] at hx101_0)
                  (try rw [Addr.add_zero'] at hx101_0)
                  replace p101 := eq_true p101
                  replace q101 := eq_true q101
                  have p102 : 0 ≤ (1 : Int) := (by omega)
                  have q102 : 1 < (l0.length : Int) := of_decide_eq_true (by first | (with_reducible assumption) | assumption)
                  obtain ⟨ad102, e102, hx102_0⟩ := Kd.at_int HR0.out 1 p102 q102
                  obtain rfl : ad101 = ad102 := (by injection e102)
                  (try simp only [show (1 : Int).toNat = 1 from rfl, Nat.reduceMul, Nat.reduceEqDiff, Go.Addr.add, ↓reduceIte] at hx102_0)
                  have qi102 : (1 < l0.length) = True := eq_true (by omega)
                  (try rw [show ((1 : Int)).toNat = 1 from rfl] at hx102_0)
                  replace p102 := eq_true p102
                  replace q102 := eq_true q102
                  have p103 : 0 ≤ (0 : Int) := (by omega)
                  have q103 : 0 < (l0.length : Int) := of_decide_eq_true (by first | (with_reducible assumption) | assumption)
                  obtain ⟨ad103, e103, hx103_0⟩ := Kd.at_int HR0.out 0 p103 q103
                  obtain rfl : ad101 = ad103 := (by injection e103)
                  have qi103 : (0 < l0.length) = True := eq_true (by omega)
                  (try rw [show ((0 : Int)).toNat = 0 from rfl] at hx103_0)
                  (try rw [Addr.add_zero'] at hx103_0)
                  replace p103 := eq_true p103
                  replace q103 := eq_true q103
                  have p104 : 0 ≤ (1 : Int) := (by omega)
                  have q104 : 1 < (l0.length : Int) := of_decide_eq_true (by first | (with_reducible assumption) | assumption)
                  obtain ⟨ad104, e104, hx104_0⟩ := Kd.at_int HR0.out 1 p104 q104
                  obtain rfl : ad101 = ad104 := (by injection e104)
                  (try simp only [show (1 : Int).toNat = 1 from rfl, Nat.reduceMul, Nat.reduceEqDiff, Go.Addr.add, ↓reduceIte] at hx104_0)
                  have qi104 : (1 < l0.length) = True := eq_true (by omega)
                  (try rw [show ((1 : Int)).toNat = 1 from rfl] at hx104_0)
                  replace p104 := eq_true p104
                  replace q104 := eq_true q104
                  go_enter Try.func47, Try.ntmps47
                  go_wp2
                  go_ret
                  exact ⟨by first | rfl | (simp; done) | (simp [*]; done), by repeat (first | exact Drawn0.refl _ | apply Drawn0.step)⟩
              · rw [if_neg c8] at H
                have c8b0 : ((rd l0 0) == 255) = false := beq_eq_false_iff_ne.mpr c8
                have c8b1 : ((rd l0 0) != 255) = true := bne_iff_ne.mpr c8
                obtain rfl := Option.some.inj H
                have p101 : 0 ≤ (0 : Int) := (by omega)
                have q101 : 0 < (l0.length : Int) := of_decide_eq_true (by first | (with_reducible assumption) | assumption)
                obtain ⟨ad101, e101, hx101_0⟩ := Kd.at_int HR0.out 0 p101 q101
                cases e101
                have qi101 : (0 < l0.length) = True := eq_true (by omega)
                (try rw [show ((0 : Int)).toNat = 0 from rfl] at hx101_0)
                (try rw [Addr.add_zero'] at hx101_0)
                replace p101 := eq_true p101
                replace q101 := eq_true q101
                have p102 : 0 ≤ (1 : Int) := (by omega)
                have q102 : 1 < (l0.length : Int) := of_decide_eq_true (by first | (with_reducible assumption) | assumption)
                obtain ⟨ad102, e102, hx102_0⟩ := Kd.at_int HR0.out 1 p102 q102
                obtain rfl : ad101 = ad102 := (by injection e102)
                (try simp only [show (1 : Int).toNat = 1 from rfl, Nat.reduceMul, Nat.reduceEqDiff, Go.Addr.add, ↓reduceIte] at hx102_0)
                have qi102 : (1 < l0.length) = True := eq_true (by omega)
                (try rw [show ((1 : Int)).toNat = 1 from rfl] at hx102_0)
                replace p102 := eq_true p102
                replace q102 := eq_true q102
                have p103 : 0 ≤ (0 : Int) := (by omega)
                have q103 : 0 < (l0.length : Int) := of_decide_eq_true (by first | (with_reducible assumption) | assumption)
                obtain ⟨ad103, e103, hx103_0⟩ := Kd.at_int HR0.out 0 p103 q103
                obtain rfl : ad101 = ad103 := (by injection e103)
                have qi103 : (0 < l0.length) = True := eq_true (by omega)
                (try rw [show ((0 : Int)).toNat = 0 from rfl] at hx103_0)
                (try rw [Addr.add_zero'] at hx103_0)
                replace p103 := eq_true p103
                replace q103 := eq_true q103
                go_enter Try.func47, Try.ntmps47
                go_wp2
                go_ret
                exact ⟨by first | rfl | (simp; done) | (simp [*]; done), by repeat (first | exact Drawn0.refl _ | apply Drawn0.step)⟩
          · rw [if_neg c6] at H
            exact absurd H (by simp)
        · rw [if_neg c5] at H
          have c5b0 : ((rd l0 0) == 0) = false := beq_eq_false_iff_ne.mpr c5
          have c5b1 : ((rd l0 0) != 0) = true := bne_iff_ne.mpr c5
          by_cases c10 : (rd l0 0) = 255
          · rw [if_pos c10] at H
            have c10b0 : ((rd l0 0) == 255) = true := beq_iff_eq.mpr c10
            have c10b1 : ((rd l0 0) != 255) = false := bne_eq_false_iff_eq.mpr c10
            clear c10
            by_cases c11 : 1 < (l0.length : Int)
            · rw [if_pos c11] at H
              have c11b0 : decide (1 < (l0.length : Int)) = true := decide_eq_true c11
              have c11b1 : decide (1 < l0.length) = true := decide_eq_true (by omega)
              clear c11
              by_cases c12 : (Go.bits .and .u8 (rd l0 1) 128) = 128
              · rw [if_pos c12] at H
                have c12b0 : ((Go.bits .and .u8 (rd l0 1) 128) == 128) = true := beq_iff_eq.mpr c12
                have c12b1 : ((Go.bits .and .u8 (rd l0 1) 128) != 128) = false := bne_eq_false_iff_eq.mpr c12
                clear c12
                obtain rfl := Option.some.inj H
                have p101 : 0 ≤ (0 : Int) := (by omega)
                have q101 : 0 < (l0.length : Int) := of_decide_eq_true (by first | (with_reducible assumption) | assumption)
                obtain ⟨ad101, e101, hx101_0⟩ := Kd.at_int HR0.out 0 p101 q101
                cases e101
                have qi101 : (0 < l0.length) = True := eq_true (by omega)
                (try rw [show ((0 : Int)).toNat = 0 from rfl] at hx101_0)
                (try rw [Addr.add_zero'] at hx101_0)
                replace p101 := eq_true p101
                replace q101 := eq_true q101
                have p105 : 0 ≤ (0 : Int) := (by omega)
                have q105 : 0 < (l0.length : Int) := of_decide_eq_true (by first | (with_reducible assumption) | assumption)
                obtain ⟨ad105, e105, hx105_0⟩ := Kd.at_int HR0.out 0 p105 q105
                obtain rfl : ad101 = ad105 := (by injection e105)
                have qi105 : (0 < l0.length) = True := eq_true (by omega)
                (try rw [show ((0 : Int)).toNat = 0 from rfl] at hx105_0)
                (try rw [Addr.add_zero'] at hx105_0)
                replace p105 := eq_true p105
                replace q105 := eq_true q105
                have p106 : 0 ≤ (1 : Int) := (by omega)
                have q106 : 1 < (l0.length : Int) := of_decide_eq_true (by first | (with_reducible assumption) | assumption)
                obtain ⟨ad106, e106, hx106_0⟩ := Kd.at_int HR0.out 1 p106 q106
                obtain rfl : ad101 = ad106 := (by injection e106)
                (try simp only [show (1 : Int).toNat = 1 from rfl, Nat.reduceMul, Nat.reduceEqDiff, Go.Addr.add, ↓reduceIte] at hx106_0)
                have qi106 : (1 < l0.length) = True := eq_true (by omega)
                (try rw [show ((1 : Int)).toNat = 1 from rfl] at hx106_0)
                replace p106 := eq_true p106
                replace q106 := eq_true q106
                go_enter Try.func47, Try.ntmps47
                go_wp2
                go_ret
                exact ⟨by first | rfl | (simp; done) | (simp [*]; done), by repeat (first | exact Drawn0.refl _ | apply Drawn0.step)⟩
              · rw [if_neg c12] at H
                have c12b0 : ((Go.bits .and .u8 (rd l0 1) 128) == 128) = false := beq_eq_false_iff_ne.mpr c12
                have c12b1 : ((Go.bits .and .u8 (rd l0 1) 128) != 128) = true := bne_iff_ne.mpr c12
                obtain rfl := Option.some.inj H
                have p101 : 0 ≤ (0 : Int) := (by omega)
                have q101 : 0 < (l0.length : Int) := of_decide_eq_true (by first | (with_reducible assumption) | assumption)
                obtain ⟨ad101, e101, hx101_0⟩ := Kd.at_int HR0.out 0 p101 q101
                cases e101
                have qi101 : (0 < l0.length) = True := eq_true (by omega)
                (try rw [show ((0 : Int)).toNat = 0 from rfl] at hx101_0)
                (try rw [Addr.add_zero'] at hx101_0)
                replace p101 := eq_true p101
                replace q101 := eq_true q101
                have p105 : 0 ≤ (0 : Int) := (by omega)
                have q105 : 0 < (l0.length : Int) := of_decide_eq_true (by first | (with_reducible assumption) | assumption)
                obtain ⟨ad105, e105, hx105_0⟩ := Kd.at_int HR0.out 0 p105 q105
                obtain rfl : ad101 = ad105 := (by injection e105)
                have qi105 : (0 < l0.length) = True := eq_true (by omega)
                (try rw [show ((0 : Int)).toNat = 0 from rfl] at hx105_0)
                (try rw [Addr.add_zero'] at hx105_0)
                replace p105 := eq_true p105
                replace q105 := eq_true q105
                have p106 : 0 ≤ (1 : Int) := (by omega)
                have q106 : 1 < (l0.length : Int) := of_decide_eq_true (by first | (with_reducible assumption) | assumption)
                obtain ⟨ad106, e106, hx106_0⟩ := Kd.at_int HR0.out 1 p106 q106
                obtain rfl : ad101 = ad106 := (by injection e106)
                (try simp only [show (1 : Int).toNat = 1 from rfl, Nat.reduceMul, Nat.reduceEqDiff, Go.Addr.add, ↓reduceIte] at hx106_0)
                have qi106 : (1 < l0.length) = True := eq_true (by omega)
                (try rw [show ((1 : Int)).toNat = 1 from rfl] at hx106_0)
                replace p106 := eq_true p106
                replace q106 := eq_true q106
                go_enter Try.func47, Try.ntmps47
                go_wp2
                go_ret
                exact ⟨by first | rfl | (simp; done) | (simp [*]; done), by repeat (first | exact Drawn0.refl _ | apply Drawn0.step)⟩
            · rw [if_neg c11] at H
              exact absurd H (by simp)
          · rw [if_neg c10] at H
            have c10b0 : ((rd l0 0) == 255) = false := beq_eq_false_iff_ne.mpr c10
            have c10b1 : ((rd l0 0) != 255) = true := bne_iff_ne.mpr c10
            obtain rfl := Option.some.inj H
            have p101 : 0 ≤ (0 : Int) := (by omega)
            have q101 : 0 < (l0.length : Int) := of_decide_eq_true (by first | (with_reducible assumption) | assumption)
            obtain ⟨ad101, e101, hx101_0⟩ := Kd.at_int HR0.out 0 p101 q101
            cases e101
            have qi101 : (0 < l0.length) = True := eq_true (by omega)
            (try rw [show ((0 : Int)).toNat = 0 from rfl] at hx101_0)
            (try rw [Addr.add_zero'] at hx101_0)
            replace p101 := eq_true p101
            replace q101 := eq_true q101
            have p105 : 0 ≤ (0 : Int) := (by omega)
            have q105 : 0 < (l0.length : Int) := of_decide_eq_true (by first | (with_reducible assumption) | assumption)
            obtain ⟨ad105, e105, hx105_0⟩ := Kd.at_int HR0.out 0 p105 q105
            obtain rfl : ad101 = ad105 := (by injection e105)
            have qi105 : (0 < l0.length) = True := eq_true (by omega)
            (try rw [show ((0 : Int)).toNat = 0 from rfl] at hx105_0)
            (try rw [Addr.add_zero'] at hx105_0)
            replace p105 := eq_true p105
            replace q105 := eq_true q105
            go_enter Try.func47, Try.ntmps47
            go_wp2
            go_ret
            exact ⟨by first | rfl | (simp; done) | (simp [*]; done), by repeat (first | exact Drawn0.refl _ | apply Drawn0.step)⟩
      · rw [if_neg c4] at H
        exact absurd H (by simp)

/-! ### asn1_ZZCheckInteger: function 36 -/
def asn1_ZZCheckInteger.f (l0 : List Int) : Option (Option Int) := (asn1_checkInteger.f l0).bind fun t107 => (some t107)
set_option maxHeartbeats 8000000 in
set_option maxRecDepth 100000 in
theorem asn1_ZZCheckInteger.calls (A0 : Option Addr) (c0 : Nat) (l0 : List Int) (r : Option Int) (w : World) (hr0 : Kd.C (Kd.int .u8) w A0 l0.length l0) (hc0 : l0.length ≤ c0) (h : asn1_ZZCheckInteger.f l0 = some r) :
    Calls Try.prog 36 #[.slice A0 l0.length c0] w fun e w' => e = .returned (errW r) ∧ Drawn0 w w' := by
  have HR0 := Aside0.mk hr0
  have HC0 := Aside0.mk hc0
  clear hr0 hc0
  have H : ((asn1_checkInteger.f l0).bind fun t107 => (some t107)) = some r := h
  clear h
  replace H := Option.bind_eq_some_iff.mp H
  obtain ⟨t107, A20, H⟩ := H
  replace H : (some t107) = some r := H
  have A2 := Aside0.mk A20
  clear A20
  obtain rfl := Option.some.inj H
  go_enter Try.func36, Try.ntmps36
  go_wp2_with (first | ((with_reducible refine gate_callee (f := 47) rfl ?_); refine goesL_ (some 4) rfl rfl Try.func47 (by kernel_rfl) rfl #[.slice A0 l0.length c0] rfl (by (try simp only [List.map_toArray, List.map_cons, List.map_nil]); first | done | rfl | (simp only [List.length_drop, List.length_take]; rfl)) ?_; (with_reducible refine (asn1_checkInteger.calls _ _ l0 t107 _ ?side1 ?side2 A2.out).mono ?_); (case side1 => repeat (first | exact HR0.out | (with_reducible refine Kd.C_alloc ?_ _) | (with_reducible refine Kd.C_drewN ?_ _) | (with_reducible refine Kd.C_drew ?_))); (case side2 => exact HC0.out); rintro e w' ⟨rfl, ⟨nd, rfl⟩⟩; refine ⟨_, rfl, ?_⟩; (try simp only [errW_none, errW_some])))
  go_ret
  exact ⟨by first | rfl | (simp; done) | (simp [*]; done), by repeat (first | exact Drawn0.refl _ | apply Drawn0.step)⟩

/-! ### impl_copied: function 37 -/
def impl_copied.f (l0 : List Int) : Option (List Int) := if ([] : List Int).length + l0.length < 140737488355328 then (some (([] : List Int) ++ l0)) else (none)
set_option maxHeartbeats 8000000 in
set_option maxRecDepth 100000 in
theorem impl_copied.calls (A0 : Option Addr) (c0 : Nat) (l0 : List Int) (r : List Int) (w : World) (hr0 : Kd.C (Kd.int .u8) w A0 l0.length l0) (hc0 : l0.length ≤ c0) (h : impl_copied.f l0 = some r) :
    Calls Try.prog 37 #[.slice A0 l0.length c0] w fun e w' => ∃ v0_ : Value, e = .returned (v0_) ∧ Kd.R (Kd.int .u8) 5 w' w.heap.size (fun _ => True) v0_ r ∧ Below w.heap.size w w' := by
  have HR0 := Aside0.mk hr0
  have HC0 := Aside0.mk hc0
  clear hr0 hc0
  have HB := Aside0.mk (Below.refl w.heap.size w)
  have H : (if ([] : List Int).length + l0.length < 140737488355328 then (some (([] : List Int) ++ l0)) else (none)) = some r := h
  clear h
  by_cases c2 : ([] : List Int).length + l0.length < 140737488355328
  · rw [if_pos c2] at H
    have LMc2 := Aside0.mk c2
    clear c2
    obtain ⟨y108, hy108⟩ : ∃ y_ : List Int, y_ = (([] : List Int) ++ l0) := ⟨_, rfl⟩
    replace H : (some y108) = some r := by first | (rw [hy108]; with_reducible exact H) | (have H2_ := (Option.bind_some _ _).symm.trans H; rw [hy108]; with_reducible exact H2_) | (have H2_ := (Option.bind_some _ _).symm.trans H; with_reducible exact H2_) | with_reducible exact H | (rw [hy108]; exact H) | exact H
    have Ny108 := Aside0.mk hy108
    clear hy108
    obtain rfl := Option.some.inj H
    go_enter Try.func37, Try.ntmps37
    go_wp2_with (first | ((with_reducible refine gate_builtin (b := .append) (xs := #[.const (.slice none 0 0), .tmp 3]) rfl ?_); at_builtin; refine Kd.R_append_rows (Kd.int .u8) (w0 := w) w.heap.size rfl (.const (.slice none 0 0)) (.tmp 3) 22 5 (.int .u8 0) 1 rfl Try.underlying22 info5 rfl (by decide) (by omega) (.slice none 0 0) ([] : List Int) l0 _ _ _ (fun _ => True) (fun _ => False) rfl rfl ?aO ?aR (fun _ _ h => h) (fun _ h => h.elim) ?aF ?aB ?aS ?aL ?_; (case aR => repeat (first | exact HR0.out | (with_reducible refine Kd.C_alloc ?_ _) | (with_reducible refine Kd.C_drewN ?_ _) | (with_reducible refine Kd.C_drew ?_))); (case aB => exact (by repeat (first | (with_reducible first | exact HB.out | apply below_alloc | apply pw_below_drewN | apply below_drew1) | exact HB.out))); (case aF => exact (fun _ _ => trivial)); (case aO => exact ((Kd.R_nil _ _ _ _ (fun _ => True)))); (case aS => exact (below_size (by repeat (first | (with_reducible first | exact HB.out | apply below_alloc | apply pw_below_drewN | apply below_drew1) | exact HB.out)))); (case aL => have := LMc2.out; omega); intro v109 w3 ho hb hg hat; rw [← Ny108.out] at ho; have n0_ := Aside0.mk (hb); have n1_ := Aside0.mk (ho); clear HB; have HB := n0_; have HO110 := n1_; clear n0_ n1_; clear ho hb hg hat))
    go_ret
    exact ⟨_, by first | rfl | (simp [errW_none, errW_some] <;> rfl) | (simp [*, errW_none, errW_some] <;> rfl), by (with_reducible repeat (first | apply Kd.R_alloc | apply Kd.R_drewN | apply Kd.R_drew)); exact HO110.out, by repeat (first | (with_reducible first | exact HB.out | apply below_alloc | apply pw_below_drewN | apply below_drew1) | exact HB.out)⟩
  · rw [if_neg c2] at H
    exact absurd H (by simp)

/-! ### impl_Check: function 14 -/
def impl_Check.f (l0 : List Int) : Option (Bool) := (impl_short.f l0).bind fun t111 => (if t111 = true then ((impl_copied.f l0).bind fun t112 => ((asn1_ZZCheckInteger.f t112).bind fun t115 => (if t115.isNone = true then (some true) else (some false)))) else (some false))
set_option maxHeartbeats 8000000 in
set_option maxRecDepth 100000 in
theorem impl_Check.calls (A0 : Option Addr) (c0 : Nat) (l0 : List Int) (r : Bool) (w : World) (hr0 : Kd.C (Kd.int .u8) w A0 l0.length l0) (hc0 : l0.length ≤ c0) (h : impl_Check.f l0 = some r) :
    Calls Try.prog 14 #[.slice A0 l0.length c0] w fun e w' => e = .returned (.bool r) ∧ Below w.heap.size w w' := by
  have hu58 := Try.underlying58
  have HR0 := Aside0.mk hr0
  have HC0 := Aside0.mk hc0
  clear hr0 hc0
  have HB := Aside0.mk (Below.refl w.heap.size w)
  have H : ((impl_short.f l0).bind fun t111 => (if t111 = true then ((impl_copied.f l0).bind fun t112 => ((asn1_ZZCheckInteger.f t112).bind fun t115 => (if t115.isNone = true then (some true) else (some false)))) else (some false))) = some r := h
  clear h
  replace H := Option.bind_eq_some_iff.mp H
  obtain ⟨t111, A20, H⟩ := H
  replace H : (if t111 = true then ((impl_copied.f l0).bind fun t112 => ((asn1_ZZCheckInteger.f t112).bind fun t115 => (if t115.isNone = true then (some true) else (some false)))) else (some false)) = some r := H
  have A2 := Aside0.mk A20
  clear A20
  by_cases c3 : t111 = true
  · subst c3
    have H1 : ((impl_copied.f l0).bind fun t112 => ((asn1_ZZCheckInteger.f t112).bind fun t115 => (if t115.isNone = true then (some true) else (some false)))) = some r := by rw [if_pos rfl] at H; exact H
    clear H
    have H := H1
    clear H1
    replace H := Option.bind_eq_some_iff.mp H
    obtain ⟨t112, A40, H⟩ := H
    replace H : ((asn1_ZZCheckInteger.f t112).bind fun t115 => (if t115.isNone = true then (some true) else (some false))) = some r := H
    have A4 := Aside0.mk A40
    clear A40
    replace H := Option.bind_eq_some_iff.mp H
    obtain ⟨t115, A50, H⟩ := H
    replace H : (if t115.isNone = true then (some true) else (some false)) = some r := H
    have A5 := Aside0.mk A50
    clear A50
    rcases t115 with _ | q116
    · have H1 : (some true) = some r := by rw [if_pos (show (none : Option Int).isNone = true by rfl)] at H; exact H
      clear H
      have H := H1
      clear H1
      try simp only [errW_none, errW_some]
      obtain rfl := Option.some.inj H
      go_enter Try.func14, Try.ntmps14
      go_wp2_with (first | ((with_reducible refine gate_callee (f := 35) rfl ?_); refine goesL_ (some 4) rfl rfl Try.func35 (by kernel_rfl) rfl #[.slice A0 l0.length c0] rfl (by (try simp only [List.map_toArray, List.map_cons, List.map_nil]); first | done | rfl | (simp only [List.length_drop, List.length_take]; rfl)) ?_; (with_reducible refine (impl_short.calls _ _ l0 true _ ?side1 ?side2 A2.out).mono ?_); (case side1 => repeat (first | exact HR0.out | (with_reducible refine Kd.C_alloc ?_ _) | (with_reducible refine Kd.C_drewN ?_ _) | (with_reducible refine Kd.C_drew ?_))); (case side2 => exact HC0.out); rintro e w' ⟨rfl, ⟨nd, rfl⟩⟩; refine ⟨_, rfl, ?_⟩) | (go_at_call 37; (with_reducible refine (impl_copied.calls _ _ l0 t112 _ ?side1 ?side2 A4.out).mono ?_); (case side1 => repeat (first | exact HR0.out | (with_reducible refine Kd.C_alloc ?_ _) | (with_reducible refine Kd.C_drewN ?_ _) | (with_reducible refine Kd.C_drew ?_))); (case side2 => exact HC0.out); rintro e w6 ⟨v113, rfl, ho0, hb⟩; have n0_ := Aside0.mk (Kd.R_lower ho0 (below_size (by repeat (first | (with_reducible first | exact HB.out | apply below_alloc | apply pw_below_drewN | apply below_drew1) | exact HB.out)))); have n1_ := Aside0.mk (below_step (by repeat (first | (with_reducible first | exact HB.out | apply below_alloc | apply pw_below_drewN | apply below_drew1) | exact HB.out)) hb); clear HB; have HO114 := n0_; have HB := n1_; clear n0_ n1_; (try clear hb); (try clear hb2); (try clear hk); (try clear hi); (try clear ho0); obtain ⟨Ao7, co7, eo7⟩ := Kd.R_slice HO114.out; subst eo7) | (go_at_call 36; (with_reducible refine (asn1_ZZCheckInteger.calls _ _ t112 none _ ?side1 ?side2 A5.out).mono ?_); (case side1 => repeat (first | exact (Kd.R_reads' HO114.out).2.2 | (with_reducible refine Kd.C_alloc ?_ _) | (with_reducible refine Kd.C_drewN ?_ _) | (with_reducible refine Kd.C_drew ?_))); (case side2 => exact (Kd.R_reads' HO114.out).2.1); rintro e w' ⟨rfl, ⟨nd, rfl⟩⟩; (try simp only [errW_none, errW_some])))
      go_ret
      exact ⟨by first | rfl | (simp [errW_none, errW_some] <;> rfl) | (simp [*, errW_none, errW_some] <;> rfl), by repeat (first | (with_reducible first | exact HB.out | apply below_alloc | apply pw_below_drewN | apply below_drew1) | exact HB.out)⟩
    · have H1 : (some false) = some r := by rw [if_neg (show ¬ (some q116).isNone = true by simp)] at H; exact H
      clear H
      have H := H1
      clear H1
      try simp only [errW_none, errW_some]
      obtain rfl := Option.some.inj H
      go_enter Try.func14, Try.ntmps14
      go_wp2_with (first | ((with_reducible refine gate_callee (f := 35) rfl ?_); refine goesL_ (some 4) rfl rfl Try.func35 (by kernel_rfl) rfl #[.slice A0 l0.length c0] rfl (by (try simp only [List.map_toArray, List.map_cons, List.map_nil]); first | done | rfl | (simp only [List.length_drop, List.length_take]; rfl)) ?_; (with_reducible refine (impl_short.calls _ _ l0 true _ ?side1 ?side2 A2.out).mono ?_); (case side1 => repeat (first | exact HR0.out | (with_reducible refine Kd.C_alloc ?_ _) | (with_reducible refine Kd.C_drewN ?_ _) | (with_reducible refine Kd.C_drew ?_))); (case side2 => exact HC0.out); rintro e w' ⟨rfl, ⟨nd, rfl⟩⟩; refine ⟨_, rfl, ?_⟩) | (go_at_call 37; (with_reducible refine (impl_copied.calls _ _ l0 t112 _ ?side1 ?side2 A4.out).mono ?_); (case side1 => repeat (first | exact HR0.out | (with_reducible refine Kd.C_alloc ?_ _) | (with_reducible refine Kd.C_drewN ?_ _) | (with_reducible refine Kd.C_drew ?_))); (case side2 => exact HC0.out); rintro e w8 ⟨v113, rfl, ho0, hb⟩; have n0_ := Aside0.mk (Kd.R_lower ho0 (below_size (by repeat (first | (with_reducible first | exact HB.out | apply below_alloc | apply pw_below_drewN | apply below_drew1) | exact HB.out)))); have n1_ := Aside0.mk (below_step (by repeat (first | (with_reducible first | exact HB.out | apply below_alloc | apply pw_below_drewN | apply below_drew1) | exact HB.out)) hb); clear HB; have HO114 := n0_; have HB := n1_; clear n0_ n1_; (try clear hb); (try clear hb2); (try clear hk); (try clear hi); (try clear ho0); obtain ⟨Ao9, co9, eo9⟩ := Kd.R_slice HO114.out; subst eo9) | (go_at_call 36; (with_reducible refine (asn1_ZZCheckInteger.calls _ _ t112 (some q116) _ ?side1 ?side2 A5.out).mono ?_); (case side1 => repeat (first | exact (Kd.R_reads' HO114.out).2.2 | (with_reducible refine Kd.C_alloc ?_ _) | (with_reducible refine Kd.C_drewN ?_ _) | (with_reducible refine Kd.C_drew ?_))); (case side2 => exact (Kd.R_reads' HO114.out).2.1); rintro e w' ⟨rfl, ⟨nd, rfl⟩⟩; (try simp only [errW_none, errW_some])))
      go_ret
      exact ⟨by first | rfl | (simp [errW_none, errW_some] <;> rfl) | (simp [*, errW_none, errW_some] <;> rfl), by repeat (first | (with_reducible first | exact HB.out | apply below_alloc | apply pw_below_drewN | apply below_drew1) | exact HB.out)⟩
  · replace c3 := Bool.eq_false_iff.mpr c3
    subst c3
    have H1 : (some false) = some r := by rw [if_neg (show ¬ (false = true) by decide)] at H; exact H
    clear H
    have H := H1
    clear H1
    obtain rfl := Option.some.inj H
    go_enter Try.func14, Try.ntmps14
    go_wp2_with (first | ((with_reducible refine gate_callee (f := 35) rfl ?_); refine goesL_ (some 4) rfl rfl Try.func35 (by kernel_rfl) rfl #[.slice A0 l0.length c0] rfl (by (try simp only [List.map_toArray, List.map_cons, List.map_nil]); first | done | rfl | (simp only [List.length_drop, List.length_take]; rfl)) ?_; (with_reducible refine (impl_short.calls _ _ l0 false _ ?side1 ?side2 A2.out).mono ?_); (case side1 => repeat (first | exact HR0.out | (with_reducible refine Kd.C_alloc ?_ _) | (with_reducible refine Kd.C_drewN ?_ _) | (with_reducible refine Kd.C_drew ?_))); (case side2 => exact HC0.out); rintro e w' ⟨rfl, ⟨nd, rfl⟩⟩; refine ⟨_, rfl, ?_⟩))
    go_ret
    exact ⟨by first | rfl | (simp [errW_none, errW_some] <;> rfl) | (simp [*, errW_none, errW_some] <;> rfl), by repeat (first | (with_reducible first | exact HB.out | apply below_alloc | apply pw_below_drewN | apply below_drew1) | exact HB.out)⟩

/-! ### spec_Shortest: function 15 -/
def spec_Shortest.f (l0 : List Int) : Option (Bool) := if (l0.length : Int) < 2 then (some ((l0.length : Int) == 1)) else (if 0 < (l0.length : Int) then (if (rd l0 0) = 0 then (if 1 < (l0.length : Int) then (if (rd l0 1) < 128 then (some (!true)) else (if (rd l0 0) = 255 then (some (!(decide ((rd l0 1) ≥ 128)))) else (some (!false)))) else (none)) else (if (rd l0 0) = 255 then (if 1 < (l0.length : Int) then (some (!(decide ((rd l0 1) ≥ 128)))) else (none)) else (some (!false)))) else (none))
set_option maxHeartbeats 8000000 in
set_option maxRecDepth 100000 in
theorem spec_Shortest.calls (A0 : Option Addr) (c0 : Nat) (l0 : List Int) (r : Bool) (w : World) (hr0 : Kd.C (Kd.int .u8) w A0 l0.length l0) (hc0 : l0.length ≤ c0) (h : spec_Shortest.f l0 = some r) :
    Calls Try.prog 15 #[.slice A0 l0.length c0] w fun e w' => e = .returned (.bool r) ∧ Drawn0 w w' := by
  have HR0 := Aside0.mk hr0
  have HC0 := Aside0.mk hc0
  clear hr0 hc0
  have H : (if (l0.length : Int) < 2 then (some ((l0.length : Int) == 1)) else (if 0 < (l0.length : Int) then (if (rd l0 0) = 0 then (if 1 < (l0.length : Int) then (if (rd l0 1) < 128 then (some (!true)) else (if (rd l0 0) = 255 then (some (!(decide ((rd l0 1) ≥ 128)))) else (some (!false)))) else (none)) else (if (rd l0 0) = 255 then (if 1 < (l0.length : Int) then (some (!(decide ((rd l0 1) ≥ 128)))) else (none)) else (some (!false)))) else (none))) = some r := h
  clear h
  by_cases c2 : (l0.length : Int) < 2
  · rw [if_pos c2] at H
    have c2b0 : decide ((l0.length : Int) < 2) = true := decide_eq_true c2
    have c2b1 : decide (l0.length < 2) = true := decide_eq_true (by omega)
    clear c2
    obtain rfl := Option.some.inj H
    go_enter Try.func15, Try.ntmps15
    go_wp2
    go_ret
    exact ⟨by first | rfl | (simp; done) | (simp [*]; done), by repeat (first | exact Drawn0.refl _ | apply Drawn0.step)⟩
  · rw [if_neg c2] at H
    have c2b0 : decide ((l0.length : Int) < 2) = false := decide_eq_false c2
    have c2b1 : decide (l0.length < 2) = false := decide_eq_false (by omega)
    clear c2
    by_cases c3 : 0 < (l0.length : Int)
    · rw [if_pos c3] at H
      have c3b0 : decide (0 < (l0.length : Int)) = true := decide_eq_true c3
      have c3b1 : decide (0 < l0.length) = true := decide_eq_true (by omega)
      clear c3
      by_cases c4 : (rd l0 0) = 0
      · rw [if_pos c4] at H
        have c4b0 : ((rd l0 0) == 0) = true := beq_iff_eq.mpr c4
        have c4b1 : ((rd l0 0) != 0) = false := bne_eq_false_iff_eq.mpr c4
        clear c4
        by_cases c5 : 1 < (l0.length : Int)
        · rw [if_pos c5] at H
          have c5b0 : decide (1 < (l0.length : Int)) = true := decide_eq_true c5
          have c5b1 : decide (1 < l0.length) = true := decide_eq_true (by omega)
          clear c5
          by_cases c6 : (rd l0 1) < 128
          · rw [if_pos c6] at H
            have c6b0 : decide ((rd l0 1) < 128) = true := decide_eq_true c6
            clear c6
            obtain rfl := Option.some.inj H
            have p117 : 0 ≤ (0 : Int) := (by omega)
            have q117 : 0 < (l0.length : Int) := of_decide_eq_true (by first | (with_reducible assumption) | assumption)
            obtain ⟨ad117, e117, hx117_0⟩ := Kd.at_int HR0.out 0 p117 q117
            cases e117
            have qi117 : (0 < l0.length) = True := eq_true (by omega)
            (try rw [show ((0 : Int)).toNat = 0 from rfl] at hx117_0)
            (try rw [Addr.add_zero'] at hx117_0)
            replace p117 := eq_true p117
            replace q117 := eq_true q117
            have p118 : 0 ≤ (1 : Int) := (by omega)
            have q118 : 1 < (l0.length : Int) := of_decide_eq_true (by first | (with_reducible assumption) | assumption)
            obtain ⟨ad118, e118, hx118_0⟩ := Kd.at_int HR0.out 1 p118 q118
            obtain rfl : ad117 = ad118 := (by injection e118)
            (try simp only [show (1 : Int).toNat = 1 from rfl, Nat.reduceMul, Nat.reduceEqDiff, Go.Addr.add, ↓reduceIte] at hx118_0)
            have qi118 : (1 < l0.length) = True := eq_true (by omega)
            (try rw [show ((1 : Int)).toNat = 1 from rfl] at hx118_0)
            replace p118 := eq_true p118
            replace q118 := eq_true q118
            go_enter Try.func15, Try.ntmps15
            go_wp2
            go_ret
            exact ⟨by first | rfl | (simp; done) | (simp [*]; done), by repeat (first | exact Drawn0.refl _ | apply Drawn0.step)⟩
          · rw [if_neg c6] at H
            have c6b0 : decide ((rd l0 1) < 128) = false := decide_eq_false c6
            clear c6
            by_cases c7 : (rd l0 0) = 255
            · rw [if_pos c7] at H
              have c7b0 : ((rd l0 0) == 255) = true := beq_iff_eq.mpr c7
              have c7b1 : ((rd l0 0) != 255) = false := bne_eq_false_iff_eq.mpr c7
              clear c7
              obtain rfl := Option.some.inj H
              have p117 : 0 ≤ (0 : Int) := (by omega)
              have q117 : 0 < (l0.length : Int) := of_decide_eq_true (by first | (with_reducible assumption) | assumption)
              obtain ⟨ad117, e117, hx117_0⟩ := Kd.at_int HR0.out 0 p117 q117
              cases e117
              have qi117 : (0 < l0.length) = True := eq_true (by omega)
              (try rw [show ((0 : Int)).toNat = 0 from rfl] at hx117_0)
              (try rw [Addr.add_zero'] at hx117_0)
              replace p117 := eq_true p117
              replace q117 := eq_true q117
              have p118 : 0 ≤ (1 : Int) := (by omega)
              have q118 : 1 < (l0.length : Int) := of_decide_eq_true (by first | (with_reducible assumption) | assumption)
              obtain ⟨ad118, e118, hx118_0⟩ := Kd.at_int HR0.out 1 p118 q118
              obtain rfl : ad117 = ad118 := (by injection e118)
              (try simp only [show (1 : Int).toNat = 1 from rfl, Nat.reduceMul, Nat.reduceEqDiff, Go.Addr.add, ↓reduceIte] at hx118_0)
              have qi118 : (1 < l0.length) = True := eq_true (by omega)
              (try rw [show ((1 : Int)).toNat = 1 from rfl] at hx118_0)
              replace p118 := eq_true p118
              replace q118 := eq_true q118
              have p119 : 0 ≤ (0 : Int) := (by omega)
              have q119 : 0 < (l0.length : Int) := of_decide_eq_true (by first | (with_reducible assumption) | assumption)
              obtain ⟨ad119, e119, hx119_0⟩ := Kd.at_int HR0.out 0 p119 q119
              obtain rfl : ad117 = ad119 := (by injection e119)
              have qi119 : (0 < l0.length) = True := eq_true (by omega)
              (try rw [show ((0 : Int)).toNat = 0 from rfl] at hx119_0)
              (try rw [Addr.add_zero'] at hx119_0)
              replace p119 := eq_true p119
              replace q119 := eq_true q119
              have p120 : 0 ≤ (1 : Int) := (by omega)
              have q120 : 1 < (l0.length : Int) := of_decide_eq_true (by first | (with_reducible assumption) | assumption)
              obtain ⟨ad120, e120, hx120_0⟩ := Kd.at_int HR0.out 1 p120 q120
              obtain rfl : ad117 = ad120 := (by injection e120)
              (try simp only [show (1 : Int).toNat = 1 from rfl, Nat.reduceMul, Nat.reduceEqDiff, Go.Addr.add, ↓reduceIte] at hx120_0)
              have qi120 : (1 < l0.length) = True := eq_true (by omega)
              (try rw [show ((1 : Int)).toNat = 1 from rfl] at hx120_0)
              replace p120 := eq_true p120
              replace q120 := eq_true q120
              go_enter Try.func15, Try.ntmps15
              go_wp2
              go_ret
              exact ⟨by first | rfl | (simp; done) | (simp [*]; done), by repeat (first | exact Drawn0.refl _ | apply Drawn0.step)⟩
            · rw [if_neg c7] at H
              have c7b0 : ((rd l0 0) == 255) = false := beq_eq_false_iff_ne.mpr c7
              have c7b1 : ((rd l0 0) != 255) = true := bne_iff_ne.mpr c7
              obtain rfl := Option.some.inj H
              have p117 : 0 ≤ (0 : Int) := (by omega)
              have q117 : 0 < (l0.length : Int) := of_decide_eq_true (by first | (with_reducible assumption) | assumption)
              obtain ⟨ad117, e117, hx117_0⟩ := Kd.at_int HR0.out 0 p117 q117
              cases e117
              have qi117 : (0 < l0.length) = True := eq_true (by omega)
              (try rw [show ((0 : Int)).toNat = 0 from rfl] at hx117_0)
              (try rw [Addr.add_zero'] at hx117_0)
              replace p117 := eq_true p117
              replace q117 := eq_true q117
              have p118 : 0 ≤ (1 : Int) := (by omega)
              have q118 : 1 < (l0.length : Int) := of_decide_eq_true (by first | (with_reducible assumption) | assumption)
              obtain ⟨ad118, e118, hx118_0⟩ := Kd.at_int HR0.out 1 p118 q118
              obtain rfl : ad117 = ad118 := (by injection e118)
              (try simp only [show (1 : Int).toNat = 1 from rfl, Nat.reduceMul, Nat.reduceEqDiff, Go.Addr.add, ↓reduceIte] at hx118_0)
              have qi118 : (1 < l0.length) = True := eq_true (by omega)
              (try rw [show ((1 : Int)).toNat = 1 from rfl] at hx118_0)
              replace p118 := eq_true p118
              replace q118 := eq_true q118
              have p119 : 0 ≤ (0 : Int) := (by omega)
              have q119 : 0 < (l0.length : Int) := of_decide_eq_true (by first | (with_reducible assumption) | assumption)
              obtain ⟨ad119, e119, hx119_0⟩ := Kd.at_int HR0.out 0 p119 q119
              obtain rfl : ad117 = ad119 := (by injection e119)
              have qi119 : (0 < l0.length) = True := eq_true (by omega)
              (try rw [show ((0 : Int)).toNat = 0 from rfl] at hx119_0)
              (try rw [Addr.add_zero'] at hx119_0)
              replace p119 := eq_true p119
              replace q119 := eq_true q119
              go_enter Try.func15, Try.ntmps15
              go_wp2
              go_ret
              exact ⟨by first | rfl | (simp; done) | (simp [*]; done), by repeat (first | exact Drawn0.refl _ | apply Drawn0.step)⟩
        · rw [if_neg c5] at H
          exact absurd H (by simp)
      · rw [if_neg c4] at H
        have c4b0 : ((rd l0 0) == 0) = false := beq_eq_false_iff_ne.mpr c4
        have c4b1 : ((rd l0 0) != 0) = true := bne_iff_ne.mpr c4
        by_cases c8 : (rd l0 0) = 255
        · rw [if_pos c8] at H
          have c8b0 : ((rd l0 0) == 255) = true := beq_iff_eq.mpr c8
          have c8b1 : ((rd l0 0) != 255) = false := bne_eq_false_iff_eq.mpr c8
          clear c8
          by_cases c9 : 1 < (l0.length : Int)
          · rw [if_pos c9] at H
            have c9b0 : decide (1 < (l0.length : Int)) = true := decide_eq_true c9
            have c9b1 : decide (1 < l0.length) = true := decide_eq_true (by omega)
            clear c9
            obtain rfl := Option.some.inj H
            have p117 : 0 ≤ (0 : Int) := (by omega)
            have q117 : 0 < (l0.length : Int) := of_decide_eq_true (by first | (with_reducible assumption) | assumption)
            obtain ⟨ad117, e117, hx117_0⟩ := Kd.at_int HR0.out 0 p117 q117
            cases e117
            have qi117 : (0 < l0.length) = True := eq_true (by omega)
            (try rw [show ((0 : Int)).toNat = 0 from rfl] at hx117_0)
            (try rw [Addr.add_zero'] at hx117_0)
            replace p117 := eq_true p117
            replace q117 := eq_true q117
            have p121 : 0 ≤ (0 : Int) := (by omega)
            have q121 : 0 < (l0.length : Int) := of_decide_eq_true (by first | (with_reducible assumption) | assumption)
            obtain ⟨ad121, e121, hx121_0⟩ := Kd.at_int HR0.out 0 p121 q121
            obtain rfl : ad117 = ad121 := (by injection e121)
            have qi121 : (0 < l0.length) = True := eq_true (by omega)
            (try rw [show ((0 : Int)).toNat = 0 from rfl] at hx121_0)
            (try rw [Addr.add_zero'] at hx121_0)
            replace p121 := eq_true p121
            replace q121 := eq_true q121
            have p122 : 0 ≤ (1 : Int) := (by omega)
            have q122 : 1 < (l0.length : Int) := of_decide_eq_true (by first | (with_reducible assumption) | assumption)
            obtain ⟨ad122, e122, hx122_0⟩ := Kd.at_int HR0.out 1 p122 q122
            obtain rfl : ad117 = ad122 := (by injection e122)
            (try simp only [show (1 : Int).toNat = 1 from rfl, Nat.reduceMul, Nat.reduceEqDiff, Go.Addr.add, ↓reduceIte] at hx122_0)
            have qi122 : (1 < l0.length) = True := eq_true (by omega)
            (try rw [show ((1 : Int)).toNat = 1 from rfl] at hx122_0)
            replace p122 := eq_true p122
            replace q122 := eq_true q122
            go_enter Try.func15, Try.ntmps15
            go_wp2
            go_ret
            exact ⟨by first | rfl | (simp; done) | (simp [*]; done), by repeat (first | exact Drawn0.refl _ | apply Drawn0.step)⟩
          · rw [if_neg c9] at H
            exact absurd H (by simp)
        · rw [if_neg c8] at H
          have c8b0 : ((rd l0 0) == 255) = false := beq_eq_false_iff_ne.mpr c8
          have c8b1 : ((rd l0 0) != 255) = true := bne_iff_ne.mpr c8
          obtain rfl := Option.some.inj H
          have p117 : 0 ≤ (0 : Int) := (by omega)
          have q117 : 0 < (l0.length : Int) := of_decide_eq_true (by first | (with_reducible assumption) | assumption)
          obtain ⟨ad117, e117, hx117_0⟩ := Kd.at_int HR0.out 0 p117 q117
          cases e117
          have qi117 : (0 < l0.length) = True := eq_true (by omega)
          (try rw [show ((0 : Int)).toNat = 0 from rfl] at hx117_0)
          (try rw [Addr.add_zero'] at hx117_0)
          replace p117 := eq_true p117
          replace q117 := eq_true q117
          have p121 : 0 ≤ (0 : Int) := (by omega)
          have q121 : 0 < (l0.length : Int) := of_decide_eq_true (by first | (with_reducible assumption) | assumption)
          obtain ⟨ad121, e121, hx121_0⟩ := Kd.at_int HR0.out 0 p121 q121
          obtain rfl : ad117 = ad121 := (by injection e121)
          have qi121 : (0 < l0.length) = True := eq_true (by omega)
          (try rw [show ((0 : Int)).toNat = 0 from rfl] at hx121_0)
          (try rw [Addr.add_zero'] at hx121_0)
          replace p121 := eq_true p121
          replace q121 := eq_true q121
          go_enter Try.func15, Try.ntmps15
          go_wp2
          go_ret
          exact ⟨by first | rfl | (simp; done) | (simp [*]; done), by repeat (first | exact Drawn0.refl _ | apply Drawn0.step)⟩
    · rw [if_neg c3] at H
      exact absurd H (by simp)

/-! ### laws_FnCheck: function 3 -/
def laws_FnCheck.f (l0 : List Int) : Option (Bool) := if (l0.length : Int) > 2147483647 then (some true) else (if (l0.length : Int) > 100 then (some true) else ((impl_Check.f l0).bind fun t123 => ((spec_Shortest.f l0).bind fun t124 => (if (t123 == t124) = true then ((impl_Check.f (([7] : List Int))).bind fun t128 => (some t128)) else (some false)))))
set_option maxHeartbeats 8000000 in
set_option maxRecDepth 100000 in
theorem laws_FnCheck.calls (A0 : Option Addr) (c0 : Nat) (l0 : List Int) (r : Bool) (w : World) (hr0 : Kd.C (Kd.int .u8) w A0 l0.length l0) (hc0 : l0.length ≤ c0) (h : laws_FnCheck.f l0 = some r) :
    Calls Try.prog 3 #[.slice A0 l0.length c0] w fun e w' => e = .returned (.bool r) ∧ Below w.heap.size w w' := by
  have HR0 := Aside0.mk hr0
  have HC0 := Aside0.mk hc0
  clear hr0 hc0
  have HB := Aside0.mk (Below.refl w.heap.size w)
  have H : (if (l0.length : Int) > 2147483647 then (some true) else (if (l0.length : Int) > 100 then (some true) else ((impl_Check.f l0).bind fun t123 => ((spec_Shortest.f l0).bind fun t124 => (if (t123 == t124) = true then ((impl_Check.f (([7] : List Int))).bind fun t128 => (some t128)) else (some false)))))) = some r := h
  clear h
  by_cases c2 : (l0.length : Int) > 2147483647
  · rw [if_pos c2] at H
    have c2b0 : decide (2147483647 < (l0.length : Int)) = true := decide_eq_true c2
    have c2b1 : decide (2147483647 < l0.length) = true := decide_eq_true (by omega)
    clear c2
    obtain rfl := Option.some.inj H
    go_enter Try.func3, Try.ntmps3
    go_wp2
    go_ret
    exact ⟨by first | rfl | (simp [errW_none, errW_some] <;> rfl) | (simp [*, errW_none, errW_some] <;> rfl), by repeat (first | (with_reducible first | exact HB.out | apply below_alloc | apply pw_below_drewN | apply below_drew1) | exact HB.out)⟩
  · rw [if_neg c2] at H
    have c2b0 : decide (2147483647 < (l0.length : Int)) = false := decide_eq_false c2
    have c2b1 : decide (2147483647 < l0.length) = false := decide_eq_false (by omega)
    clear c2
    by_cases c3 : (l0.length : Int) > 100
    · rw [if_pos c3] at H
      have c3b0 : decide (100 < (l0.length : Int)) = true := decide_eq_true c3
      have c3b1 : decide (100 < l0.length) = true := decide_eq_true (by omega)
      clear c3
      obtain rfl := Option.some.inj H
      go_enter Try.func3, Try.ntmps3
      go_wp2
      go_ret
      exact ⟨by first | rfl | (simp [errW_none, errW_some] <;> rfl) | (simp [*, errW_none, errW_some] <;> rfl), by repeat (first | (with_reducible first | exact HB.out | apply below_alloc | apply pw_below_drewN | apply below_drew1) | exact HB.out)⟩
    · rw [if_neg c3] at H
      have c3b0 : decide (100 < (l0.length : Int)) = false := decide_eq_false c3
      have c3b1 : decide (100 < l0.length) = false := decide_eq_false (by omega)
      clear c3
      replace H := Option.bind_eq_some_iff.mp H
      obtain ⟨t123, A40, H⟩ := H
      replace H : ((spec_Shortest.f l0).bind fun t124 => (if (t123 == t124) = true then ((impl_Check.f (([7] : List Int))).bind fun t128 => (some t128)) else (some false))) = some r := H
      have A4 := Aside0.mk A40
      clear A40
      replace H := Option.bind_eq_some_iff.mp H
      obtain ⟨t124, A50, H⟩ := H
      replace H : (if (t123 == t124) = true then ((impl_Check.f (([7] : List Int))).bind fun t128 => (some t128)) else (some false)) = some r := H
      have A5 := Aside0.mk A50
      clear A50
      by_cases c6 : (t123 == t124) = true
      · rw [if_pos c6] at H
        have c6b0 : (t123 == t124) = true := c6
        (try (have c6b1 : t123 = t124 := bool_eq_of _ _ (by simpa using c6)))
        (try (have c6b2 : decide (t123 = t124) = true := by simpa using c6))
        (try (have c6b3 : (t123 == t124) = true := by simpa using c6))
        clear c6
        obtain ⟨y125, hy125⟩ : ∃ y_ : List Int, y_ = (([7] : List Int)) := ⟨_, rfl⟩
        replace H : ((impl_Check.f y125).bind fun t128 => (some t128)) = some r := by first | (rw [hy125]; with_reducible exact H) | (have H2_ := (Option.bind_some _ _).symm.trans H; rw [hy125]; with_reducible exact H2_) | (have H2_ := (Option.bind_some _ _).symm.trans H; with_reducible exact H2_) | with_reducible exact H | (rw [hy125]; exact H) | exact H
        have Ny125 := Aside0.mk hy125
        clear hy125
        replace H := Option.bind_eq_some_iff.mp H
        obtain ⟨t128, A70, H⟩ := H
        replace H : (some t128) = some r := H
        have A7 := Aside0.mk A70
        clear A70
        obtain rfl := Option.some.inj H
        go_enter Try.func3, Try.ntmps3
        go_wp2_with (first | (go_at_call 14; (with_reducible refine (impl_Check.calls _ _ l0 t123 _ ?side1 ?side2 A4.out).mono ?_); (case side1 => repeat (first | exact HR0.out | (with_reducible refine Kd.C_alloc ?_ _) | (with_reducible refine Kd.C_drewN ?_ _) | (with_reducible refine Kd.C_drew ?_))); (case side2 => exact HC0.out); rintro e w8 ⟨rfl, hb⟩; have n0_ := Aside0.mk (below_step (by repeat (first | (with_reducible first | exact HB.out | apply below_alloc | apply pw_below_drewN | apply below_drew1) | exact HB.out)) hb); clear HB; have HB := n0_; clear n0_; (try clear hb); (try clear hb2); (try clear hk); (try clear hi)) | (go_at_call 15; (with_reducible refine (spec_Shortest.calls _ _ l0 t124 _ ?side1 ?side2 A5.out).mono ?_); (case side1 => repeat (first | exact (Kd.C_below HR0.out HB.out) | (with_reducible refine Kd.C_alloc ?_ _) | (with_reducible refine Kd.C_drewN ?_ _) | (with_reducible refine Kd.C_drew ?_))); (case side2 => exact HC0.out); rintro e w' ⟨rfl, ⟨nd, rfl⟩⟩) | ((with_reducible refine gate_dst (N := 16) rfl ?_); (try (refine gate_guard (by rfl) ?_; dsimp only)); refine Kd.R_lit (Kd.int .u8) _ 5 ?hg (N := 16) ?hd (xs := ([7] : List Int)) (inner := [.int .u8 7]) (ok := fun _ => True) (okp := fun _ => True) ?hr ?hp (fun _ hk => hk) trivial (Below.refl _ _) (Nat.le_refl _) (by simp) ?_; (case hd => rfl); (case hg => rfl); (case hr => first | (go_simp; done) | (go_simp; rfl)); (case hp => exact (Reps.one (show Kd.M (Kd.int .u8) _ _ _ 7 [.int .u8 7] from rfl) (Reps.none _ _))); intro v126 w9 ho10 hb hg_ hnew_; clear hg_ hnew_; (first | rw [← Ny125.out] at ho10 | (simp only [Int.reduceToNat] at ho10; rw [← Ny125.out] at ho10)); have n0_ := Aside0.mk (Kd.R_lower ho10 (below_size (by repeat (first | (with_reducible first | exact HB.out | apply below_alloc | apply pw_below_drewN | apply below_drew1) | exact HB.out)))); have n1_ := Aside0.mk (below_step (by repeat (first | (with_reducible first | exact HB.out | apply below_alloc | apply pw_below_drewN | apply below_drew1) | exact HB.out)) hb); clear HB; have HO127 := n0_; have HB := n1_; clear n0_ n1_; clear hb ho10; obtain ⟨Ao11, co11, eo11⟩ := Kd.R_slice HO127.out; subst eo11) | (go_at_call 14; (with_reducible refine (impl_Check.calls _ _ y125 t128 _ ?side1 ?side2 A7.out).mono ?_); (case side1 => repeat (first | exact (Kd.R_reads' HO127.out).2.2 | (with_reducible refine Kd.C_alloc ?_ _) | (with_reducible refine Kd.C_drewN ?_ _) | (with_reducible refine Kd.C_drew ?_))); (case side2 => exact (Kd.R_reads' HO127.out).2.1); rintro e w12 ⟨rfl, hb⟩; have n0_ := Aside0.mk (Kd.R_below (by (with_reducible repeat (first | apply Kd.R_alloc | apply Kd.R_drewN | apply Kd.R_drew)); exact HO127.out) hb); have n1_ := Aside0.mk (below_step (by repeat (first | (with_reducible first | exact HB.out | apply below_alloc | apply pw_below_drewN | apply below_drew1) | exact HB.out)) hb); clear HO127; clear HB; have HO127 := n0_; have HB := n1_; clear n0_ n1_; (try clear hb); (try clear hb2); (try clear hk); (try clear hi)))
        go_ret
        exact ⟨by first | rfl | (simp [errW_none, errW_some] <;> rfl) | (simp [*, errW_none, errW_some] <;> rfl), by repeat (first | (with_reducible first | exact HB.out | apply below_alloc | apply pw_below_drewN | apply below_drew1) | exact HB.out)⟩
      · rw [if_neg c6] at H
        have c6b0 : (t123 == t124) = false := by simpa using c6
        (try (have c6b1 : t123 = !(t124) := bool_ne_of _ _ (by simpa using c6)))
        (try (have c6b2 : decide (t123 = t124) = false := by simpa using c6))
        (try (have c6b3 : (t123 == t124) = false := by simpa using c6))
        (try (have c6b4 : ¬ (t123 = t124) := by simpa using c6))
        clear c6
        obtain rfl := Option.some.inj H
        go_enter Try.func3, Try.ntmps3
        go_wp2_with (first | (go_at_call 14; (with_reducible refine (impl_Check.calls _ _ l0 t123 _ ?side1 ?side2 A4.out).mono ?_); (case side1 => repeat (first | exact HR0.out | (with_reducible refine Kd.C_alloc ?_ _) | (with_reducible refine Kd.C_drewN ?_ _) | (with_reducible refine Kd.C_drew ?_))); (case side2 => exact HC0.out); rintro e w13 ⟨rfl, hb⟩; have n0_ := Aside0.mk (below_step (by repeat (first | (with_reducible first | exact HB.out | apply below_alloc | apply pw_below_drewN | apply below_drew1) | exact HB.out)) hb); clear HB; have HB := n0_; clear n0_; (try clear hb); (try clear hb2); (try clear hk); (try clear hi)) | (go_at_call 15; (with_reducible refine (spec_Shortest.calls _ _ l0 t124 _ ?side1 ?side2 A5.out).mono ?_); (case side1 => repeat (first | exact (Kd.C_below HR0.out HB.out) | (with_reducible refine Kd.C_alloc ?_ _) | (with_reducible refine Kd.C_drewN ?_ _) | (with_reducible refine Kd.C_drew ?_))); (case side2 => exact HC0.out); rintro e w' ⟨rfl, ⟨nd, rfl⟩⟩))
        go_ret
        exact ⟨by first | rfl | (simp [errW_none, errW_some] <;> rfl) | (simp [*, errW_none, errW_some] <;> rfl), by repeat (first | (with_reducible first | exact HB.out | apply below_alloc | apply pw_below_drewN | apply below_drew1) | exact HB.out)⟩

/-- THE ONE PURE STATEMENT of laws_FnCheck: yours. -/
def laws_FnCheck.Pure : Prop := ∀ (l0 : List Int), l0.length ≤ maxLen → l0.length * 1 ≤ 140737488351232 → (∀ x ∈ l0, (Lit.int .u8 x).wf = true) → laws_FnCheck.f l0 = some true
theorem laws_FnCheck.walk (P : laws_FnCheck.Pure) (a0 : Option Addr) (len0 cap0 : Nat) (z0 : List Int) (w : World) (w0 : (a0 = none ∧ len0 = 0 ∧ cap0 = 0 ∧ z0 = []) ∨ ∃ x, a0 = some x ∧ len0 ≤ cap0 ∧ cap0 ≤ maxLen ∧ z0.length = cap0 ∧ (∀ i, i < z0.length → w.cell? (x.add i) = some (.int .u8 (z0.getD i 0))) ∧ ∀ n ∈ z0, (Lit.int .u8 n).wf = true) (y0 : len0 * 1 ≤ 140737488351232) :
    Calls Try.prog 3 #[.slice a0 len0 cap0] w fun e w' => e = .returned (.bool true) ∧ Below w.heap.size w w' := by
  obtain ⟨l0, rfl, hr0, hm0, hw0, hc0⟩ := ReadsInt.ofRowC w0
  have h := P l0 hm0 y0 hw0
  refine (laws_FnCheck.calls _ _ l0 true w (Kd.C_of_reads (d := (0 : Int)) (h1 := fun _ => rfl) hr0) hc0 h).mono ?_
  rintro e w' ⟨rfl, hd⟩
  exact ⟨rfl, hd⟩

/-! ### asn1_parseBool: function 48 -/
def asn1_parseBool.f (l0 : List Int) : Option (Bool × Option Int) := if (l0.length : Int) = 1 then (if 0 < (l0.length : Int) then (if (rd l0 0) = 0 then (some (false, none)) else (if (rd l0 0) = 255 then (some (true, none)) else (some (false, some 2)))) else (none)) else (some (false, some 2))
set_option maxHeartbeats 8000000 in
set_option maxRecDepth 100000 in
theorem asn1_parseBool.calls (A0 : Option Addr) (c0 : Nat) (l0 : List Int) (r1 : Bool) (r2 : Option Int) (w : World) (hr0 : Kd.C (Kd.int .u8) w A0 l0.length l0) (hc0 : l0.length ≤ c0) (h : asn1_parseBool.f l0 = some (r1, r2)) :
    Calls Try.prog 48 #[.slice A0 l0.length c0] w fun e w' => e = .returned (.tuple #[.bool r1, errW r2]) ∧ Drawn0 w w' := by
  have hu87 := Try.underlying87
  have hu58 := Try.underlying58
  have HR0 := Aside0.mk hr0
  have HC0 := Aside0.mk hc0
  clear hr0 hc0
  have H : (if (l0.length : Int) = 1 then (if 0 < (l0.length : Int) then (if (rd l0 0) = 0 then (some (false, none)) else (if (rd l0 0) = 255 then (some (true, none)) else (some (false, some 2)))) else (none)) else (some (false, some 2))) = some (r1, r2) := h
  clear h
  by_cases c2 : (l0.length : Int) = 1
  · rw [if_pos c2] at H
    have c2b0 : ((l0.length : Int) == 1) = true := beq_iff_eq.mpr c2
    have c2b1 : ((l0.length : Int) != 1) = false := bne_eq_false_iff_eq.mpr c2
    clear c2
    by_cases c3 : 0 < (l0.length : Int)
    · rw [if_pos c3] at H
      have c3b0 : decide (0 < (l0.length : Int)) = true := decide_eq_true c3
      have c3b1 : decide (0 < l0.length) = true := decide_eq_true (by omega)
      clear c3
      by_cases c4 : (rd l0 0) = 0
      · rw [if_pos c4] at H
        have c4b0 : ((rd l0 0) == 0) = true := beq_iff_eq.mpr c4
        have c4b1 : ((rd l0 0) != 0) = false := bne_eq_false_iff_eq.mpr c4
        clear c4
        simp only [Option.some.injEq, Prod.mk.injEq] at H
        obtain ⟨rfl, rfl⟩ := H
        have p129 : 0 ≤ (0 : Int) := (by omega)
        have q129 : 0 < (l0.length : Int) := of_decide_eq_true (by first | (with_reducible assumption) | assumption)
        obtain ⟨ad129, e129, hx129_0⟩ := Kd.at_int HR0.out 0 p129 q129
        cases e129
        have qi129 : (0 < l0.length) = True := eq_true (by omega)
        (try rw [show ((0 : Int)).toNat = 0 from rfl] at hx129_0)
        (try rw [Addr.add_zero'] at hx129_0)
        replace p129 := eq_true p129
        replace q129 := eq_true q129
        go_enter Try.func48, Try.ntmps48
        go_wp2
        go_ret2
        exact ⟨by first | rfl | (simp; done) | (simp [*]; done), by repeat (first | exact Drawn0.refl _ | apply Drawn0.step)⟩
      · rw [if_neg c4] at H
        have c4b0 : ((rd l0 0) == 0) = false := beq_eq_false_iff_ne.mpr c4
        have c4b1 : ((rd l0 0) != 0) = true := bne_iff_ne.mpr c4
        by_cases c5 : (rd l0 0) = 255
        · rw [if_pos c5] at H
          have c5b0 : ((rd l0 0) == 255) = true := beq_iff_eq.mpr c5
          have c5b1 : ((rd l0 0) != 255) = false := bne_eq_false_iff_eq.mpr c5
          clear c5
          simp only [Option.some.injEq, Prod.mk.injEq] at H
          obtain ⟨rfl, rfl⟩ := H
          have p129 : 0 ≤ (0 : Int) := (by omega)
          have q129 : 0 < (l0.length : Int) := of_decide_eq_true (by first | (with_reducible assumption) | assumption)
          obtain ⟨ad129, e129, hx129_0⟩ := Kd.at_int HR0.out 0 p129 q129
          cases e129
          have qi129 : (0 < l0.length) = True := eq_true (by omega)
          (try rw [show ((0 : Int)).toNat = 0 from rfl] at hx129_0)
          (try rw [Addr.add_zero'] at hx129_0)
          replace p129 := eq_true p129
          replace q129 := eq_true q129
          go_enter Try.func48, Try.ntmps48
          go_wp2
          go_ret2
          exact ⟨by first | rfl | (simp; done) | (simp [*]; done), by repeat (first | exact Drawn0.refl _ | apply Drawn0.step)⟩
        · rw [if_neg c5] at H
          have c5b0 : ((rd l0 0) == 255) = false := beq_eq_false_iff_ne.mpr c5
          have c5b1 : ((rd l0 0) != 255) = true := bne_iff_ne.mpr c5
          simp only [Option.some.injEq, Prod.mk.injEq] at H
          obtain ⟨rfl, rfl⟩ := H
          have p129 : 0 ≤ (0 : Int) := (by omega)
          have q129 : 0 < (l0.length : Int) := of_decide_eq_true (by first | (with_reducible assumption) | assumption)
          obtain ⟨ad129, e129, hx129_0⟩ := Kd.at_int HR0.out 0 p129 q129
          cases e129
          have qi129 : (0 < l0.length) = True := eq_true (by omega)
          (try rw [show ((0 : Int)).toNat = 0 from rfl] at hx129_0)
          (try rw [Addr.add_zero'] at hx129_0)
          replace p129 := eq_true p129
          replace q129 := eq_true q129
          go_enter Try.func48, Try.ntmps48
          go_wp2
          go_ret2
          exact ⟨by first | rfl | (simp; done) | (simp [*]; done), by repeat (first | exact Drawn0.refl _ | apply Drawn0.step)⟩
    · rw [if_neg c3] at H
      exact absurd H (by simp)
  · rw [if_neg c2] at H
    have c2b0 : ((l0.length : Int) == 1) = false := beq_eq_false_iff_ne.mpr c2
    have c2b1 : ((l0.length : Int) != 1) = true := bne_iff_ne.mpr c2
    simp only [Option.some.injEq, Prod.mk.injEq] at H
    obtain ⟨rfl, rfl⟩ := H
    go_enter Try.func48, Try.ntmps48
    go_wp2
    go_ret2
    exact ⟨by first | rfl | (simp; done) | (simp [*]; done), by repeat (first | exact Drawn0.refl _ | apply Drawn0.step)⟩

end Go.Proofs.Ytapnkngcnlomhaa.QA
