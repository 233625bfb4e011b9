-- Written by a program of this work (wip/patch_print.py) for this claim.
import Derived.Test.YtapnkngcnlomhaaQOx0
namespace Go.Proofs.Ytapnkngcnlomhaa.QO
open Go.RowKit Go.Proofs.YtapnkngcnlomhaaW.PrintWords Go.Proofs.YtapnkngcnlomhaaW.PrintLast Go.Proofs.YtapnkngcnlomhaaW.PrintMore
attribute [local go_sem] max2_int min2_int max_two min_two max_three min_three max_four min_four   -- for this text's walks alone
set_option linter.unusedVariables false
set_option linter.unusedSimpArgs false

/-! ### spec_Base128: function 21 -/
mutual
def spec_Base128.l0 : Nat → List Int → Int → Int → Int → Option (Int × Int × Bool)
  | 0, _, _, _, _ => none
  | k + 1, x0, x1, x7, x8 => if x8 < (x0.length : Int) then (spec_Base128.j1 k x0 x1 x7 x8 (decide (x8 < (wrap64 (x1 + 5))))) else (spec_Base128.j1 k x0 x1 x7 x8 false)
def spec_Base128.j1 : Nat → List Int → Int → Int → Int → Bool → Option (Int × Int × Bool)
  | 0, _, _, _, _, _ => none
  | k + 1, x0, x1, x7, x8, x19 => if x19 = true then (if x8 = x1 then (if 0 ≤ x8 then (if x8 < (x0.length : Int) then (spec_Base128.j2 k x0 x1 x7 x8 ((rd x0 x8) == 128)) else (none)) else (none)) else (spec_Base128.j2 k x0 x1 x7 x8 false)) else (some (0, 0, false))
def spec_Base128.j2 : Nat → List Int → Int → Int → Int → Bool → Option (Int × Int × Bool)
  | 0, _, _, _, _, _ => none
  | k + 1, x0, x1, x7, x8, x31 => if x31 = true then (some (0, 0, false)) else (if 0 ≤ x8 then (if x8 < (x0.length : Int) then (if (rd x0 x8) < 128 then (some (Go.bits .or .i64 (wrap64 (x7 * 128)) (wrap64 (Go.bits .and .u8 (rd x0 x8) 127)), wrap64 (x8 + 1), decide ((Go.bits .or .i64 (wrap64 (x7 * 128)) (wrap64 (Go.bits .and .u8 (rd x0 x8) 127))) ≤ 2147483647))) else (spec_Base128.l0 k x0 x1 (Go.bits .or .i64 (wrap64 (x7 * 128)) (wrap64 (Go.bits .and .u8 (rd x0 x8) 127))) (wrap64 (x8 + 1)))) else (none)) else (none))
end
def spec_Base128.f (k : Nat) (l0 : List Int) (a1 : Int) : Option (Int × Int × Bool) := spec_Base128.l0 k l0 a1 0 a1
theorem spec_Base128.mono_l : ∀ k, (∀ y0 y1 y2 y3, LeO (spec_Base128.l0 k y0 y1 y2 y3) (spec_Base128.l0 (k + 1) y0 y1 y2 y3)) ∧ (∀ y0 y1 y2 y3 y4, LeO (spec_Base128.j1 k y0 y1 y2 y3 y4) (spec_Base128.j1 (k + 1) y0 y1 y2 y3 y4)) ∧ (∀ y0 y1 y2 y3 y4, LeO (spec_Base128.j2 k y0 y1 y2 y3 y4) (spec_Base128.j2 (k + 1) y0 y1 y2 y3 y4))
  | 0 => ⟨fun _ _ _ _ r h => by simp [spec_Base128.l0] at h, fun _ _ _ _ _ r h => by simp [spec_Base128.j1] at h, fun _ _ _ _ _ r h => by simp [spec_Base128.j2] at h⟩
  | k + 1 => by
    obtain ⟨ih0, ih1, ih2⟩ := spec_Base128.mono_l k
    refine ⟨?_, ?_, ?_⟩
    · intro y0 y1 y2 y3
      unfold spec_Base128.l0
      repeat' first
      | (with_reducible exact ih0 _ _ _ _)
      | (with_reducible exact ih1 _ _ _ _ _)
      | (with_reducible exact ih2 _ _ _ _ _)
      | (with_reducible exact LeO.refl _)
      | (with_reducible exact LeO.none _)
      | (with_reducible refine LeO.ite ?_ ?_)
      | (with_reducible refine LeO.bind ?_ (fun _ => ?_))
      | exact ih0 _ _ _ _
      | exact ih1 _ _ _ _ _
      | exact ih2 _ _ _ _ _
      | exact LeO.none _
      | refine LeO.ite ?_ ?_
      | refine LeO.bind ?_ (fun _ => ?_)
    · intro y0 y1 y2 y3 y4
      unfold spec_Base128.j1
      repeat' first
      | (with_reducible exact ih0 _ _ _ _)
      | (with_reducible exact ih1 _ _ _ _ _)
      | (with_reducible exact ih2 _ _ _ _ _)
      | (with_reducible exact LeO.refl _)
      | (with_reducible exact LeO.none _)
      | (with_reducible refine LeO.ite ?_ ?_)
      | (with_reducible refine LeO.bind ?_ (fun _ => ?_))
      | exact ih0 _ _ _ _
      | exact ih1 _ _ _ _ _
      | exact ih2 _ _ _ _ _
      | exact LeO.none _
      | refine LeO.ite ?_ ?_
      | refine LeO.bind ?_ (fun _ => ?_)
    · intro y0 y1 y2 y3 y4
      unfold spec_Base128.j2
      repeat' first
      | (with_reducible exact ih0 _ _ _ _)
      | (with_reducible exact ih1 _ _ _ _ _)
      | (with_reducible exact ih2 _ _ _ _ _)
      | (with_reducible exact LeO.refl _)
      | (with_reducible exact LeO.none _)
      | (with_reducible refine LeO.ite ?_ ?_)
      | (with_reducible refine LeO.bind ?_ (fun _ => ?_))
      | exact ih0 _ _ _ _
      | exact ih1 _ _ _ _ _
      | exact ih2 _ _ _ _ _
      | exact LeO.none _
      | refine LeO.ite ?_ ?_
      | refine LeO.bind ?_ (fun _ => ?_)
theorem spec_Base128.mono : ∀ a0 a1 k, LeO (spec_Base128.f k a0 a1) (spec_Base128.f (k + 1) a0 a1) := by
  intro a0 a1 k
  obtain ⟨ih0, ih1, ih2⟩ := spec_Base128.mono_l k
  unfold spec_Base128.f
  repeat' first
      | (with_reducible exact ih0 _ _ _ _)
      | (with_reducible exact ih1 _ _ _ _ _)
      | (with_reducible exact ih2 _ _ _ _ _)
      | (with_reducible exact LeO.refl _)
      | (with_reducible exact LeO.none _)
      | (with_reducible refine LeO.ite ?_ ?_)
      | (with_reducible refine LeO.bind ?_ (fun _ => ?_))
      | exact ih0 _ _ _ _
      | exact ih1 _ _ _ _ _
      | exact ih2 _ _ _ _ _
      | exact LeO.none _
      | refine LeO.ite ?_ ?_
      | refine LeO.bind ?_ (fun _ => ?_)
set_option maxHeartbeats 8000000 in
set_option maxRecDepth 100000 in
theorem spec_Base128.calls (k : Nat) (A0 : Option Addr) (c0 : Nat) (l0 : List Int) (a1 : Int) (r1 : Int) (r2 : Int) (r3 : Bool) (w : World) (hr0 : Kd.C (Kd.int .u8) w A0 l0.length l0) (hc0 : l0.length ≤ c0) (h : spec_Base128.f k l0 a1 = some (r1, r2, r3)) :
    Calls Try.prog 21 #[.slice A0 l0.length c0, .int .i64 a1] w fun e w' => e = .returned (.tuple #[.int .i64 r1, .int .i64 r2, .bool r3]) ∧ Drawn0 w w' := by
  have HR0 := Aside0.mk hr0
  have HC0 := Aside0.mk hc0
  clear hr0 hc0
  have H : (spec_Base128.l0 k l0 a1 0 a1) = some (r1, r2, r3) := h
  clear h
  have H' := Aside0.mk H
  clear H
  go_enter Try.func21, Try.ntmps21
  go_wp2
  go_loopg [7, 8] k (fun kq v7 v8 w' => ∃ (x7_1 : Int) (x8_1 : Int), v7 = .int .i64 x7_1 ∧ v8 = .int .i64 x8_1 ∧ Aside0 (spec_Base128.l0 kq l0 a1 x7_1 x8_1 = some (r1, r2, r3)) ∧ Aside0 (kq ≤ k) ∧ Drawn0 w w')
  case atStart => exact ⟨(0), (a1), (by first | rfl | (simp; done) | (simp [*]; done)), (by first | rfl | (simp; done) | (simp [*]; done)), H', ⟨Nat.le_refl _⟩, by repeat (first | exact Drawn0.refl _ | apply Drawn0.step)⟩
  case round =>
    clear H'
    try clear c2
    try clear p2
    obtain ⟨x7_1, x8_1, rfl, rfl, HA, HK1, ⟨m1, rfl⟩⟩ := hrel
    cases gk with
    | zero => exact absurd HA.out (by simp [spec_Base128.l0])
    | succ k1 =>
      have H := HA.out
      clear HA
      simp only [spec_Base128.l0] at H
      have HC3 := Aside0.mk H
      clear H
      go_upto_region 3 with (fail)
      go_cut [19] (fun v19 wc => ∃ (kq : Nat) (x19_2 : Bool), v19 = .bool x19_2 ∧ Aside0 (spec_Base128.j1 kq l0 a1 x7_1 x8_1 x19_2 = some (r1, r2, r3)) ∧ Aside0 (kq ≤ k1) ∧ Drawn0 w wc)
      case first =>
        have H := HC3.out
        clear HC3
        by_cases c4 : x8_1 < (l0.length : Int)
        · rw [if_pos c4] at H
          have c4b0 : decide (x8_1 < (l0.length : Int)) = true := decide_eq_true c4
          clear c4
          (first | rw [c4b0] | (simp only [i64_w, i32_w]; rw [c4b0]) | skip)
          have H' := Aside0.mk H
          clear H
          go_wp2
          go_meet
          case rel => exact ⟨_, (decide (x8_1 < (wrap64 (a1 + 5)))), (by first | rfl | (simp; done) | (simp [*]; done)), H', ⟨by have := HK1.out; first | omega | exact Nat.le_refl _⟩, by repeat (first | exact Drawn0.refl _ | apply Drawn0.step)⟩
        · rw [if_neg c4] at H
          have c4b0 : decide (x8_1 < (l0.length : Int)) = false := decide_eq_false c4
          clear c4
          (first | rw [c4b0] | (simp only [i64_w, i32_w]; rw [c4b0]) | skip)
          have H' := Aside0.mk H
          clear H
          go_wp2
          go_meet
          case rel => exact ⟨_, (false), (by first | rfl | (simp; done) | (simp [*]; done)), H', ⟨by have := HK1.out; first | omega | exact Nat.le_refl _⟩, by repeat (first | exact Drawn0.refl _ | apply Drawn0.step)⟩
      case rest =>
        clear HC3
        try clear c2
        try clear p2
        try clear c4
        try clear c4b0
        try clear p2
        obtain ⟨kq, x19_2, rfl, HA, HJ2, ⟨mc2, rfl⟩⟩ := hcut
        cases kq with
        | zero => exact absurd HA.out (by simp [spec_Base128.j1])
        | succ kj2 =>
          have H := HA.out
          clear HA
          simp only [spec_Base128.j1] at H
          by_cases c5 : x19_2 = true
          · subst c5
            have H1 : (if x8_1 = a1 then (if 0 ≤ x8_1 then (if x8_1 < (l0.length : Int) then (spec_Base128.j2 kj2 l0 a1 x7_1 x8_1 ((rd l0 x8_1) == 128)) else (none)) else (none)) else (spec_Base128.j2 kj2 l0 a1 x7_1 x8_1 false)) = some (r1, r2, r3) := by rw [if_pos rfl] at H; exact H
            clear H
            have H := H1
            clear H1
            have HC6 := Aside0.mk H
            clear H
            go_upto_region 5 with (fail)
            go_cut [31] (fun v31 wc => ∃ (kq : Nat) (x31_5 : Bool), v31 = .bool x31_5 ∧ Aside0 (spec_Base128.j2 kq l0 a1 x7_1 x8_1 x31_5 = some (r1, r2, r3)) ∧ Aside0 (kq ≤ kj2) ∧ Drawn0 w wc)
            case first =>
              have H := HC6.out
              clear HC6
              by_cases c7 : x8_1 = a1
              · rw [if_pos c7] at H
                have c7b0 : (x8_1 == a1) = true := beq_iff_eq.mpr c7
                have c7b1 : (x8_1 != a1) = false := bne_eq_false_iff_eq.mpr c7
                clear c7
                (first | rw [c7b0] | (simp only [i64_w, i32_w]; rw [c7b0]) | skip)
                by_cases c8 : 0 ≤ x8_1
                · rw [if_pos c8] at H
                  have c8b0 : decide (0 ≤ x8_1) = true := decide_eq_true c8
                  clear c8
                  by_cases c9 : x8_1 < (l0.length : Int)
                  · rw [if_pos c9] at H
                    have c9b0 : decide (x8_1 < (l0.length : Int)) = true := decide_eq_true c9
                    clear c9
                    have H' := Aside0.mk H
                    clear H
                    have p101 : 0 ≤ (x8_1 : Int) := of_decide_eq_true (by first | (with_reducible assumption) | assumption)
                    have q101 : x8_1 < (l0.length : Int) := of_decide_eq_true (by first | (with_reducible assumption) | assumption)
                    obtain ⟨ad101, e101, hx101_0⟩ := Kd.at_int HR0.out x8_1 p101 q101
                    cases e101
                    replace p101 := eq_true p101
                    replace q101 := eq_true q101
                    go_wp2
                    go_meet
                    case rel => exact ⟨_, (((rd l0 x8_1) == 128)), (by first | rfl | (simp; done) | (simp [*]; done)), H', ⟨by have := HK1.out; have := HJ2.out; first | omega | exact Nat.le_refl _⟩, by repeat (first | exact Drawn0.refl _ | apply Drawn0.step)⟩
                  · rw [if_neg c9] at H
                    exact absurd H (by simp)
                · rw [if_neg c8] at H
                  exact absurd H (by simp)
              · rw [if_neg c7] at H
                have c7b0 : (x8_1 == a1) = false := beq_eq_false_iff_ne.mpr c7
                have c7b1 : (x8_1 != a1) = true := bne_iff_ne.mpr c7
                (first | rw [c7b0] | (simp only [i64_w, i32_w]; rw [c7b0]) | skip)
                have H' := Aside0.mk H
                clear H
                go_wp2
                go_meet
                case rel => exact ⟨_, (false), (by first | rfl | (simp; done) | (simp [*]; done)), H', ⟨by have := HK1.out; have := HJ2.out; first | omega | exact Nat.le_refl _⟩, by repeat (first | exact Drawn0.refl _ | apply Drawn0.step)⟩
            case rest =>
              clear HC6
              try clear p1
              try clear q1
              try clear hx1
              try clear c2
              try clear p2
              try clear c4
              try clear c4b0
              try clear c5
              try clear p6
              try clear c7
              try clear c7b0
              try clear c7b1
              try clear c8
              try clear c8b0
              try clear c9
              try clear c9b0
              try clear hx101_0
              try clear p101
              try clear p2
              try clear q101
              obtain ⟨kq, x31_5, rfl, HA, HJ5, ⟨mc5, rfl⟩⟩ := hcut
              cases kq with
              | zero => exact absurd HA.out (by simp [spec_Base128.j2])
              | succ kj5 =>
                have H := HA.out
                clear HA
                simp only [spec_Base128.j2] at H
                by_cases c10 : x31_5 = true
                · subst c10
                  have H1 : (some (0, 0, false)) = some (r1, r2, r3) := by rw [if_pos rfl] at H; exact H
                  clear H
                  have H := H1
                  clear H1
                  simp only [Option.some.injEq, Prod.mk.injEq] at H
                  obtain ⟨rfl, rfl, rfl⟩ := H
                  go_wp2
                  go_ret3
                  exact ⟨by first | rfl | (simp; done) | (simp [*]; done), by repeat (first | exact Drawn0.refl _ | apply Drawn0.step)⟩
                · replace c10 := Bool.eq_false_iff.mpr c10
                  subst c10
                  have H1 : (if 0 ≤ x8_1 then (if x8_1 < (l0.length : Int) then (if (rd l0 x8_1) < 128 then (some (Go.bits .or .i64 (wrap64 (x7_1 * 128)) (wrap64 (Go.bits .and .u8 (rd l0 x8_1) 127)), wrap64 (x8_1 + 1), decide ((Go.bits .or .i64 (wrap64 (x7_1 * 128)) (wrap64 (Go.bits .and .u8 (rd l0 x8_1) 127))) ≤ 2147483647))) else (spec_Base128.l0 kj5 l0 a1 (Go.bits .or .i64 (wrap64 (x7_1 * 128)) (wrap64 (Go.bits .and .u8 (rd l0 x8_1) 127))) (wrap64 (x8_1 + 1)))) else (none)) else (none)) = some (r1, r2, r3) := by rw [if_neg (show ¬ (false = true) by decide)] at H; exact H
                  clear H
                  have H := H1
                  clear H1
                  by_cases c11 : 0 ≤ x8_1
                  · rw [if_pos c11] at H
                    have c11b0 : decide (0 ≤ x8_1) = true := decide_eq_true c11
                    clear c11
                    by_cases c12 : x8_1 < (l0.length : Int)
                    · rw [if_pos c12] at H
                      have c12b0 : decide (x8_1 < (l0.length : Int)) = true := decide_eq_true c12
                      clear c12
                      by_cases c13 : (rd l0 x8_1) < 128
                      · rw [if_pos c13] at H
                        have c13b0 : decide ((rd l0 x8_1) < 128) = true := decide_eq_true c13
                        clear c13
                        simp only [Option.some.injEq, Prod.mk.injEq] at H
                        obtain ⟨rfl, rfl, rfl⟩ := H
                        have p102 : 0 ≤ (x8_1 : Int) := of_decide_eq_true (by first | (with_reducible assumption) | assumption)
                        have q102 : x8_1 < (l0.length : Int) := of_decide_eq_true (by first | (with_reducible assumption) | assumption)
                        obtain ⟨ad102, e102, hx102_0⟩ := Kd.at_int HR0.out x8_1 p102 q102
                        cases e102
                        replace p102 := eq_true p102
                        replace q102 := eq_true q102
                        have p103 : 0 ≤ (x8_1 : Int) := of_decide_eq_true (by first | (with_reducible assumption) | assumption)
                        have q103 : x8_1 < (l0.length : Int) := of_decide_eq_true (by first | (with_reducible assumption) | assumption)
                        obtain ⟨ad103, e103, hx103_0⟩ := Kd.at_int HR0.out x8_1 p103 q103
                        obtain rfl : ad102 = ad103 := (by injection e103)
                        replace p103 := eq_true p103
                        replace q103 := eq_true q103
                        go_wp2
                        go_ret3
                        exact ⟨by first | rfl | (simp; done) | (simp [*]; done), by repeat (first | exact Drawn0.refl _ | apply Drawn0.step)⟩
                      · rw [if_neg c13] at H
                        have c13b0 : decide ((rd l0 x8_1) < 128) = false := decide_eq_false c13
                        clear c13
                        have H' := Aside0.mk H
                        clear H
                        have p102 : 0 ≤ (x8_1 : Int) := of_decide_eq_true (by first | (with_reducible assumption) | assumption)
                        have q102 : x8_1 < (l0.length : Int) := of_decide_eq_true (by first | (with_reducible assumption) | assumption)
                        obtain ⟨ad102, e102, hx102_0⟩ := Kd.at_int HR0.out x8_1 p102 q102
                        cases e102
                        replace p102 := eq_true p102
                        replace q102 := eq_true q102
                        have p103 : 0 ≤ (x8_1 : Int) := of_decide_eq_true (by first | (with_reducible assumption) | assumption)
                        have q103 : x8_1 < (l0.length : Int) := of_decide_eq_true (by first | (with_reducible assumption) | assumption)
                        obtain ⟨ad103, e103, hx103_0⟩ := Kd.at_int HR0.out x8_1 p103 q103
                        obtain rfl : ad102 = ad103 := (by injection e103)
                        replace p103 := eq_true p103
                        replace q103 := eq_true q103
                        go_wp2
                        go_roundg kj5
                        case measure => have := HK1.out; have := HJ2.out; have := HJ5.out; omega
                        case rel => exact ⟨(Go.bits .or .i64 (wrap64 (x7_1 * 128)) (wrap64 (Go.bits .and .u8 (rd l0 x8_1) 127))), (wrap64 (x8_1 + 1)), (by first | rfl | (simp; done) | (simp [*]; done)), (by first | rfl | (simp; done) | (simp [*]; done)), H', ⟨by have := HK1.out; have := HJ2.out; have := HJ5.out; omega⟩, by repeat (first | exact Drawn0.refl _ | apply Drawn0.step)⟩
                    · rw [if_neg c12] at H
                      exact absurd H (by simp)
                  · rw [if_neg c11] at H
                    exact absurd H (by simp)
          · replace c5 := Bool.eq_false_iff.mpr c5
            subst c5
            have H1 : (some (0, 0, false)) = some (r1, r2, r3) := by rw [if_neg (show ¬ (false = true) by decide)] at H; exact H
            clear H
            have H := H1
            clear H1
            simp only [Option.some.injEq, Prod.mk.injEq] at H
            obtain ⟨rfl, rfl, rfl⟩ := H
            go_wp2
            go_ret3
            exact ⟨by first | rfl | (simp; done) | (simp [*]; done), by repeat (first | exact Drawn0.refl _ | apply Drawn0.step)⟩

/-! ### spec_Identifier: function 28 -/
def spec_Identifier.l0 : Nat → List Int → List Int → Int → Option (List Int × Bool)
  | 0, _, _, _ => none
  | k + 1, x0, x4, x5 => if x5 < (x0.length : Int) then ((spec_Base128.f k x0 x5).bind fun bt107 => (if bt107.2.2 = true then (if (x4.length : Int) > 0 then (if x4.length < 17592186044416 then (spec_Identifier.l0 k x0 (x4 ++ [bt107.1]) bt107.2.1) else (none)) else (if bt107.1 < 80 then ((some (([wrap64 (Int.tdiv bt107.1 40), Int.tmod bt107.1 40] : List Int) : List Int)).bind fun y113 => (if x4.length + y113.length < 17592186044416 then (spec_Identifier.l0 k x0 (x4 ++ y113) bt107.2.1) else (none))) else ((some (([2, wrap64 (bt107.1 - 80)] : List Int) : List Int)).bind fun y119 => (if x4.length + y119.length < 17592186044416 then (spec_Identifier.l0 k x0 (x4 ++ y119) bt107.2.1) else (none))))) else (some (([] : List Int), false)))) else (some (x4, decide ((x4.length : Int) > 0)))
def spec_Identifier.f (k : Nat) (l0 : List Int) : Option (List Int × Bool) := spec_Identifier.l0 k l0 (([] : List Int)) 0
theorem spec_Identifier.mono_l : ∀ k, (∀ y0 y1 y2, LeO (spec_Identifier.l0 k y0 y1 y2) (spec_Identifier.l0 (k + 1) y0 y1 y2))
  | 0 => fun _ _ _ r h => by simp [spec_Identifier.l0] at h
  | k + 1 => by
    have ih0 := spec_Identifier.mono_l k
    · intro y0 y1 y2
      unfold spec_Identifier.l0
      repeat' first
      | (with_reducible exact ih0 _ _ _)
      | (with_reducible exact spec_Base128.mono _ _ _)
      | (with_reducible exact LeO.refl _)
      | (with_reducible exact LeO.none _)
      | (with_reducible refine LeO.ite ?_ ?_)
      | (with_reducible refine LeO.bind ?_ (fun _ => ?_))
      | exact ih0 _ _ _
      | exact spec_Base128.mono _ _ _
      | exact LeO.none _
      | refine LeO.ite ?_ ?_
      | refine LeO.bind ?_ (fun _ => ?_)
theorem spec_Identifier.mono : ∀ a0 k, LeO (spec_Identifier.f k a0) (spec_Identifier.f (k + 1) a0) := by
  intro a0 k
  have ih0 := spec_Identifier.mono_l k
  unfold spec_Identifier.f
  repeat' first
      | (with_reducible exact ih0 _ _ _)
      | (with_reducible exact spec_Base128.mono _ _ _)
      | (with_reducible exact LeO.refl _)
      | (with_reducible exact LeO.none _)
      | (with_reducible refine LeO.ite ?_ ?_)
      | (with_reducible refine LeO.bind ?_ (fun _ => ?_))
      | exact ih0 _ _ _
      | exact spec_Base128.mono _ _ _
      | exact LeO.none _
      | refine LeO.ite ?_ ?_
      | refine LeO.bind ?_ (fun _ => ?_)
set_option maxHeartbeats 8000000 in
set_option maxRecDepth 100000 in
theorem spec_Identifier.calls (k : Nat) (A0 : Option Addr) (c0 : Nat) (l0 : List Int) (r1 : List Int) (r2 : Bool) (w : World) (hr0 : Kd.C (Kd.int .u8) w A0 l0.length l0) (hc0 : l0.length ≤ c0) (h : spec_Identifier.f k l0 = some (r1, r2)) :
    Calls Try.prog 28 #[.slice A0 l0.length c0] w fun e w' => ∃ v0_ : Value, e = .returned (.tuple #[v0_, .bool r2]) ∧ Kd.R (Kd.int .i64) 3 w' w.heap.size (fun _ => True) v0_ r1 ∧ Below w.heap.size w w' := by
  have HR0 := Aside0.mk hr0
  have HC0 := Aside0.mk hc0
  clear hr0 hc0
  have HB := Aside0.mk (Below.refl w.heap.size w)
  have H : (spec_Identifier.l0 k l0 (([] : List Int)) 0) = some (r1, r2) := h
  clear h
  obtain ⟨y104, hy104⟩ : ∃ y_ : List Int, y_ = (([] : List Int)) := ⟨_, rfl⟩
  replace H : (spec_Identifier.l0 k l0 y104 0) = some (r1, r2) := by first | (rw [hy104]; with_reducible exact H) | (have H2_ := (Option.bind_some _ _).symm.trans H; rw [hy104]; with_reducible exact H2_) | (have H2_ := (Option.bind_some _ _).symm.trans H; with_reducible exact H2_) | with_reducible exact H | (rw [hy104]; exact H) | exact H
  have Ny104 := Aside0.mk hy104
  clear hy104
  have H' := Aside0.mk H
  clear H
  go_enter Try.func28, Try.ntmps28
  go_wp2_with (first | ((with_reducible refine gate_dst (N := 9) rfl ?_); refine Kd.R_lit (Kd.int .i64) _ 3 ?hg (N := 9) ?hd (xs := ([] : List Int)) (inner := []) (ok := fun _ => True) (okp := fun _ => True) ?hr ?hp (fun _ hk => hk) trivial (Below.refl _ _) (Nat.le_refl _) (by simp) ?_; (case hd => rfl); (case hg => rfl); (case hr => first | (go_simp; done) | (go_simp; rfl)); (case hp => exact (Reps.none _ _)); intro v105 w2 ho3 hb hg_ hnew_; clear hg_ hnew_; (first | rw [← Ny104.out] at ho3 | (simp only [Int.reduceToNat] at ho3; rw [← Ny104.out] at ho3)); have n0_ := Aside0.mk (Kd.R_lower ho3 (below_size (by repeat (first | (with_reducible first | exact HB.out | apply below_alloc | apply pw_below_drewN | apply below_drew1) | exact HB.out)))); have n1_ := Aside0.mk (below_step (by repeat (first | (with_reducible first | exact HB.out | apply below_alloc | apply pw_below_drewN | apply below_drew1) | exact HB.out)) hb); clear HB; have HO106 := n0_; have HB := n1_; clear n0_ n1_; clear hb ho3))
  go_loopg [4, 5] k (fun kq v4 v5 w' => ∃ (x4_1 : List Int) (x5_1 : Int), v5 = .int .i64 x5_1 ∧ Aside0 (spec_Identifier.l0 kq l0 x4_1 x5_1 = some (r1, r2)) ∧ Aside0 (kq ≤ k) ∧ Aside0 (Kd.R (Kd.int .i64) 3 w' w.heap.size (fun _ => True) v4 x4_1) ∧ Aside0 (Below w.heap.size w w'))
  case atStart => exact ⟨(y104), (0), (by first | rfl | (simp; done) | (simp [*]; done)), H', ⟨Nat.le_refl _⟩, ⟨by (with_reducible repeat (first | apply Kd.R_alloc | apply Kd.R_drewN | apply Kd.R_drew)); exact HO106.out⟩, ⟨by repeat (first | (with_reducible first | exact HB.out | apply below_alloc | apply pw_below_drewN | apply below_drew1) | exact HB.out)⟩⟩
  case round =>
    clear H'
    try clear c2
    try clear p2
    obtain ⟨x4_1, x5_1, rfl, HA, HK1, HO_4, HB⟩ := hrel
    cases gk with
    | zero => exact absurd HA.out (by simp [spec_Identifier.l0])
    | succ k1 =>
      have H := HA.out
      clear HA
      simp only [spec_Identifier.l0] at H
      by_cases c4 : x5_1 < (l0.length : Int)
      · rw [if_pos c4] at H
        have c4b0 : decide (x5_1 < (l0.length : Int)) = true := decide_eq_true c4
        clear c4
        replace H := Option.bind_eq_some_iff.mp H
        obtain ⟨⟨t107, t108, t109⟩, A50, H⟩ := H
        replace H : (if t109 = true then (if (x4_1.length : Int) > 0 then (if x4_1.length < 17592186044416 then (spec_Identifier.l0 k1 l0 (x4_1 ++ [t107]) t108) else (none)) else (if t107 < 80 then ((some (([wrap64 (Int.tdiv t107 40), Int.tmod t107 40] : List Int) : List Int)).bind fun y113 => (if x4_1.length + y113.length < 17592186044416 then (spec_Identifier.l0 k1 l0 (x4_1 ++ y113) t108) else (none))) else ((some (([2, wrap64 (t107 - 80)] : List Int) : List Int)).bind fun y119 => (if x4_1.length + y119.length < 17592186044416 then (spec_Identifier.l0 k1 l0 (x4_1 ++ y119) t108) else (none))))) else (some (([] : List Int), false))) = some (r1, r2) := H
        have A5 := Aside0.mk A50
        clear A50
        by_cases c6 : t109 = true
        · subst c6
          have H1 : (if (x4_1.length : Int) > 0 then (if x4_1.length < 17592186044416 then (spec_Identifier.l0 k1 l0 (x4_1 ++ [t107]) t108) else (none)) else (if t107 < 80 then ((some (([wrap64 (Int.tdiv t107 40), Int.tmod t107 40] : List Int) : List Int)).bind fun y113 => (if x4_1.length + y113.length < 17592186044416 then (spec_Identifier.l0 k1 l0 (x4_1 ++ y113) t108) else (none))) else ((some (([2, wrap64 (t107 - 80)] : List Int) : List Int)).bind fun y119 => (if x4_1.length + y119.length < 17592186044416 then (spec_Identifier.l0 k1 l0 (x4_1 ++ y119) t108) else (none))))) = some (r1, r2) := by rw [if_pos rfl] at H; exact H
          clear H
          have H := H1
          clear H1
          by_cases c7 : (x4_1.length : Int) > 0
          · rw [if_pos c7] at H
            have c7b0 : decide (0 < (x4_1.length : Int)) = true := decide_eq_true c7
            have c7b1 : decide (0 < x4_1.length) = true := decide_eq_true (by omega)
            clear c7
            by_cases c8 : x4_1.length < 17592186044416
            · rw [if_pos c8] at H
              have LMc8 := Aside0.mk c8
              clear c8
              obtain ⟨y110, hy110⟩ : ∃ y_ : List Int, y_ = (x4_1 ++ [t107]) := ⟨_, rfl⟩
              replace H : (spec_Identifier.l0 k1 l0 y110 t108) = some (r1, r2) := by first | (rw [hy110]; with_reducible exact H) | (have H2_ := (Option.bind_some _ _).symm.trans H; rw [hy110]; with_reducible exact H2_) | (have H2_ := (Option.bind_some _ _).symm.trans H; with_reducible exact H2_) | with_reducible exact H | (rw [hy110]; exact H) | exact H
              have Ny110 := Aside0.mk hy110
              clear hy110
              have H' := Aside0.mk H
              clear H
              go_wp2_with (first | ((with_reducible refine gate_callee (f := 21) rfl ?_); refine goesL_ (some 17) rfl rfl Try.func21 (by kernel_rfl) rfl #[.slice A0 l0.length c0, .int .i64 x5_1] rfl (by (try simp only [List.map_toArray, List.map_cons, List.map_nil]); first | done | rfl | (simp only [List.length_drop, List.length_take]; rfl)) ?_; (with_reducible refine (spec_Base128.calls k1 _ _ l0 x5_1 t107 t108 true _ ?side1 ?side2 A5.out).mono ?_); (case side1 => repeat (first | exact (Kd.C_below HR0.out HB.out) | (with_reducible refine Kd.C_alloc ?_ _) | (with_reducible refine Kd.C_drewN ?_ _) | (with_reducible refine Kd.C_drew ?_))); (case side2 => exact HC0.out); rintro e w' ⟨rfl, ⟨nd, rfl⟩⟩; refine ⟨_, rfl, ?_⟩; obtain ⟨Ao9, co9, eo9⟩ := Kd.R_slice HO_4.out; subst eo9) | ((with_reducible refine gate_builtin (b := .append) (xs := #[.tmp 33, .tmp 35]) rfl ?_); at_builtin; refine Kd.R_append (Kd.int .i64) (w0 := w) w.heap.size rfl (.tmp 33) (.tmp 35) 46 3 (.int .i64 0) 8 rfl Try.underlying46 info3 rfl (by decide) (by omega) (.slice Ao9 x4_1.length co9) x4_1 t107 [.int .i64 t107] (fun _ => True) (fun _ => False) rfl rfl ?aP (fun _ hk => hk.elim) ?aF ?aO ?aB ?aS ?aL ?_; (case aP => exact rfl); (case aB => exact (by repeat (first | (with_reducible first | exact HB.out | apply below_alloc | apply pw_below_drewN | apply below_drew1) | exact HB.out))); (case aF => exact (fun _ _ => trivial)); (case aO => exact (by (with_reducible repeat (first | apply Kd.R_alloc | apply Kd.R_drewN | apply Kd.R_drew)); exact HO_4.out)); (case aS => exact (below_size (by repeat (first | (with_reducible first | exact HB.out | apply below_alloc | apply pw_below_drewN | apply below_drew1) | exact HB.out)))); (case aL => have := LMc8.out; omega); intro v111 w10 ho hb hg hat; rw [← Ny110.out] at ho; have n0_ := Aside0.mk (hb); have n1_ := Aside0.mk (ho); clear HB; clear HO_4; have HB := n0_; have HO112 := n1_; clear n0_ n1_; clear ho hb hg hat))
              go_roundg k1
              case measure => have := HK1.out; omega
              case rel => exact ⟨(y110), (t108), (by first | rfl | (simp; done) | (simp [*]; done)), H', ⟨by have := HK1.out; omega⟩, ⟨by (with_reducible repeat (first | apply Kd.R_alloc | apply Kd.R_drewN | apply Kd.R_drew)); exact HO112.out⟩, ⟨by repeat (first | (with_reducible first | exact HB.out | apply below_alloc | apply pw_below_drewN | apply below_drew1) | exact HB.out)⟩⟩
            · rw [if_neg c8] at H
              exact absurd H (by simp)
          · rw [if_neg c7] at H
            have c7b0 : decide (0 < (x4_1.length : Int)) = false := decide_eq_false c7
            have c7b1 : decide (0 < x4_1.length) = false := decide_eq_false (by omega)
            clear c7
            by_cases c11 : t107 < 80
            · rw [if_pos c11] at H
              have c11b0 : decide (t107 < 80) = true := decide_eq_true c11
              clear c11
              obtain ⟨y113, hy113⟩ : ∃ y_ : List Int, y_ = (([wrap64 (Int.tdiv t107 40), Int.tmod t107 40] : List Int)) := ⟨_, rfl⟩
              replace H : (if x4_1.length + y113.length < 17592186044416 then (spec_Identifier.l0 k1 l0 (x4_1 ++ y113) t108) else (none)) = some (r1, r2) := by first | (rw [hy113]; with_reducible exact H) | (have H2_ := (Option.bind_some _ _).symm.trans H; rw [hy113]; with_reducible exact H2_) | (have H2_ := (Option.bind_some _ _).symm.trans H; with_reducible exact H2_) | with_reducible exact H | (rw [hy113]; exact H) | exact H
              have Ny113 := Aside0.mk hy113
              clear hy113
              by_cases c12 : x4_1.length + y113.length < 17592186044416
              · rw [if_pos c12] at H
                have LMc12 := Aside0.mk c12
                clear c12
                obtain ⟨y116, hy116⟩ : ∃ y_ : List Int, y_ = (x4_1 ++ y113) := ⟨_, rfl⟩
                replace H : (spec_Identifier.l0 k1 l0 y116 t108) = some (r1, r2) := by first | (rw [hy116]; with_reducible exact H) | (have H2_ := (Option.bind_some _ _).symm.trans H; rw [hy116]; with_reducible exact H2_) | (have H2_ := (Option.bind_some _ _).symm.trans H; with_reducible exact H2_) | with_reducible exact H | (rw [hy116]; exact H) | exact H
                have Ny116 := Aside0.mk hy116
                clear hy116
                have H' := Aside0.mk H
                clear H
                go_wp2_with (first | ((with_reducible refine gate_callee (f := 21) rfl ?_); refine goesL_ (some 17) rfl rfl Try.func21 (by kernel_rfl) rfl #[.slice A0 l0.length c0, .int .i64 x5_1] rfl (by (try simp only [List.map_toArray, List.map_cons, List.map_nil]); first | done | rfl | (simp only [List.length_drop, List.length_take]; rfl)) ?_; (with_reducible refine (spec_Base128.calls k1 _ _ l0 x5_1 t107 t108 true _ ?side1 ?side2 A5.out).mono ?_); (case side1 => repeat (first | exact (Kd.C_below HR0.out HB.out) | (with_reducible refine Kd.C_alloc ?_ _) | (with_reducible refine Kd.C_drewN ?_ _) | (with_reducible refine Kd.C_drew ?_))); (case side2 => exact HC0.out); rintro e w' ⟨rfl, ⟨nd, rfl⟩⟩; refine ⟨_, rfl, ?_⟩; obtain ⟨Ao13, co13, eo13⟩ := Kd.R_slice HO_4.out; subst eo13) | ((with_reducible refine gate_dst (N := 45) rfl ?_); refine Kd.R_lit (Kd.int .i64) _ 3 ?hg (N := 45) ?hd (xs := ([wrap64 (Int.tdiv t107 40), Int.tmod t107 40] : List Int)) (inner := [.int .i64 (wrap64 (Int.tdiv t107 40)), .int .i64 (Int.tmod t107 40)]) (ok := fun _ => True) (okp := fun _ => True) ?hr ?hp (fun _ hk => hk) trivial (Below.refl _ _) (Nat.le_refl _) (by simp) ?_; (case hd => rfl); (case hg => rfl); (case hr => first | (go_simp; done) | (go_simp; rfl)); (case hp => exact (Reps.one (show Kd.M (Kd.int .i64) _ _ _ (wrap64 (Int.tdiv t107 40)) [.int .i64 (wrap64 (Int.tdiv t107 40))] from rfl) (Reps.one (show Kd.M (Kd.int .i64) _ _ _ (Int.tmod t107 40) [.int .i64 (Int.tmod t107 40)] from rfl) (Reps.none _ _)))); intro v114 w14 ho15 hb hg_ hnew_; clear hg_ hnew_; (first | rw [← Ny113.out] at ho15 | (simp only [Int.reduceToNat] at ho15; rw [← Ny113.out] at ho15)); have n0_ := Aside0.mk (Kd.R_elder' (by (with_reducible repeat (first | apply Kd.R_alloc | apply Kd.R_drewN | apply Kd.R_drew)); exact HO_4.out) (Kd.R_base ho15) hb); have n1_ := Aside0.mk (Kd.R_lower (Kd.R_new' ho15 (Kd.R_lt (by (with_reducible repeat (first | apply Kd.R_alloc | apply Kd.R_drewN | apply Kd.R_drew)); exact HO_4.out))) (below_size (by repeat (first | (with_reducible first | exact HB.out | apply below_alloc | apply pw_below_drewN | apply below_drew1) | exact HB.out)))); have n2_ := Aside0.mk (below_step (by repeat (first | (with_reducible first | exact HB.out | apply below_alloc | apply pw_below_drewN | apply below_drew1) | exact HB.out)) hb); clear HO_4; clear HB; have HO_4 := n0_; have HO115 := n1_; have HB := n2_; clear n0_ n1_ n2_; clear hb ho15; obtain ⟨Ao17, co17, eo17⟩ := Kd.R_slice HO115.out; subst eo17) | ((with_reducible refine gate_builtin (b := .append) (xs := #[.tmp 40, .tmp 45]) rfl ?_); at_builtin; refine Kd.R_append_rows (Kd.int .i64) (w0 := w) w.heap.size rfl (.tmp 40) (.tmp 45) 46 3 (.int .i64 0) 8 rfl Try.underlying46 info3 rfl (by decide) (by omega) (.slice Ao13 x4_1.length co13) x4_1 y113 _ _ _ (fun k_ => some k_ ≠ (.slice Ao17 y113.length co17 : Value).ownBlock) (fun _ => False) rfl rfl ?aO ?aR (fun _ _ h => h) (fun _ h => h.elim) ?aF ?aB ?aS ?aL ?_; (case aR => repeat (first | exact (Kd.R_reads' HO115.out).2.2 | (with_reducible refine Kd.C_alloc ?_ _) | (with_reducible refine Kd.C_drewN ?_ _) | (with_reducible refine Kd.C_drew ?_))); (case aB => exact (by repeat (first | (with_reducible first | exact HB.out | apply below_alloc | apply pw_below_drewN | apply below_drew1) | exact HB.out))); (case aF => exact (fun k_ hk => Kd.fresh' (Kd.R_lt (by (with_reducible repeat (first | apply Kd.R_alloc | apply Kd.R_drewN | apply Kd.R_drew)); exact HO115.out)) k_ hk)); (case aO => exact (by (with_reducible repeat (first | apply Kd.R_alloc | apply Kd.R_drewN | apply Kd.R_drew)); exact Kd.R_mono HO_4.out (fun _ hk => hk.2))); (case aS => exact (below_size (by repeat (first | (with_reducible first | exact HB.out | apply below_alloc | apply pw_below_drewN | apply below_drew1) | exact HB.out)))); (case aL => have := LMc12.out; omega); intro v117 w16 ho hb hg hat; rw [← Ny116.out] at ho; have n0_ := Aside0.mk (Kd.R_after (ok := (fun _ => True)) (by (with_reducible repeat (first | apply Kd.R_alloc | apply Kd.R_drewN | apply Kd.R_drew)); exact HO115.out) hg hat); have n1_ := Aside0.mk (hb); have n2_ := Aside0.mk (ho); clear HO115; clear HB; clear HO_4; have HO115 := n0_; have HB := n1_; have HO118 := n2_; clear n0_ n1_ n2_; clear ho hb hg hat))
                go_roundg k1
                case measure => have := HK1.out; omega
                case rel => exact ⟨(y116), (t108), (by first | rfl | (simp; done) | (simp [*]; done)), H', ⟨by have := HK1.out; omega⟩, ⟨by (with_reducible repeat (first | apply Kd.R_alloc | apply Kd.R_drewN | apply Kd.R_drew)); exact Kd.R_mono HO118.out (fun _ hk => trivial)⟩, ⟨by repeat (first | (with_reducible first | exact HB.out | apply below_alloc | apply pw_below_drewN | apply below_drew1) | exact HB.out)⟩⟩
              · rw [if_neg c12] at H
                exact absurd H (by simp)
            · rw [if_neg c11] at H
              have c11b0 : decide (t107 < 80) = false := decide_eq_false c11
              clear c11
              obtain ⟨y119, hy119⟩ : ∃ y_ : List Int, y_ = (([2, wrap64 (t107 - 80)] : List Int)) := ⟨_, rfl⟩
              replace H : (if x4_1.length + y119.length < 17592186044416 then (spec_Identifier.l0 k1 l0 (x4_1 ++ y119) t108) else (none)) = some (r1, r2) := by first | (rw [hy119]; with_reducible exact H) | (have H2_ := (Option.bind_some _ _).symm.trans H; rw [hy119]; with_reducible exact H2_) | (have H2_ := (Option.bind_some _ _).symm.trans H; with_reducible exact H2_) | with_reducible exact H | (rw [hy119]; exact H) | exact H
              have Ny119 := Aside0.mk hy119
              clear hy119
              by_cases c18 : x4_1.length + y119.length < 17592186044416
              · rw [if_pos c18] at H
                have LMc18 := Aside0.mk c18
                clear c18
                obtain ⟨y122, hy122⟩ : ∃ y_ : List Int, y_ = (x4_1 ++ y119) := ⟨_, rfl⟩
                replace H : (spec_Identifier.l0 k1 l0 y122 t108) = some (r1, r2) := by first | (rw [hy122]; with_reducible exact H) | (have H2_ := (Option.bind_some _ _).symm.trans H; rw [hy122]; with_reducible exact H2_) | (have H2_ := (Option.bind_some _ _).symm.trans H; with_reducible exact H2_) | with_reducible exact H | (rw [hy122]; exact H) | exact H
                have Ny122 := Aside0.mk hy122
                clear hy122
                have H' := Aside0.mk H
                clear H
                go_wp2_with (first | ((with_reducible refine gate_callee (f := 21) rfl ?_); refine goesL_ (some 17) rfl rfl Try.func21 (by kernel_rfl) rfl #[.slice A0 l0.length c0, .int .i64 x5_1] rfl (by (try simp only [List.map_toArray, List.map_cons, List.map_nil]); first | done | rfl | (simp only [List.length_drop, List.length_take]; rfl)) ?_; (with_reducible refine (spec_Base128.calls k1 _ _ l0 x5_1 t107 t108 true _ ?side1 ?side2 A5.out).mono ?_); (case side1 => repeat (first | exact (Kd.C_below HR0.out HB.out) | (with_reducible refine Kd.C_alloc ?_ _) | (with_reducible refine Kd.C_drewN ?_ _) | (with_reducible refine Kd.C_drew ?_))); (case side2 => exact HC0.out); rintro e w' ⟨rfl, ⟨nd, rfl⟩⟩; refine ⟨_, rfl, ?_⟩; obtain ⟨Ao19, co19, eo19⟩ := Kd.R_slice HO_4.out; subst eo19) | ((with_reducible refine gate_dst (N := 27) rfl ?_); refine Kd.R_lit (Kd.int .i64) _ 3 ?hg (N := 27) ?hd (xs := ([2, wrap64 (t107 - 80)] : List Int)) (inner := [.int .i64 2, .int .i64 (wrap64 (t107 - 80))]) (ok := fun _ => True) (okp := fun _ => True) ?hr ?hp (fun _ hk => hk) trivial (Below.refl _ _) (Nat.le_refl _) (by simp) ?_; (case hd => rfl); (case hg => rfl); (case hr => first | (go_simp; done) | (go_simp; rfl)); (case hp => exact (Reps.one (show Kd.M (Kd.int .i64) _ _ _ 2 [.int .i64 2] from rfl) (Reps.one (show Kd.M (Kd.int .i64) _ _ _ (wrap64 (t107 - 80)) [.int .i64 (wrap64 (t107 - 80))] from rfl) (Reps.none _ _)))); intro v120 w20 ho21 hb hg_ hnew_; clear hg_ hnew_; (first | rw [← Ny119.out] at ho21 | (simp only [Int.reduceToNat] at ho21; rw [← Ny119.out] at ho21)); have n0_ := Aside0.mk (Kd.R_elder' (by (with_reducible repeat (first | apply Kd.R_alloc | apply Kd.R_drewN | apply Kd.R_drew)); exact HO_4.out) (Kd.R_base ho21) hb); have n1_ := Aside0.mk (Kd.R_lower (Kd.R_new' ho21 (Kd.R_lt (by (with_reducible repeat (first | apply Kd.R_alloc | apply Kd.R_drewN | apply Kd.R_drew)); exact HO_4.out))) (below_size (by repeat (first | (with_reducible first | exact HB.out | apply below_alloc | apply pw_below_drewN | apply below_drew1) | exact HB.out)))); have n2_ := Aside0.mk (below_step (by repeat (first | (with_reducible first | exact HB.out | apply below_alloc | apply pw_below_drewN | apply below_drew1) | exact HB.out)) hb); clear HO_4; clear HB; have HO_4 := n0_; have HO121 := n1_; have HB := n2_; clear n0_ n1_ n2_; clear hb ho21; obtain ⟨Ao23, co23, eo23⟩ := Kd.R_slice HO121.out; subst eo23) | ((with_reducible refine gate_builtin (b := .append) (xs := #[.tmp 24, .tmp 27]) rfl ?_); at_builtin; refine Kd.R_append_rows (Kd.int .i64) (w0 := w) w.heap.size rfl (.tmp 24) (.tmp 27) 46 3 (.int .i64 0) 8 rfl Try.underlying46 info3 rfl (by decide) (by omega) (.slice Ao19 x4_1.length co19) x4_1 y119 _ _ _ (fun k_ => some k_ ≠ (.slice Ao23 y119.length co23 : Value).ownBlock) (fun _ => False) rfl rfl ?aO ?aR (fun _ _ h => h) (fun _ h => h.elim) ?aF ?aB ?aS ?aL ?_; (case aR => repeat (first | exact (Kd.R_reads' HO121.out).2.2 | (with_reducible refine Kd.C_alloc ?_ _) | (with_reducible refine Kd.C_drewN ?_ _) | (with_reducible refine Kd.C_drew ?_))); (case aB => exact (by repeat (first | (with_reducible first | exact HB.out | apply below_alloc | apply pw_below_drewN | apply below_drew1) | exact HB.out))); (case aF => exact (fun k_ hk => Kd.fresh' (Kd.R_lt (by (with_reducible repeat (first | apply Kd.R_alloc | apply Kd.R_drewN | apply Kd.R_drew)); exact HO121.out)) k_ hk)); (case aO => exact (by (with_reducible repeat (first | apply Kd.R_alloc | apply Kd.R_drewN | apply Kd.R_drew)); exact Kd.R_mono HO_4.out (fun _ hk => hk.2))); (case aS => exact (below_size (by repeat (first | (with_reducible first | exact HB.out | apply below_alloc | apply pw_below_drewN | apply below_drew1) | exact HB.out)))); (case aL => have := LMc18.out; omega); intro v123 w22 ho hb hg hat; rw [← Ny122.out] at ho; have n0_ := Aside0.mk (Kd.R_after (ok := (fun _ => True)) (by (with_reducible repeat (first | apply Kd.R_alloc | apply Kd.R_drewN | apply Kd.R_drew)); exact HO121.out) hg hat); have n1_ := Aside0.mk (hb); have n2_ := Aside0.mk (ho); clear HO121; clear HB; clear HO_4; have HO121 := n0_; have HB := n1_; have HO124 := n2_; clear n0_ n1_ n2_; clear ho hb hg hat))
                go_roundg k1
                case measure => have := HK1.out; omega
                case rel => exact ⟨(y122), (t108), (by first | rfl | (simp; done) | (simp [*]; done)), H', ⟨by have := HK1.out; omega⟩, ⟨by (with_reducible repeat (first | apply Kd.R_alloc | apply Kd.R_drewN | apply Kd.R_drew)); exact Kd.R_mono HO124.out (fun _ hk => trivial)⟩, ⟨by repeat (first | (with_reducible first | exact HB.out | apply below_alloc | apply pw_below_drewN | apply below_drew1) | exact HB.out)⟩⟩
              · rw [if_neg c18] at H
                exact absurd H (by simp)
        · replace c6 := Bool.eq_false_iff.mpr c6
          subst c6
          have H1 : (some (([] : List Int), false)) = some (r1, r2) := by rw [if_neg (show ¬ (false = true) by decide)] at H; exact H
          clear H
          have H := H1
          clear H1
          simp only [Option.some.injEq, Prod.mk.injEq] at H
          obtain ⟨rfl, rfl⟩ := H
          go_wp2_with (first | ((with_reducible refine gate_callee (f := 21) rfl ?_); refine goesL_ (some 17) rfl rfl Try.func21 (by kernel_rfl) rfl #[.slice A0 l0.length c0, .int .i64 x5_1] rfl (by (try simp only [List.map_toArray, List.map_cons, List.map_nil]); first | done | rfl | (simp only [List.length_drop, List.length_take]; rfl)) ?_; (with_reducible refine (spec_Base128.calls k1 _ _ l0 x5_1 t107 t108 false _ ?side1 ?side2 A5.out).mono ?_); (case side1 => repeat (first | exact (Kd.C_below HR0.out HB.out) | (with_reducible refine Kd.C_alloc ?_ _) | (with_reducible refine Kd.C_drewN ?_ _) | (with_reducible refine Kd.C_drew ?_))); (case side2 => exact HC0.out); rintro e w' ⟨rfl, ⟨nd, rfl⟩⟩; refine ⟨_, rfl, ?_⟩))
          go_ret2
          exact ⟨_, by first | rfl | (simp [errW_none, errW_some] <;> rfl) | (simp [*, errW_none, errW_some] <;> rfl), by first | exact Kd.R_nil _ _ _ _ _ | exact Kd.N_nil _ _ _ _ _ | exact Kd.V_nil _ _ _ _ _ | exact Kd.Q_nil _ _ _ _ _ | exact Kd.S_nil _ _ _ _ _, by repeat (first | (with_reducible first | exact HB.out | apply below_alloc | apply pw_below_drewN | apply below_drew1) | exact HB.out)⟩
      · rw [if_neg c4] at H
        have c4b0 : decide (x5_1 < (l0.length : Int)) = false := decide_eq_false c4
        clear c4
        simp only [Option.some.injEq, Prod.mk.injEq] at H
        obtain ⟨rfl, rfl⟩ := H
        obtain ⟨Ao24, co24, eo24⟩ := Kd.R_slice HO_4.out
        subst eo24
        go_wp2
        go_ret2
        exact ⟨_, by first | rfl | (simp [errW_none, errW_some] <;> rfl) | (simp [*, errW_none, errW_some] <;> rfl), by (with_reducible repeat (first | apply Kd.R_alloc | apply Kd.R_drewN | apply Kd.R_drew)); exact HO_4.out, by repeat (first | (with_reducible first | exact HB.out | apply below_alloc | apply pw_below_drewN | apply below_drew1) | exact HB.out)⟩

/-! ### impl_short: function 35 -/
def impl_short.f (l0 : List Int) : Option (Bool) := some (decide ((l0.length : Int) ≤ 10000))
set_option maxHeartbeats 8000000 in
set_option maxRecDepth 100000 in
theorem impl_short.calls (A0 : Option Addr) (c0 : Nat) (l0 : List Int) (r : Bool) (w : World) (hr0 : Kd.C (Kd.int .u8) w A0 l0.length l0) (hc0 : l0.length ≤ c0) (h : impl_short.f l0 = some r) :
    Calls Try.prog 35 #[.slice A0 l0.length c0] w fun e w' => e = .returned (.bool r) ∧ Drawn0 w w' := by
  have HR0 := Aside0.mk hr0
  have HC0 := Aside0.mk hc0
  clear hr0 hc0
  have H : (some (decide ((l0.length : Int) ≤ 10000))) = some r := h
  clear h
  obtain rfl := Option.some.inj H
  go_enter Try.func35, Try.ntmps35
  go_wp2
  go_ret
  exact ⟨by first | rfl | (simp; done) | (simp [*]; done), by repeat (first | exact Drawn0.refl _ | apply Drawn0.step)⟩

/-! ### impl_copied: function 37 -/
def impl_copied.f (l0 : List Int) : Option (List Int) := if ([] : List Int).length + l0.length < 140737488355328 then (some (([] : List Int) ++ l0)) else (none)
set_option maxHeartbeats 8000000 in
set_option maxRecDepth 100000 in
theorem impl_copied.calls (A0 : Option Addr) (c0 : Nat) (l0 : List Int) (r : List Int) (w : World) (hr0 : Kd.C (Kd.int .u8) w A0 l0.length l0) (hc0 : l0.length ≤ c0) (h : impl_copied.f l0 = some r) :
    Calls Try.prog 37 #[.slice A0 l0.length c0] w fun e w' => ∃ v0_ : Value, e = .returned (v0_) ∧ Kd.R (Kd.int .u8) 5 w' w.heap.size (fun _ => True) v0_ r ∧ Below w.heap.size w w' := by
  have HR0 := Aside0.mk hr0
  have HC0 := Aside0.mk hc0
  clear hr0 hc0
  have HB := Aside0.mk (Below.refl w.heap.size w)
  have H : (if ([] : List Int).length + l0.length < 140737488355328 then (some (([] : List Int) ++ l0)) else (none)) = some r := h
  clear h
  by_cases c2 : ([] : List Int).length + l0.length < 140737488355328
  · rw [if_pos c2] at H
    have LMc2 := Aside0.mk c2
    clear c2
    obtain ⟨y125, hy125⟩ : ∃ y_ : List Int, y_ = (([] : List Int) ++ l0) := ⟨_, rfl⟩
    replace H : (some y125) = some r := by first | (rw [hy125]; with_reducible exact H) | (have H2_ := (Option.bind_some _ _).symm.trans H; rw [hy125]; with_reducible exact H2_) | (have H2_ := (Option.bind_some _ _).symm.trans H; with_reducible exact H2_) | with_reducible exact H | (rw [hy125]; exact H) | exact H
    have Ny125 := Aside0.mk hy125
    clear hy125
    obtain rfl := Option.some.inj H
    go_enter Try.func37, Try.ntmps37
    go_wp2_with (first | ((with_reducible refine gate_builtin (b := .append) (xs := #[.const (.slice none 0 0), .tmp 3]) rfl ?_); at_builtin; refine Kd.R_append_rows (Kd.int .u8) (w0 := w) w.heap.size rfl (.const (.slice none 0 0)) (.tmp 3) 22 5 (.int .u8 0) 1 rfl Try.underlying22 info5 rfl (by decide) (by omega) (.slice none 0 0) ([] : List Int) l0 _ _ _ (fun _ => True) (fun _ => False) rfl rfl ?aO ?aR (fun _ _ h => h) (fun _ h => h.elim) ?aF ?aB ?aS ?aL ?_; (case aR => repeat (first | exact HR0.out | (with_reducible refine Kd.C_alloc ?_ _) | (with_reducible refine Kd.C_drewN ?_ _) | (with_reducible refine Kd.C_drew ?_))); (case aB => exact (by repeat (first | (with_reducible first | exact HB.out | apply below_alloc | apply pw_below_drewN | apply below_drew1) | exact HB.out))); (case aF => exact (fun _ _ => trivial)); (case aO => exact ((Kd.R_nil _ _ _ _ (fun _ => True)))); (case aS => exact (below_size (by repeat (first | (with_reducible first | exact HB.out | apply below_alloc | apply pw_below_drewN | apply below_drew1) | exact HB.out)))); (case aL => have := LMc2.out; omega); intro v126 w3 ho hb hg hat; rw [← Ny125.out] at ho; have n0_ := Aside0.mk (hb); have n1_ := Aside0.mk (ho); clear HB; have HB := n0_; have HO127 := n1_; clear n0_ n1_; clear ho hb hg hat))
    go_ret
    exact ⟨_, by first | rfl | (simp [errW_none, errW_some] <;> rfl) | (simp [*, errW_none, errW_some] <;> rfl), by (with_reducible repeat (first | apply Kd.R_alloc | apply Kd.R_drewN | apply Kd.R_drew)); exact HO127.out, by repeat (first | (with_reducible first | exact HB.out | apply below_alloc | apply pw_below_drewN | apply below_drew1) | exact HB.out)⟩
  · rw [if_neg c2] at H
    exact absurd H (by simp)

/-! ### asn1_parseBase128Int: function 51 -/
mutual
def asn1_parseBase128Int.l0 : Nat → List Int → Int → Int → Option Int → Int → Int → Option (Int × Int × Option Int)
  | 0, _, _, _, _, _, _ => none
  | k + 1, x0, x4, x5, x6, x7, x8 => if x5 < (x0.length : Int) then (if x8 = 5 then (some (x4, x5, some 1)) else (if 0 ≤ x5 then (if x8 = 0 then (asn1_parseBase128Int.j1 k x0 x4 x5 x6 (wrap64 (x7 * 128)) x8 (rd x0 x5) ((rd x0 x5) == 128)) else (asn1_parseBase128Int.j1 k x0 x4 x5 x6 (wrap64 (x7 * 128)) x8 (rd x0 x5) false)) else (none))) else (some (x4, x5, some 0))
def asn1_parseBase128Int.j1 : Nat → List Int → Int → Int → Option Int → Int → Int → Int → Bool → Option (Int × Int × Option Int)
  | 0, _, _, _, _, _, _, _, _ => none
  | k + 1, x0, x4, x5, x6, x7, x8, x9, x32 => if x32 = true then (some (x4, x5, some 2)) else (if (Go.bits .and .u8 x9 128) = 0 then (if (Go.bits .or .i64 x7 (wrap64 (Go.bits .and .u8 x9 127))) > 2147483647 then (some (Go.bits .or .i64 x7 (wrap64 (Go.bits .and .u8 x9 127)), wrap64 (x5 + 1), some 1)) else (some (Go.bits .or .i64 x7 (wrap64 (Go.bits .and .u8 x9 127)), wrap64 (x5 + 1), x6))) else (asn1_parseBase128Int.l0 k x0 x4 (wrap64 (x5 + 1)) x6 (Go.bits .or .i64 x7 (wrap64 (Go.bits .and .u8 x9 127))) (wrap64 (x8 + 1))))
end
def asn1_parseBase128Int.f (k : Nat) (l0 : List Int) (a1 : Int) : Option (Int × Int × Option Int) := asn1_parseBase128Int.l0 k l0 0 a1 none 0 0
theorem asn1_parseBase128Int.mono_l : ∀ k, (∀ y0 y1 y2 y3 y4 y5, LeO (asn1_parseBase128Int.l0 k y0 y1 y2 y3 y4 y5) (asn1_parseBase128Int.l0 (k + 1) y0 y1 y2 y3 y4 y5)) ∧ (∀ y0 y1 y2 y3 y4 y5 y6 y7, LeO (asn1_parseBase128Int.j1 k y0 y1 y2 y3 y4 y5 y6 y7) (asn1_parseBase128Int.j1 (k + 1) y0 y1 y2 y3 y4 y5 y6 y7))
  | 0 => ⟨fun _ _ _ _ _ _ r h => by simp [asn1_parseBase128Int.l0] at h, fun _ _ _ _ _ _ _ _ r h => by simp [asn1_parseBase128Int.j1] at h⟩
  | k + 1 => by
    obtain ⟨ih0, ih1⟩ := asn1_parseBase128Int.mono_l k
    refine ⟨?_, ?_⟩
    · intro y0 y1 y2 y3 y4 y5
      unfold asn1_parseBase128Int.l0
      repeat' first
      | (with_reducible exact ih0 _ _ _ _ _ _)
      | (with_reducible exact ih1 _ _ _ _ _ _ _ _)
      | (with_reducible exact LeO.refl _)
      | (with_reducible exact LeO.none _)
      | (with_reducible refine LeO.ite ?_ ?_)
      | (with_reducible refine LeO.bind ?_ (fun _ => ?_))
      | exact ih0 _ _ _ _ _ _
      | exact ih1 _ _ _ _ _ _ _ _
      | exact LeO.none _
      | refine LeO.ite ?_ ?_
      | refine LeO.bind ?_ (fun _ => ?_)
    · intro y0 y1 y2 y3 y4 y5 y6 y7
      unfold asn1_parseBase128Int.j1
      repeat' first
      | (with_reducible exact ih0 _ _ _ _ _ _)
      | (with_reducible exact ih1 _ _ _ _ _ _ _ _)
      | (with_reducible exact LeO.refl _)
      | (with_reducible exact LeO.none _)
      | (with_reducible refine LeO.ite ?_ ?_)
      | (with_reducible refine LeO.bind ?_ (fun _ => ?_))
      | exact ih0 _ _ _ _ _ _
      | exact ih1 _ _ _ _ _ _ _ _
      | exact LeO.none _
      | refine LeO.ite ?_ ?_
      | refine LeO.bind ?_ (fun _ => ?_)
theorem asn1_parseBase128Int.mono : ∀ a0 a1 k, LeO (asn1_parseBase128Int.f k a0 a1) (asn1_parseBase128Int.f (k + 1) a0 a1) := by
  intro a0 a1 k
  obtain ⟨ih0, ih1⟩ := asn1_parseBase128Int.mono_l k
  unfold asn1_parseBase128Int.f
  repeat' first
      | (with_reducible exact ih0 _ _ _ _ _ _)
      | (with_reducible exact ih1 _ _ _ _ _ _ _ _)
      | (with_reducible exact LeO.refl _)
      | (with_reducible exact LeO.none _)
      | (with_reducible refine LeO.ite ?_ ?_)
      | (with_reducible refine LeO.bind ?_ (fun _ => ?_))
      | exact ih0 _ _ _ _ _ _
      | exact ih1 _ _ _ _ _ _ _ _
      | exact LeO.none _
      | refine LeO.ite ?_ ?_
      | refine LeO.bind ?_ (fun _ => ?_)
set_option maxHeartbeats 8000000 in
set_option maxRecDepth 100000 in
theorem asn1_parseBase128Int.calls (k : Nat) (A0 : Option Addr) (c0 : Nat) (l0 : List Int) (a1 : Int) (r1 : Int) (r2 : Int) (r3 : Option Int) (w : World) (hr0 : Kd.C (Kd.int .u8) w A0 l0.length l0) (hc0 : l0.length ≤ c0) (h : asn1_parseBase128Int.f k l0 a1 = some (r1, r2, r3)) :
    Calls Try.prog 51 #[.slice A0 l0.length c0, .int .i64 a1] w fun e w' => e = .returned (.tuple #[.int .i64 r1, .int .i64 r2, errW r3]) ∧ Below w.heap.size w w' := by
  have hu86 := Try.underlying86
  have hu87 := Try.underlying87
  have hu58 := Try.underlying58
  have HR0 := Aside0.mk hr0
  have HC0 := Aside0.mk hc0
  clear hr0 hc0
  have HB := Aside0.mk (Below.refl w.heap.size w)
  have H : (asn1_parseBase128Int.l0 k l0 0 a1 none 0 0) = some (r1, r2, r3) := h
  clear h
  have H' := Aside0.mk H
  clear H
  go_enter Try.func51, Try.ntmps51
  go_wp2
  go_loopg [4, 5, 6, 7, 8] k (fun kq v4 v5 v6 v7 v8 w' => ∃ (x4_1 : Int) (x5_1 : Int) (x6_1 : Option Int) (x7_1 : Int) (x8_1 : Int), v4 = .int .i64 x4_1 ∧ v5 = .int .i64 x5_1 ∧ v6 = errW x6_1 ∧ v7 = .int .i64 x7_1 ∧ v8 = .int .i64 x8_1 ∧ Aside0 (asn1_parseBase128Int.l0 kq l0 x4_1 x5_1 x6_1 x7_1 x8_1 = some (r1, r2, r3)) ∧ Aside0 (kq ≤ k) ∧ Aside0 (Below w.heap.size w w'))
  case atStart => exact ⟨(0), (a1), (none), (0), (0), (by first | rfl | (simp; done) | (simp [*]; done)), (by first | rfl | (simp; done) | (simp [*]; done)), (by first | rfl | (simp; done) | (simp [*]; done)), (by first | rfl | (simp; done) | (simp [*]; done)), (by first | rfl | (simp; done) | (simp [*]; done)), H', ⟨Nat.le_refl _⟩, ⟨by repeat (first | (with_reducible first | exact HB.out | apply below_alloc | apply pw_below_drewN | apply below_drew1) | exact HB.out)⟩⟩
  case round =>
    clear H'
    try clear p2
    obtain ⟨x4_1, x5_1, x6_1, x7_1, x8_1, rfl, rfl, rfl, rfl, rfl, HA, HK1, HB⟩ := hrel
    cases gk with
    | zero => exact absurd HA.out (by simp [asn1_parseBase128Int.l0])
    | succ k1 =>
      have H := HA.out
      clear HA
      simp only [asn1_parseBase128Int.l0] at H
      by_cases c3 : x5_1 < (l0.length : Int)
      · rw [if_pos c3] at H
        have c3b0 : decide (x5_1 < (l0.length : Int)) = true := decide_eq_true c3
        clear c3
        by_cases c4 : x8_1 = 5
        · rw [if_pos c4] at H
          have c4b0 : (x8_1 == 5) = true := beq_iff_eq.mpr c4
          have c4b1 : (x8_1 != 5) = false := bne_eq_false_iff_eq.mpr c4
          clear c4
          simp only [Option.some.injEq, Prod.mk.injEq] at H
          obtain ⟨rfl, rfl, rfl⟩ := H
          go_wp2
          go_ret3
          exact ⟨by first | rfl | (simp [errW_none, errW_some] <;> rfl) | (simp [*, errW_none, errW_some] <;> rfl), by repeat (first | (with_reducible first | exact HB.out | apply below_alloc | apply pw_below_drewN | apply below_drew1) | exact HB.out)⟩
        · rw [if_neg c4] at H
          have c4b0 : (x8_1 == 5) = false := beq_eq_false_iff_ne.mpr c4
          have c4b1 : (x8_1 != 5) = true := bne_iff_ne.mpr c4
          by_cases c5 : 0 ≤ x5_1
          · rw [if_pos c5] at H
            have c5b0 : decide (0 ≤ x5_1) = true := decide_eq_true c5
            clear c5
            have HC6 := Aside0.mk H
            clear H
            have p128 : 0 ≤ (x5_1 : Int) := of_decide_eq_true (by first | (with_reducible assumption) | assumption)
            have q128 : x5_1 < (l0.length : Int) := of_decide_eq_true (by first | (with_reducible assumption) | assumption)
            obtain ⟨ad128, e128, hx128_0⟩ := Kd.at_int HR0.out x5_1 p128 q128
            cases e128
            replace hx128_0 := (HB.out.cell (World.block_lt_of_cell? w _ hx128_0)).trans hx128_0
            replace p128 := eq_true p128
            replace q128 := eq_true q128
            go_upto_region 10 with (fail)
            go_cut [32] (fun v32 wc => ∃ (kq : Nat) (x32_5 : Bool), v32 = .bool x32_5 ∧ Aside0 (asn1_parseBase128Int.j1 kq l0 x4_1 x5_1 x6_1 (wrap64 (x7_1 * 128)) x8_1 (rd l0 x5_1) x32_5 = some (r1, r2, r3)) ∧ Aside0 (kq ≤ k1) ∧ Aside0 (Below w.heap.size w wc))
            case first =>
              have H := HC6.out
              clear HC6
              by_cases c7 : x8_1 = 0
              · rw [if_pos c7] at H
                have c7b0 : (x8_1 == 0) = true := beq_iff_eq.mpr c7
                have c7b1 : (x8_1 != 0) = false := bne_eq_false_iff_eq.mpr c7
                clear c7
                (first | rw [c7b0] | (simp only [i64_w, i32_w]; rw [c7b0]) | skip)
                have H' := Aside0.mk H
                clear H
                go_wp2
                go_meet
                case rel => exact ⟨_, (((rd l0 x5_1) == 128)), (by first | rfl | (simp; done) | (simp [*]; done)), H', ⟨by have := HK1.out; first | omega | exact Nat.le_refl _⟩, ⟨by repeat (first | (with_reducible first | exact HB.out | apply below_alloc | apply pw_below_drewN | apply below_drew1) | exact HB.out)⟩⟩
              · rw [if_neg c7] at H
                have c7b0 : (x8_1 == 0) = false := beq_eq_false_iff_ne.mpr c7
                have c7b1 : (x8_1 != 0) = true := bne_iff_ne.mpr c7
                (first | rw [c7b0] | (simp only [i64_w, i32_w]; rw [c7b0]) | skip)
                have H' := Aside0.mk H
                clear H
                go_wp2
                go_meet
                case rel => exact ⟨_, (false), (by first | rfl | (simp; done) | (simp [*]; done)), H', ⟨by have := HK1.out; first | omega | exact Nat.le_refl _⟩, ⟨by repeat (first | (with_reducible first | exact HB.out | apply below_alloc | apply pw_below_drewN | apply below_drew1) | exact HB.out)⟩⟩
            case rest =>
              clear HC6
              try clear p1
              try clear q1
              try clear hx1
              try clear p2
              try clear c3
              try clear c3b0
              try clear c4
              try clear c4b0
              try clear c4b1
              try clear c5
              try clear c5b0
              try clear p6
              try clear c7
              try clear c7b0
              try clear c7b1
              try clear hx128_0
              try clear p128
              try clear p2
              try clear q128
              obtain ⟨kq, x32_5, rfl, HA, HJ5, HB⟩ := hcut
              cases kq with
              | zero => exact absurd HA.out (by simp [asn1_parseBase128Int.j1])
              | succ kj5 =>
                have H := HA.out
                clear HA
                simp only [asn1_parseBase128Int.j1] at H
                by_cases c8 : x32_5 = true
                · subst c8
                  have H1 : (some (x4_1, x5_1, some 2)) = some (r1, r2, r3) := by rw [if_pos rfl] at H; exact H
                  clear H
                  have H := H1
                  clear H1
                  simp only [Option.some.injEq, Prod.mk.injEq] at H
                  obtain ⟨rfl, rfl, rfl⟩ := H
                  go_wp2
                  go_ret3
                  exact ⟨by first | rfl | (simp [errW_none, errW_some] <;> rfl) | (simp [*, errW_none, errW_some] <;> rfl), by repeat (first | (with_reducible first | exact HB.out | apply below_alloc | apply pw_below_drewN | apply below_drew1) | exact HB.out)⟩
                · replace c8 := Bool.eq_false_iff.mpr c8
                  subst c8
                  have H1 : (if (Go.bits .and .u8 (rd l0 x5_1) 128) = 0 then (if (Go.bits .or .i64 (wrap64 (x7_1 * 128)) (wrap64 (Go.bits .and .u8 (rd l0 x5_1) 127))) > 2147483647 then (some (Go.bits .or .i64 (wrap64 (x7_1 * 128)) (wrap64 (Go.bits .and .u8 (rd l0 x5_1) 127)), wrap64 (x5_1 + 1), some 1)) else (some (Go.bits .or .i64 (wrap64 (x7_1 * 128)) (wrap64 (Go.bits .and .u8 (rd l0 x5_1) 127)), wrap64 (x5_1 + 1), x6_1))) else (asn1_parseBase128Int.l0 kj5 l0 x4_1 (wrap64 (x5_1 + 1)) x6_1 (Go.bits .or .i64 (wrap64 (x7_1 * 128)) (wrap64 (Go.bits .and .u8 (rd l0 x5_1) 127))) (wrap64 (x8_1 + 1)))) = some (r1, r2, r3) := by rw [if_neg (show ¬ (false = true) by decide)] at H; exact H
                  clear H
                  have H := H1
                  clear H1
                  by_cases c9 : (Go.bits .and .u8 (rd l0 x5_1) 128) = 0
                  · rw [if_pos c9] at H
                    have c9b0 : ((Go.bits .and .u8 (rd l0 x5_1) 128) == 0) = true := beq_iff_eq.mpr c9
                    have c9b1 : ((Go.bits .and .u8 (rd l0 x5_1) 128) != 0) = false := bne_eq_false_iff_eq.mpr c9
                    clear c9
                    by_cases c10 : (Go.bits .or .i64 (wrap64 (x7_1 * 128)) (wrap64 (Go.bits .and .u8 (rd l0 x5_1) 127))) > 2147483647
                    · rw [if_pos c10] at H
                      have c10b0 : decide (2147483647 < (Go.bits .or .i64 (wrap64 (x7_1 * 128)) (wrap64 (Go.bits .and .u8 (rd l0 x5_1) 127)))) = true := decide_eq_true c10
                      clear c10
                      simp only [Option.some.injEq, Prod.mk.injEq] at H
                      obtain ⟨rfl, rfl, rfl⟩ := H
                      go_wp2
                      go_ret3
                      exact ⟨by first | rfl | (simp [errW_none, errW_some] <;> rfl) | (simp [*, errW_none, errW_some] <;> rfl), by repeat (first | (with_reducible first | exact HB.out | apply below_alloc | apply pw_below_drewN | apply below_drew1) | exact HB.out)⟩
                    · rw [if_neg c10] at H
                      have c10b0 : decide (2147483647 < (Go.bits .or .i64 (wrap64 (x7_1 * 128)) (wrap64 (Go.bits .and .u8 (rd l0 x5_1) 127)))) = false := decide_eq_false c10
                      clear c10
                      simp only [Option.some.injEq, Prod.mk.injEq] at H
                      obtain ⟨rfl, rfl, rfl⟩ := H
                      go_wp2
                      go_ret3
                      exact ⟨by first | rfl | (simp [errW_none, errW_some] <;> rfl) | (simp [*, errW_none, errW_some] <;> rfl), by repeat (first | (with_reducible first | exact HB.out | apply below_alloc | apply pw_below_drewN | apply below_drew1) | exact HB.out)⟩
                  · rw [if_neg c9] at H
                    have c9b0 : ((Go.bits .and .u8 (rd l0 x5_1) 128) == 0) = false := beq_eq_false_iff_ne.mpr c9
                    have c9b1 : ((Go.bits .and .u8 (rd l0 x5_1) 128) != 0) = true := bne_iff_ne.mpr c9
                    have H' := Aside0.mk H
                    clear H
                    go_wp2
                    go_roundg kj5
                    case measure => have := HK1.out; have := HJ5.out; omega
                    case rel => exact ⟨(x4_1), (wrap64 (x5_1 + 1)), (x6_1), (Go.bits .or .i64 (wrap64 (x7_1 * 128)) (wrap64 (Go.bits .and .u8 (rd l0 x5_1) 127))), (wrap64 (x8_1 + 1)), (by first | rfl | (simp; done) | (simp [*]; done)), (by first | rfl | (simp; done) | (simp [*]; done)), (by first | rfl | (simp; done) | (simp [*]; done)), (by first | rfl | (simp; done) | (simp [*]; done)), (by first | rfl | (simp; done) | (simp [*]; done)), H', ⟨by have := HK1.out; have := HJ5.out; omega⟩, ⟨by repeat (first | (with_reducible first | exact HB.out | apply below_alloc | apply pw_below_drewN | apply below_drew1) | exact HB.out)⟩⟩
          · rw [if_neg c5] at H
            exact absurd H (by simp)
      · rw [if_neg c3] at H
        have c3b0 : decide (x5_1 < (l0.length : Int)) = false := decide_eq_false c3
        clear c3
        simp only [Option.some.injEq, Prod.mk.injEq] at H
        obtain ⟨rfl, rfl, rfl⟩ := H
        go_wp2
        go_ret3
        exact ⟨by first | rfl | (simp [errW_none, errW_some] <;> rfl) | (simp [*, errW_none, errW_some] <;> rfl), by repeat (first | (with_reducible first | exact HB.out | apply below_alloc | apply pw_below_drewN | apply below_drew1) | exact HB.out)⟩

end Go.Proofs.Ytapnkngcnlomhaa.QO
