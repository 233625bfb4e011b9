-- Written by a program of this work (wip/patch_print.py) for this claim.
import Derived.Test.YtmiemfgcggkbnaaDoorQTx0
namespace Go.Proofs.YtmiemfgcggkbnaaDoor.QT
open Go.RowKit Go.Proofs.YtmiemfgcggkbnaaDoorW.PrintWords Go.Proofs.YtmiemfgcggkbnaaDoorW.PrintLast Go.Proofs.YtmiemfgcggkbnaaDoorW.PrintMore
attribute [local go_sem] max2_int min2_int max_two min_two max_three min_three max_four min_four   -- for this text's walks alone
set_option linter.unusedVariables false
set_option linter.unusedSimpArgs false

/-! ### spec_Rune: function 15 -/
mutual
def spec_Rune.j2 : Nat → List Int → Int → Int → Int → Option (Int × Int × Bool)
  | 0, _, _, _, _ => none
  | k + 1, x0, x6, x7, x8 => if x6 = 0 then (spec_Rune.j3 k x0 x6 x7 x8 true) else (spec_Rune.j3 k x0 x6 x7 x8 (decide ((x0.length : Int) < x6)))
def spec_Rune.j3 : Nat → List Int → Int → Int → Int → Bool → Option (Int × Int × Bool)
  | 0, _, _, _, _, _ => none
  | k + 1, x0, x6, x7, x8, x54 => if x54 = true then (some (0, 1, false)) else (spec_Rune.l0 k x0 x6 x7 x8 1)
def spec_Rune.l0 : Nat → List Int → Int → Int → Int → Int → Option (Int × Int × Bool)
  | 0, _, _, _, _, _ => none
  | k + 1, x0, x6, x7, x8, x9 => if x9 < x6 then (if 0 ≤ x9 then (if x9 < (x0.length : Int) then (if (Go.bits .and .u8 (rd x0 x9) 192) = 128 then (spec_Rune.l0 k x0 x6 (Go.bits .or .i64 (wrap64 (x7 * 64)) (wrap64 (Go.bits .and .u8 (rd x0 x9) 63))) x8 (wrap64 (x9 + 1))) else (some (0, 1, false))) else (none)) else (none)) else (if x7 ≥ x8 then (if x7 ≤ 1114111 then (if x7 < 55296 then (some (x7, x6, true)) else (some (x7, x6, decide (x7 ≥ 57344)))) else (some (x7, x6, false))) else (some (x7, x6, false)))
def spec_Rune.j0 : Nat → List Int → Int → Int → Int → Int → Bool → Option (Int × Int × Bool)
  | 0, _, _, _, _, _, _ => none
  | k + 1, x0, x5, x6, x7, x8, x20 => if x20 = true then (spec_Rune.j2 k x0 2 (Go.bits .and .i64 x5 31) 128) else (if x5 ≥ 224 then (spec_Rune.j1 k x0 x5 x6 x7 x8 (decide (x5 < 240))) else (spec_Rune.j1 k x0 x5 x6 x7 x8 false))
def spec_Rune.j1 : Nat → List Int → Int → Int → Int → Int → Bool → Option (Int × Int × Bool)
  | 0, _, _, _, _, _, _ => none
  | k + 1, x0, x5, x6, x7, x8, x29 => if x29 = true then (spec_Rune.j2 k x0 3 (Go.bits .and .i64 x5 15) 2048) else (if x5 ≥ 240 then (if x5 < 245 then (spec_Rune.j2 k x0 4 (Go.bits .and .i64 x5 7) 65536) else (spec_Rune.j2 k x0 x6 x7 x8)) else (spec_Rune.j2 k x0 x6 x7 x8))
end
def spec_Rune.f (k : Nat) (l0 : List Int) : Option (Int × Int × Bool) := if (l0.length : Int) = 0 then (some (0, 0, false)) else (if 0 < (l0.length : Int) then (if (wrap64 (rd l0 0)) < 128 then (some (wrap64 (rd l0 0), 1, true)) else (if (wrap64 (rd l0 0)) ≥ 194 then (spec_Rune.j0 k l0 (wrap64 (rd l0 0)) 0 0 0 (decide ((wrap64 (rd l0 0)) < 224))) else (spec_Rune.j0 k l0 (wrap64 (rd l0 0)) 0 0 0 false))) else (none))
theorem spec_Rune.mono_l : ∀ k, (∀ y0 y1 y2 y3, LeO (spec_Rune.j2 k y0 y1 y2 y3) (spec_Rune.j2 (k + 1) y0 y1 y2 y3)) ∧ (∀ y0 y1 y2 y3 y4, LeO (spec_Rune.j3 k y0 y1 y2 y3 y4) (spec_Rune.j3 (k + 1) y0 y1 y2 y3 y4)) ∧ (∀ y0 y1 y2 y3 y4, LeO (spec_Rune.l0 k y0 y1 y2 y3 y4) (spec_Rune.l0 (k + 1) y0 y1 y2 y3 y4)) ∧ (∀ y0 y1 y2 y3 y4 y5, LeO (spec_Rune.j0 k y0 y1 y2 y3 y4 y5) (spec_Rune.j0 (k + 1) y0 y1 y2 y3 y4 y5)) ∧ (∀ y0 y1 y2 y3 y4 y5, LeO (spec_Rune.j1 k y0 y1 y2 y3 y4 y5) (spec_Rune.j1 (k + 1) y0 y1 y2 y3 y4 y5))
  | 0 => ⟨fun _ _ _ _ r h => by simp [spec_Rune.j2] at h, fun _ _ _ _ _ r h => by simp [spec_Rune.j3] at h, fun _ _ _ _ _ r h => by simp [spec_Rune.l0] at h, fun _ _ _ _ _ _ r h => by simp [spec_Rune.j0] at h, fun _ _ _ _ _ _ r h => by simp [spec_Rune.j1] at h⟩
  | k + 1 => by
    obtain ⟨ih0, ih1, ih2, ih3, ih4⟩ := spec_Rune.mono_l k
    refine ⟨?_, ?_, ?_, ?_, ?_⟩
    · intro y0 y1 y2 y3
      unfold spec_Rune.j2
      repeat' first
      | (with_reducible exact ih0 _ _ _ _)
      | (with_reducible exact ih1 _ _ _ _ _)
      | (with_reducible exact ih2 _ _ _ _ _)
      | (with_reducible exact ih3 _ _ _ _ _ _)
      | (with_reducible exact ih4 _ _ _ _ _ _)
      | (with_reducible exact LeO.refl _)
      | (with_reducible exact LeO.none _)
      | (with_reducible refine LeO.ite ?_ ?_)
      | (with_reducible refine LeO.bind ?_ (fun _ => ?_))
      | exact ih0 _ _ _ _
      | exact ih1 _ _ _ _ _
      | exact ih2 _ _ _ _ _
      | exact ih3 _ _ _ _ _ _
      | exact ih4 _ _ _ _ _ _
      | exact LeO.none _
      | refine LeO.ite ?_ ?_
      | refine LeO.bind ?_ (fun _ => ?_)
    · intro y0 y1 y2 y3 y4
      unfold spec_Rune.j3
      repeat' first
      | (with_reducible exact ih0 _ _ _ _)
      | (with_reducible exact ih1 _ _ _ _ _)
      | (with_reducible exact ih2 _ _ _ _ _)
      | (with_reducible exact ih3 _ _ _ _ _ _)
      | (with_reducible exact ih4 _ _ _ _ _ _)
      | (with_reducible exact LeO.refl _)
      | (with_reducible exact LeO.none _)
      | (with_reducible refine LeO.ite ?_ ?_)
      | (with_reducible refine LeO.bind ?_ (fun _ => ?_))
      | exact ih0 _ _ _ _
      | exact ih1 _ _ _ _ _
      | exact ih2 _ _ _ _ _
      | exact ih3 _ _ _ _ _ _
      | exact ih4 _ _ _ _ _ _
      | exact LeO.none _
      | refine LeO.ite ?_ ?_
      | refine LeO.bind ?_ (fun _ => ?_)
    · intro y0 y1 y2 y3 y4
      unfold spec_Rune.l0
      repeat' first
      | (with_reducible exact ih0 _ _ _ _)
      | (with_reducible exact ih1 _ _ _ _ _)
      | (with_reducible exact ih2 _ _ _ _ _)
      | (with_reducible exact ih3 _ _ _ _ _ _)
      | (with_reducible exact ih4 _ _ _ _ _ _)
      | (with_reducible exact LeO.refl _)
      | (with_reducible exact LeO.none _)
      | (with_reducible refine LeO.ite ?_ ?_)
      | (with_reducible refine LeO.bind ?_ (fun _ => ?_))
      | exact ih0 _ _ _ _
      | exact ih1 _ _ _ _ _
      | exact ih2 _ _ _ _ _
      | exact ih3 _ _ _ _ _ _
      | exact ih4 _ _ _ _ _ _
      | exact LeO.none _
      | refine LeO.ite ?_ ?_
      | refine LeO.bind ?_ (fun _ => ?_)
    · intro y0 y1 y2 y3 y4 y5
      unfold spec_Rune.j0
      repeat' first
      | (with_reducible exact ih0 _ _ _ _)
      | (with_reducible exact ih1 _ _ _ _ _)
      | (with_reducible exact ih2 _ _ _ _ _)
      | (with_reducible exact ih3 _ _ _ _ _ _)
      | (with_reducible exact ih4 _ _ _ _ _ _)
      | (with_reducible exact LeO.refl _)
      | (with_reducible exact LeO.none _)
      | (with_reducible refine LeO.ite ?_ ?_)
      | (with_reducible refine LeO.bind ?_ (fun _ => ?_))
      | exact ih0 _ _ _ _
      | exact ih1 _ _ _ _ _
      | exact ih2 _ _ _ _ _
      | exact ih3 _ _ _ _ _ _
      | exact ih4 _ _ _ _ _ _
      | exact LeO.none _
      | refine LeO.ite ?_ ?_
      | refine LeO.bind ?_ (fun _ => ?_)
    · intro y0 y1 y2 y3 y4 y5
      unfold spec_Rune.j1
      repeat' first
      | (with_reducible exact ih0 _ _ _ _)
      | (with_reducible exact ih1 _ _ _ _ _)
      | (with_reducible exact ih2 _ _ _ _ _)
      | (with_reducible exact ih3 _ _ _ _ _ _)
      | (with_reducible exact ih4 _ _ _ _ _ _)
      | (with_reducible exact LeO.refl _)
      | (with_reducible exact LeO.none _)
      | (with_reducible refine LeO.ite ?_ ?_)
      | (with_reducible refine LeO.bind ?_ (fun _ => ?_))
      | exact ih0 _ _ _ _
      | exact ih1 _ _ _ _ _
      | exact ih2 _ _ _ _ _
      | exact ih3 _ _ _ _ _ _
      | exact ih4 _ _ _ _ _ _
      | exact LeO.none _
      | refine LeO.ite ?_ ?_
      | refine LeO.bind ?_ (fun _ => ?_)
theorem spec_Rune.mono : ∀ a0 k, LeO (spec_Rune.f k a0) (spec_Rune.f (k + 1) a0) := by
  intro a0 k
  obtain ⟨ih0, ih1, ih2, ih3, ih4⟩ := spec_Rune.mono_l k
  unfold spec_Rune.f
  repeat' first
      | (with_reducible exact ih0 _ _ _ _)
      | (with_reducible exact ih1 _ _ _ _ _)
      | (with_reducible exact ih2 _ _ _ _ _)
      | (with_reducible exact ih3 _ _ _ _ _ _)
      | (with_reducible exact ih4 _ _ _ _ _ _)
      | (with_reducible exact LeO.refl _)
      | (with_reducible exact LeO.none _)
      | (with_reducible refine LeO.ite ?_ ?_)
      | (with_reducible refine LeO.bind ?_ (fun _ => ?_))
      | exact ih0 _ _ _ _
      | exact ih1 _ _ _ _ _
      | exact ih2 _ _ _ _ _
      | exact ih3 _ _ _ _ _ _
      | exact ih4 _ _ _ _ _ _
      | exact LeO.none _
      | refine LeO.ite ?_ ?_
      | refine LeO.bind ?_ (fun _ => ?_)
set_option maxHeartbeats 8000000 in
set_option maxRecDepth 100000 in
theorem spec_Rune.calls (k : Nat) (A0 : Option Addr) (c0 : Nat) (l0 : List Int) (r1 : Int) (r2 : Int) (r3 : Bool) (w : World) (hr0 : Kd.C (Kd.int .u8) w A0 l0.length l0) (hc0 : l0.length ≤ c0) (h : spec_Rune.f k l0 = some (r1, r2, r3)) :
    Calls Tryd.prog 15 #[.slice A0 l0.length c0] w fun e w' => e = .returned (.tuple #[.int .i64 r1, .int .i64 r2, .bool r3]) ∧ Drawn0 w w' := by
  have HR0 := Aside0.mk hr0
  have HC0 := Aside0.mk hc0
  clear hr0 hc0
  have H : (if (l0.length : Int) = 0 then (some (0, 0, false)) else (if 0 < (l0.length : Int) then (if (wrap64 (rd l0 0)) < 128 then (some (wrap64 (rd l0 0), 1, true)) else (if (wrap64 (rd l0 0)) ≥ 194 then (spec_Rune.j0 k l0 (wrap64 (rd l0 0)) 0 0 0 (decide ((wrap64 (rd l0 0)) < 224))) else (spec_Rune.j0 k l0 (wrap64 (rd l0 0)) 0 0 0 false))) else (none))) = some (r1, r2, r3) := h
  clear h
  by_cases c2 : (l0.length : Int) = 0
  · rw [if_pos c2] at H
    have c2b0 : ((l0.length : Int) == 0) = true := beq_iff_eq.mpr c2
    have c2b1 : ((l0.length : Int) != 0) = false := bne_eq_false_iff_eq.mpr c2
    clear c2
    simp only [Option.some.injEq, Prod.mk.injEq] at H
    obtain ⟨rfl, rfl, rfl⟩ := H
    go_enter Tryd.func15, Tryd.ntmps15
    go_wp2
    go_ret3
    exact ⟨by first | rfl | (simp; done) | (simp [*]; done), by repeat (first | exact Drawn0.refl _ | apply Drawn0.step)⟩
  · rw [if_neg c2] at H
    have c2b0 : ((l0.length : Int) == 0) = false := beq_eq_false_iff_ne.mpr c2
    have c2b1 : ((l0.length : Int) != 0) = true := bne_iff_ne.mpr c2
    have c2b2 : ¬ (l0 = []) := fun h_ => c2 (by rw [h_]; rfl)
    by_cases c3 : 0 < (l0.length : Int)
    · rw [if_pos c3] at H
      have c3b0 : decide (0 < (l0.length : Int)) = true := decide_eq_true c3
      have c3b1 : decide (0 < l0.length) = true := decide_eq_true (by omega)
      clear c3
      by_cases c4 : (wrap64 (rd l0 0)) < 128
      · rw [if_pos c4] at H
        have c4b0 : decide ((wrap64 (rd l0 0)) < 128) = true := decide_eq_true c4
        clear c4
        simp only [Option.some.injEq, Prod.mk.injEq] at H
        obtain ⟨rfl, rfl, rfl⟩ := H
        have p181 : 0 ≤ (0 : Int) := (by omega)
        have q181 : 0 < (l0.length : Int) := of_decide_eq_true (by first | (with_reducible assumption) | assumption)
        obtain ⟨ad181, e181, hx181_0⟩ := Kd.at_int HR0.out 0 p181 q181
        cases e181
        have qi181 : (0 < l0.length) = True := eq_true (by omega)
        (try rw [show ((0 : Int)).toNat = 0 from rfl] at hx181_0)
        (try rw [Addr.add_zero'] at hx181_0)
        replace p181 := eq_true p181
        replace q181 := eq_true q181
        go_enter Tryd.func15, Tryd.ntmps15
        go_wp2
        go_ret3
        exact ⟨by first | rfl | (simp; done) | (simp [*]; done), by repeat (first | exact Drawn0.refl _ | apply Drawn0.step)⟩
      · rw [if_neg c4] at H
        have c4b0 : decide ((wrap64 (rd l0 0)) < 128) = false := decide_eq_false c4
        clear c4
        have HC5 := Aside0.mk H
        clear H
        have p181 : 0 ≤ (0 : Int) := (by omega)
        have q181 : 0 < (l0.length : Int) := of_decide_eq_true (by first | (with_reducible assumption) | assumption)
        obtain ⟨ad181, e181, hx181_0⟩ := Kd.at_int HR0.out 0 p181 q181
        cases e181
        have qi181 : (0 < l0.length) = True := eq_true (by omega)
        (try rw [show ((0 : Int)).toNat = 0 from rfl] at hx181_0)
        (try rw [Addr.add_zero'] at hx181_0)
        replace p181 := eq_true p181
        replace q181 := eq_true q181
        go_enter Tryd.func15, Tryd.ntmps15
        go_upto_block 0 with (fail)
        go_cut [6, 7, 8] (fun v6 v7 v8 wc => ∃ (kq : Nat) (x6_4 : Int) (x7_4 : Int) (x8_4 : Int), v6 = .int .i64 x6_4 ∧ v7 = .int .i64 x7_4 ∧ v8 = .int .i64 x8_4 ∧ Aside0 (spec_Rune.j2 kq l0 x6_4 x7_4 x8_4 = some (r1, r2, r3)) ∧ Aside0 (kq ≤ k) ∧ Drawn0 w wc)
        case first =>
          have H := HC5.out
          clear HC5
          have HC6 := Aside0.mk H
          clear H
          go_upto_region 7 with (fail)
          go_cut [20] (fun v20 wc => ∃ (kq : Nat) (x20_5 : Bool), v20 = .bool x20_5 ∧ Aside0 (spec_Rune.j0 kq l0 (wrap64 (rd l0 0)) 0 0 0 x20_5 = some (r1, r2, r3)) ∧ Aside0 (kq ≤ k) ∧ Drawn0 w wc)
          case first =>
            have H := HC6.out
            clear HC6
            by_cases c7 : (wrap64 (rd l0 0)) ≥ 194
            · rw [if_pos c7] at H
              have c7b0 : decide (194 ≤ (wrap64 (rd l0 0))) = true := decide_eq_true c7
              clear c7
              (first | rw [c7b0] | (simp only [i64_w, i32_w]; rw [c7b0]) | skip)
              have H' := Aside0.mk H
              clear H
              go_wp2
              go_meet
              case rel => exact ⟨_, (decide ((wrap64 (rd l0 0)) < 224)), (by first | rfl | (simp; done) | (simp [*]; done)), H', ⟨by first | omega | exact Nat.le_refl _⟩, by repeat (first | exact Drawn0.refl _ | apply Drawn0.step)⟩
            · rw [if_neg c7] at H
              have c7b0 : decide (194 ≤ (wrap64 (rd l0 0))) = false := decide_eq_false c7
              clear c7
              (first | rw [c7b0] | (simp only [i64_w, i32_w]; rw [c7b0]) | skip)
              have H' := Aside0.mk H
              clear H
              go_wp2
              go_meet
              case rel => exact ⟨_, (false), (by first | rfl | (simp; done) | (simp [*]; done)), H', ⟨by first | omega | exact Nat.le_refl _⟩, by repeat (first | exact Drawn0.refl _ | apply Drawn0.step)⟩
          case rest =>
            clear HC6
            try clear c1
            try clear p1
            try clear q1
            try clear hx1
            try clear qi1
            try clear c2
            try clear c2b0
            try clear c2b1
            try clear c2b2
            try clear p2
            try clear c3
            try clear c3b0
            try clear c3b1
            try clear c4
            try clear c4b0
            try clear p6
            try clear c7
            try clear c7b0
            try clear hx181_0
            try clear p181
            try clear q181
            obtain ⟨kq, x20_5, rfl, HA, HJ5, ⟨mc5, rfl⟩⟩ := hcut
            cases kq with
            | zero => exact absurd HA.out (by simp [spec_Rune.j0])
            | succ kj5 =>
              have H := HA.out
              clear HA
              simp only [spec_Rune.j0] at H
              by_cases c8 : x20_5 = true
              · subst c8
                have H1 : (spec_Rune.j2 kj5 l0 2 (Go.bits .and .i64 (wrap64 (rd l0 0)) 31) 128) = some (r1, r2, r3) := by rw [if_pos rfl] at H; exact H
                clear H
                have H := H1
                clear H1
                have H' := Aside0.mk H
                clear H
                go_wp2
                go_meet
                case rel => exact ⟨_, (2), (Go.bits .and .i64 (wrap64 (rd l0 0)) 31), (128), (by first | rfl | (simp; done) | (simp [*]; done)), (by first | rfl | (simp; done) | (simp [*]; done)), (by first | rfl | (simp; done) | (simp [*]; done)), H', ⟨by have := HJ5.out; first | omega | exact Nat.le_refl _⟩, by repeat (first | exact Drawn0.refl _ | apply Drawn0.step)⟩
              · replace c8 := Bool.eq_false_iff.mpr c8
                subst c8
                have H1 : (if (wrap64 (rd l0 0)) ≥ 224 then (spec_Rune.j1 kj5 l0 (wrap64 (rd l0 0)) 0 0 0 (decide ((wrap64 (rd l0 0)) < 240))) else (spec_Rune.j1 kj5 l0 (wrap64 (rd l0 0)) 0 0 0 false)) = some (r1, r2, r3) := by rw [if_neg (show ¬ (false = true) by decide)] at H; exact H
                clear H
                have H := H1
                clear H1
                have HC9 := Aside0.mk H
                clear H
                go_upto_region 9 with (fail)
                go_cut [29] (fun v29 wc => ∃ (kq : Nat) (x29_8 : Bool), v29 = .bool x29_8 ∧ Aside0 (spec_Rune.j1 kq l0 (wrap64 (rd l0 0)) 0 0 0 x29_8 = some (r1, r2, r3)) ∧ Aside0 (kq ≤ kj5) ∧ Drawn0 w wc)
                case first =>
                  have H := HC9.out
                  clear HC9
                  by_cases c10 : (wrap64 (rd l0 0)) ≥ 224
                  · rw [if_pos c10] at H
                    have c10b0 : decide (224 ≤ (wrap64 (rd l0 0))) = true := decide_eq_true c10
                    clear c10
                    (first | rw [c10b0] | (simp only [i64_w, i32_w]; rw [c10b0]) | skip)
                    have H' := Aside0.mk H
                    clear H
                    go_wp2
                    go_meet
                    case rel => exact ⟨_, (decide ((wrap64 (rd l0 0)) < 240)), (by first | rfl | (simp; done) | (simp [*]; done)), H', ⟨by have := HJ5.out; first | omega | exact Nat.le_refl _⟩, by repeat (first | exact Drawn0.refl _ | apply Drawn0.step)⟩
                  · rw [if_neg c10] at H
                    have c10b0 : decide (224 ≤ (wrap64 (rd l0 0))) = false := decide_eq_false c10
                    clear c10
                    (first | rw [c10b0] | (simp only [i64_w, i32_w]; rw [c10b0]) | skip)
                    have H' := Aside0.mk H
                    clear H
                    go_wp2
                    go_meet
                    case rel => exact ⟨_, (false), (by first | rfl | (simp; done) | (simp [*]; done)), H', ⟨by have := HJ5.out; first | omega | exact Nat.le_refl _⟩, by repeat (first | exact Drawn0.refl _ | apply Drawn0.step)⟩
                case rest =>
                  clear HC9
                  try clear c1
                  try clear p1
                  try clear q1
                  try clear hx1
                  try clear qi1
                  try clear c2
                  try clear c2b0
                  try clear c2b1
                  try clear c2b2
                  try clear p2
                  try clear c3
                  try clear c3b0
                  try clear c3b1
                  try clear c4
                  try clear c4b0
                  try clear c5
                  try clear p6
                  try clear c7
                  try clear c7b0
                  try clear c8
                  try clear c10
                  try clear c10b0
                  try clear hx181_0
                  try clear p1
                  try clear p181
                  try clear p2
                  try clear p6
                  try clear q1
                  try clear q181
                  obtain ⟨kq, x29_8, rfl, HA, HJ8, ⟨mc8, rfl⟩⟩ := hcut
                  cases kq with
                  | zero => exact absurd HA.out (by simp [spec_Rune.j1])
                  | succ kj8 =>
                    have H := HA.out
                    clear HA
                    simp only [spec_Rune.j1] at H
                    by_cases c11 : x29_8 = true
                    · subst c11
                      have H1 : (spec_Rune.j2 kj8 l0 3 (Go.bits .and .i64 (wrap64 (rd l0 0)) 15) 2048) = some (r1, r2, r3) := by rw [if_pos rfl] at H; exact H
                      clear H
                      have H := H1
                      clear H1
                      have H' := Aside0.mk H
                      clear H
                      go_wp2
                      go_meet
                      case rel => exact ⟨_, (3), (Go.bits .and .i64 (wrap64 (rd l0 0)) 15), (2048), (by first | rfl | (simp; done) | (simp [*]; done)), (by first | rfl | (simp; done) | (simp [*]; done)), (by first | rfl | (simp; done) | (simp [*]; done)), H', ⟨by have := HJ5.out; have := HJ8.out; first | omega | exact Nat.le_refl _⟩, by repeat (first | exact Drawn0.refl _ | apply Drawn0.step)⟩
                    · replace c11 := Bool.eq_false_iff.mpr c11
                      subst c11
                      have H1 : (if (wrap64 (rd l0 0)) ≥ 240 then (if (wrap64 (rd l0 0)) < 245 then (spec_Rune.j2 kj8 l0 4 (Go.bits .and .i64 (wrap64 (rd l0 0)) 7) 65536) else (spec_Rune.j2 kj8 l0 0 0 0)) else (spec_Rune.j2 kj8 l0 0 0 0)) = some (r1, r2, r3) := by rw [if_neg (show ¬ (false = true) by decide)] at H; exact H
                      clear H
                      have H := H1
                      clear H1
                      by_cases c12 : (wrap64 (rd l0 0)) ≥ 240
                      · rw [if_pos c12] at H
                        have c12b0 : decide (240 ≤ (wrap64 (rd l0 0))) = true := decide_eq_true c12
                        clear c12
                        by_cases c13 : (wrap64 (rd l0 0)) < 245
                        · rw [if_pos c13] at H
                          have c13b0 : decide ((wrap64 (rd l0 0)) < 245) = true := decide_eq_true c13
                          clear c13
                          have H' := Aside0.mk H
                          clear H
                          go_wp2
                          go_meet
                          case rel => exact ⟨_, (4), (Go.bits .and .i64 (wrap64 (rd l0 0)) 7), (65536), (by first | rfl | (simp; done) | (simp [*]; done)), (by first | rfl | (simp; done) | (simp [*]; done)), (by first | rfl | (simp; done) | (simp [*]; done)), H', ⟨by have := HJ5.out; have := HJ8.out; first | omega | exact Nat.le_refl _⟩, by repeat (first | exact Drawn0.refl _ | apply Drawn0.step)⟩
                        · rw [if_neg c13] at H
                          have c13b0 : decide ((wrap64 (rd l0 0)) < 245) = false := decide_eq_false c13
                          clear c13
                          have H' := Aside0.mk H
                          clear H
                          go_wp2
                          go_meet
                          case rel => exact ⟨_, (0), (0), (0), (by first | rfl | (simp; done) | (simp [*]; done)), (by first | rfl | (simp; done) | (simp [*]; done)), (by first | rfl | (simp; done) | (simp [*]; done)), H', ⟨by have := HJ5.out; have := HJ8.out; first | omega | exact Nat.le_refl _⟩, by repeat (first | exact Drawn0.refl _ | apply Drawn0.step)⟩
                      · rw [if_neg c12] at H
                        have c12b0 : decide (240 ≤ (wrap64 (rd l0 0))) = false := decide_eq_false c12
                        clear c12
                        have H' := Aside0.mk H
                        clear H
                        go_wp2
                        go_meet
                        case rel => exact ⟨_, (0), (0), (0), (by first | rfl | (simp; done) | (simp [*]; done)), (by first | rfl | (simp; done) | (simp [*]; done)), (by first | rfl | (simp; done) | (simp [*]; done)), H', ⟨by have := HJ5.out; have := HJ8.out; first | omega | exact Nat.le_refl _⟩, by repeat (first | exact Drawn0.refl _ | apply Drawn0.step)⟩
        case rest =>
          clear HC5
          try clear c1
          try clear p1
          try clear q1
          try clear hx1
          try clear qi1
          try clear c2
          try clear c2b0
          try clear c2b1
          try clear c2b2
          try clear p2
          try clear c3
          try clear c3b0
          try clear c3b1
          try clear c4
          try clear c4b0
          try clear c5
          try clear p6
          try clear c7
          try clear c7b0
          try clear c8
          try clear c10
          try clear c10b0
          try clear c11
          try clear c12
          try clear c12b0
          try clear c13
          try clear c13b0
          try clear hx181_0
          try clear p1
          try clear p181
          try clear p2
          try clear p6
          try clear q1
          try clear q181
          obtain ⟨kq, x6_4, x7_4, x8_4, rfl, rfl, rfl, HA, HJ4, ⟨mc4, rfl⟩⟩ := hcut
          cases kq with
          | zero => exact absurd HA.out (by simp [spec_Rune.j2])
          | succ kj4 =>
            have H := HA.out
            clear HA
            simp only [spec_Rune.j2] at H
            have HC14 := Aside0.mk H
            clear H
            go_upto_region 13 with (fail)
            go_cut [54] (fun v54 wc => ∃ (kq : Nat) (x54_13 : Bool), v54 = .bool x54_13 ∧ Aside0 (spec_Rune.j3 kq l0 x6_4 x7_4 x8_4 x54_13 = some (r1, r2, r3)) ∧ Aside0 (kq ≤ kj4) ∧ Drawn0 w wc)
            case first =>
              have H := HC14.out
              clear HC14
              by_cases c15 : x6_4 = 0
              · rw [if_pos c15] at H
                have c15b0 : (x6_4 == 0) = true := beq_iff_eq.mpr c15
                have c15b1 : (x6_4 != 0) = false := bne_eq_false_iff_eq.mpr c15
                clear c15
                (first | rw [c15b0] | (simp only [i64_w, i32_w]; rw [c15b0]) | skip)
                have H' := Aside0.mk H
                clear H
                go_wp2
                go_meet
                case rel => exact ⟨_, (true), (by first | rfl | (simp; done) | (simp [*]; done)), H', ⟨by have := HJ4.out; first | omega | exact Nat.le_refl _⟩, by repeat (first | exact Drawn0.refl _ | apply Drawn0.step)⟩
              · rw [if_neg c15] at H
                have c15b0 : (x6_4 == 0) = false := beq_eq_false_iff_ne.mpr c15
                have c15b1 : (x6_4 != 0) = true := bne_iff_ne.mpr c15
                (first | rw [c15b0] | (simp only [i64_w, i32_w]; rw [c15b0]) | skip)
                have H' := Aside0.mk H
                clear H
                go_wp2
                go_meet
                case rel => exact ⟨_, (decide ((l0.length : Int) < x6_4)), (by first | rfl | (simp; done) | (simp [*]; done)), H', ⟨by have := HJ4.out; first | omega | exact Nat.le_refl _⟩, by repeat (first | exact Drawn0.refl _ | apply Drawn0.step)⟩
            case rest =>
              clear HC14
              try clear c1
              try clear p1
              try clear q1
              try clear hx1
              try clear qi1
              try clear c2
              try clear c2b0
              try clear c2b1
              try clear c2b2
              try clear p2
              try clear c3
              try clear c3b0
              try clear c3b1
              try clear c4
              try clear c4b0
              try clear c5
              try clear p6
              try clear c7
              try clear c7b0
              try clear c8
              try clear c10
              try clear c10b0
              try clear c11
              try clear c12
              try clear c12b0
              try clear c13
              try clear c13b0
              try clear c15
              try clear c15b0
              try clear c15b1
              try clear hx181_0
              try clear p1
              try clear p181
              try clear p2
              try clear p6
              try clear q1
              try clear q181
              obtain ⟨kq, x54_13, rfl, HA, HJ13, ⟨mc13, rfl⟩⟩ := hcut
              cases kq with
              | zero => exact absurd HA.out (by simp [spec_Rune.j3])
              | succ kj13 =>
                have H := HA.out
                clear HA
                simp only [spec_Rune.j3] at H
                by_cases c16 : x54_13 = true
                · subst c16
                  have H1 : (some (0, 1, false)) = some (r1, r2, r3) := by rw [if_pos rfl] at H; exact H
                  clear H
                  have H := H1
                  clear H1
                  simp only [Option.some.injEq, Prod.mk.injEq] at H
                  obtain ⟨rfl, rfl, rfl⟩ := H
                  go_wp2
                  go_ret3
                  exact ⟨by first | rfl | (simp; done) | (simp [*]; done), by repeat (first | exact Drawn0.refl _ | apply Drawn0.step)⟩
                · replace c16 := Bool.eq_false_iff.mpr c16
                  subst c16
                  have H1 : (spec_Rune.l0 kj13 l0 x6_4 x7_4 x8_4 1) = some (r1, r2, r3) := by rw [if_neg (show ¬ (false = true) by decide)] at H; exact H
                  clear H
                  have H := H1
                  clear H1
                  have H' := Aside0.mk H
                  clear H
                  go_wp2
                  go_loopg [7, 9] kj13 (fun kq v7 v9 w' => ∃ (x7_3 : Int) (x9_3 : Int), v7 = .int .i64 x7_3 ∧ v9 = .int .i64 x9_3 ∧ Aside0 (spec_Rune.l0 kq l0 x6_4 x7_3 x8_4 x9_3 = some (r1, r2, r3)) ∧ Aside0 (kq ≤ kj13) ∧ Drawn0 w w')
                  case atStart => exact ⟨(x7_4), (1), (by first | rfl | (simp; done) | (simp [*]; done)), (by first | rfl | (simp; done) | (simp [*]; done)), H', ⟨Nat.le_refl _⟩, by repeat (first | exact Drawn0.refl _ | apply Drawn0.step)⟩
                  case round =>
                    clear H'
                    try clear c1
                    try clear p1
                    try clear q1
                    try clear hx1
                    try clear qi1
                    try clear c2
                    try clear c2b0
                    try clear c2b1
                    try clear c2b2
                    try clear p2
                    try clear c3
                    try clear c3b0
                    try clear c3b1
                    try clear c4
                    try clear c4b0
                    try clear c5
                    try clear p6
                    try clear c7
                    try clear c7b0
                    try clear c8
                    try clear c10
                    try clear c10b0
                    try clear c11
                    try clear c12
                    try clear c12b0
                    try clear c13
                    try clear c13b0
                    try clear c15
                    try clear c15b0
                    try clear c15b1
                    try clear c16
                    try clear hx181_0
                    try clear p1
                    try clear p181
                    try clear p2
                    try clear p6
                    try clear q1
                    try clear q181
                    obtain ⟨x7_3, x9_3, rfl, rfl, HA, HK3, ⟨m3, rfl⟩⟩ := hrel
                    cases gk with
                    | zero => exact absurd HA.out (by simp [spec_Rune.l0])
                    | succ k3 =>
                      have H := HA.out
                      clear HA
                      simp only [spec_Rune.l0] at H
                      by_cases c17 : x9_3 < x6_4
                      · rw [if_pos c17] at H
                        have c17b0 : decide (x9_3 < x6_4) = true := decide_eq_true c17
                        clear c17
                        by_cases c18 : 0 ≤ x9_3
                        · rw [if_pos c18] at H
                          have c18b0 : decide (0 ≤ x9_3) = true := decide_eq_true c18
                          clear c18
                          by_cases c19 : x9_3 < (l0.length : Int)
                          · rw [if_pos c19] at H
                            have c19b0 : decide (x9_3 < (l0.length : Int)) = true := decide_eq_true c19
                            clear c19
                            by_cases c20 : (Go.bits .and .u8 (rd l0 x9_3) 192) = 128
                            · rw [if_pos c20] at H
                              have c20b0 : ((Go.bits .and .u8 (rd l0 x9_3) 192) == 128) = true := beq_iff_eq.mpr c20
                              have c20b1 : ((Go.bits .and .u8 (rd l0 x9_3) 192) != 128) = false := bne_eq_false_iff_eq.mpr c20
                              clear c20
                              have H' := Aside0.mk H
                              clear H
                              have p182 : 0 ≤ (x9_3 : Int) := of_decide_eq_true (by first | (with_reducible assumption) | assumption)
                              have q182 : x9_3 < (l0.length : Int) := of_decide_eq_true (by first | (with_reducible assumption) | assumption)
                              obtain ⟨ad182, e182, hx182_0⟩ := Kd.at_int HR0.out x9_3 p182 q182
                              obtain rfl : ad181 = ad182 := (by injection e182)
                              replace p182 := eq_true p182
                              replace q182 := eq_true q182
                              have p183 : 0 ≤ (x9_3 : Int) := of_decide_eq_true (by first | (with_reducible assumption) | assumption)
                              have q183 : x9_3 < (l0.length : Int) := of_decide_eq_true (by first | (with_reducible assumption) | assumption)
                              obtain ⟨ad183, e183, hx183_0⟩ := Kd.at_int HR0.out x9_3 p183 q183
                              obtain rfl : ad181 = ad183 := (by injection e183)
                              replace p183 := eq_true p183
                              replace q183 := eq_true q183
                              go_wp2
                              go_roundg k3
                              case measure => have := HJ4.out; have := HJ13.out; have := HK3.out; omega
                              case rel => exact ⟨(Go.bits .or .i64 (wrap64 (x7_3 * 64)) (wrap64 (Go.bits .and .u8 (rd l0 x9_3) 63))), (wrap64 (x9_3 + 1)), (by first | rfl | (simp; done) | (simp [*]; done)), (by first | rfl | (simp; done) | (simp [*]; done)), H', ⟨by have := HJ4.out; have := HJ13.out; have := HK3.out; omega⟩, by repeat (first | exact Drawn0.refl _ | apply Drawn0.step)⟩
                            · rw [if_neg c20] at H
                              have c20b0 : ((Go.bits .and .u8 (rd l0 x9_3) 192) == 128) = false := beq_eq_false_iff_ne.mpr c20
                              have c20b1 : ((Go.bits .and .u8 (rd l0 x9_3) 192) != 128) = true := bne_iff_ne.mpr c20
                              simp only [Option.some.injEq, Prod.mk.injEq] at H
                              obtain ⟨rfl, rfl, rfl⟩ := H
                              have p182 : 0 ≤ (x9_3 : Int) := of_decide_eq_true (by first | (with_reducible assumption) | assumption)
                              have q182 : x9_3 < (l0.length : Int) := of_decide_eq_true (by first | (with_reducible assumption) | assumption)
                              obtain ⟨ad182, e182, hx182_0⟩ := Kd.at_int HR0.out x9_3 p182 q182
                              obtain rfl : ad181 = ad182 := (by injection e182)
                              replace p182 := eq_true p182
                              replace q182 := eq_true q182
                              go_wp2
                              go_ret3
                              exact ⟨by first | rfl | (simp; done) | (simp [*]; done), by repeat (first | exact Drawn0.refl _ | apply Drawn0.step)⟩
                          · rw [if_neg c19] at H
                            exact absurd H (by simp)
                        · rw [if_neg c18] at H
                          exact absurd H (by simp)
                      · rw [if_neg c17] at H
                        have c17b0 : decide (x9_3 < x6_4) = false := decide_eq_false c17
                        clear c17
                        by_cases c21 : x7_3 ≥ x8_4
                        · rw [if_pos c21] at H
                          have c21b0 : decide (x8_4 ≤ x7_3) = true := decide_eq_true c21
                          clear c21
                          by_cases c22 : x7_3 ≤ 1114111
                          · rw [if_pos c22] at H
                            have c22b0 : decide (x7_3 ≤ 1114111) = true := decide_eq_true c22
                            clear c22
                            by_cases c23 : x7_3 < 55296
                            · rw [if_pos c23] at H
                              have c23b0 : decide (x7_3 < 55296) = true := decide_eq_true c23
                              clear c23
                              simp only [Option.some.injEq, Prod.mk.injEq] at H
                              obtain ⟨rfl, rfl, rfl⟩ := H
                              go_wp2
                              go_ret3
                              exact ⟨by first | rfl | (simp; done) | (simp [*]; done), by repeat (first | exact Drawn0.refl _ | apply Drawn0.step)⟩
                            · rw [if_neg c23] at H
                              have c23b0 : decide (x7_3 < 55296) = false := decide_eq_false c23
                              clear c23
                              simp only [Option.some.injEq, Prod.mk.injEq] at H
                              obtain ⟨rfl, rfl, rfl⟩ := H
                              go_wp2
                              go_ret3
                              exact ⟨by first | rfl | (simp; done) | (simp [*]; done), by repeat (first | exact Drawn0.refl _ | apply Drawn0.step)⟩
                          · rw [if_neg c22] at H
                            have c22b0 : decide (x7_3 ≤ 1114111) = false := decide_eq_false c22
                            clear c22
                            simp only [Option.some.injEq, Prod.mk.injEq] at H
                            obtain ⟨rfl, rfl, rfl⟩ := H
                            go_wp2
                            go_ret3
                            exact ⟨by first | rfl | (simp; done) | (simp [*]; done), by repeat (first | exact Drawn0.refl _ | apply Drawn0.step)⟩
                        · rw [if_neg c21] at H
                          have c21b0 : decide (x8_4 ≤ x7_3) = false := decide_eq_false c21
                          clear c21
                          simp only [Option.some.injEq, Prod.mk.injEq] at H
                          obtain ⟨rfl, rfl, rfl⟩ := H
                          go_wp2
                          go_ret3
                          exact ⟨by first | rfl | (simp; done) | (simp [*]; done), by repeat (first | exact Drawn0.refl _ | apply Drawn0.step)⟩
    · rw [if_neg c3] at H
      exact absurd H (by simp)

end Go.Proofs.YtmiemfgcggkbnaaDoor.QT
