-- Written by a program of this work (wip/patch_print.py) for this claim.
import Derived.Test.YtapnkngcnlomhaaQBx0
import Derived.Test.YtapnkngcnlomhaaQBx1
namespace Go.Proofs.Ytapnkngcnlomhaa.QB
open Go.RowKit Go.Proofs.YtapnkngcnlomhaaW.PrintWords Go.Proofs.YtapnkngcnlomhaaW.PrintLast Go.Proofs.YtapnkngcnlomhaaW.PrintMore
attribute [local go_sem] max2_int min2_int max_two min_two max_three min_three max_four min_four   -- for this text's walks alone
set_option linter.unusedVariables false
set_option linter.unusedSimpArgs false

/-! ### laws_FnReadBits: function 5 -/
mutual
def laws_FnReadBits.j0 : Nat → List Int → Bool → Option (Bool)
  | 0, _, _ => none
  | k + 1, x0, x3 => if x3 = true then (laws_FnReadBits.j1 k x0 x3 (decide ((x0.length : Int) > 1))) else (laws_FnReadBits.j1 k x0 x3 false)
def laws_FnReadBits.j1 : Nat → List Int → Bool → Bool → Option (Bool)
  | 0, _, _, _ => none
  | k + 1, x0, x3, x41 => if x41 = true then (if 0 ≤ (wrap64 ((x0.length : Int) - 1)) then (if (wrap64 ((x0.length : Int) - 1)) < (x0.length : Int) then (if 0 < (x0.length : Int) then (if 0 ≤ (rd x0 0) then ((impl_ReadBits.f x0).bind fun bt108 => ((impl_ReadBits.f (([2, 64] : List Int))).bind fun bt116 => (if (bt108.2.2 == ((Go.bits .and .u8 (rd x0 (wrap64 ((x0.length : Int) - 1))) (((shl .u8 1 (rd x0 0)) - 1) % 256)) == 0)) = true then (if ((Go.bits .and .u8 (rd x0 (wrap64 ((x0.length : Int) - 1))) (((shl .u8 1 (rd x0 0)) - 1) % 256)) = 0) then (if 1 ≤ (x0.length : Int) then ((bytes_Equal.f bt108.1 (x0.drop 1)).bind fun t122 => (if t122 = true then (if bt108.2.1 = (wrap64 ((wrap64 (8 * (wrap64 ((x0.length : Int) - 1)))) - (wrap64 (rd x0 0)))) then (if bt116.2.2 = true then (some (bt116.2.1 == 6)) else (some false)) else (some false)) else (some false))) else (none)) else (if bt116.2.2 = true then (some (bt116.2.1 == 6)) else (some false))) else (some false)))) else (none)) else (none)) else (none)) else (none)) else ((impl_ReadBits.f x0).bind fun bt124 => ((impl_ReadBits.f (([2, 64] : List Int))).bind fun bt132 => (if (bt124.2.2 == x3) = true then (if x3 = true then (if 1 ≤ (x0.length : Int) then ((bytes_Equal.f bt124.1 (x0.drop 1)).bind fun t138 => (if t138 = true then (if 0 < (x0.length : Int) then (if bt124.2.1 = (wrap64 ((wrap64 (8 * (wrap64 ((x0.length : Int) - 1)))) - (wrap64 (rd x0 0)))) then (if bt132.2.2 = true then (some (bt132.2.1 == 6)) else (some false)) else (some false)) else (none)) else (some false))) else (none)) else (if bt132.2.2 = true then (some (bt132.2.1 == 6)) else (some false))) else (some false))))
end
def laws_FnReadBits.f (k : Nat) (l0 : List Int) : Option (Bool) := if (l0.length : Int) > 2147483647 then (some true) else (if (l0.length : Int) > 100 then (some true) else (if (l0.length : Int) > 0 then (if 0 < (l0.length : Int) then (if (rd l0 0) ≤ 7 then (if (l0.length : Int) > 1 then (laws_FnReadBits.j0 k l0 true) else (laws_FnReadBits.j0 k l0 ((rd l0 0) == 0))) else (laws_FnReadBits.j0 k l0 false)) else (none)) else (laws_FnReadBits.j0 k l0 false)))
theorem laws_FnReadBits.mono_l : ∀ k, (∀ y0 y1, LeO (laws_FnReadBits.j0 k y0 y1) (laws_FnReadBits.j0 (k + 1) y0 y1)) ∧ (∀ y0 y1 y2, LeO (laws_FnReadBits.j1 k y0 y1 y2) (laws_FnReadBits.j1 (k + 1) y0 y1 y2))
  | 0 => ⟨fun _ _ r h => by simp [laws_FnReadBits.j0] at h, fun _ _ _ r h => by simp [laws_FnReadBits.j1] at h⟩
  | k + 1 => by
    obtain ⟨ih0, ih1⟩ := laws_FnReadBits.mono_l k
    refine ⟨?_, ?_⟩
    · intro y0 y1
      unfold laws_FnReadBits.j0
      repeat' first
      | (with_reducible exact ih0 _ _)
      | (with_reducible exact ih1 _ _ _)
      | (with_reducible exact LeO.refl _)
      | (with_reducible exact LeO.none _)
      | (with_reducible refine LeO.ite ?_ ?_)
      | (with_reducible refine LeO.bind ?_ (fun _ => ?_))
      | exact ih0 _ _
      | exact ih1 _ _ _
      | exact LeO.none _
      | refine LeO.ite ?_ ?_
      | refine LeO.bind ?_ (fun _ => ?_)
    · intro y0 y1 y2
      unfold laws_FnReadBits.j1
      repeat' first
      | (with_reducible exact ih0 _ _)
      | (with_reducible exact ih1 _ _ _)
      | (with_reducible exact LeO.refl _)
      | (with_reducible exact LeO.none _)
      | (with_reducible refine LeO.ite ?_ ?_)
      | (with_reducible refine LeO.bind ?_ (fun _ => ?_))
      | exact ih0 _ _
      | exact ih1 _ _ _
      | exact LeO.none _
      | refine LeO.ite ?_ ?_
      | refine LeO.bind ?_ (fun _ => ?_)
theorem laws_FnReadBits.mono : ∀ a0 k, LeO (laws_FnReadBits.f k a0) (laws_FnReadBits.f (k + 1) a0) := by
  intro a0 k
  obtain ⟨ih0, ih1⟩ := laws_FnReadBits.mono_l k
  unfold laws_FnReadBits.f
  repeat' first
      | (with_reducible exact ih0 _ _)
      | (with_reducible exact ih1 _ _ _)
      | (with_reducible exact LeO.refl _)
      | (with_reducible exact LeO.none _)
      | (with_reducible refine LeO.ite ?_ ?_)
      | (with_reducible refine LeO.bind ?_ (fun _ => ?_))
      | exact ih0 _ _
      | exact ih1 _ _ _
      | exact LeO.none _
      | refine LeO.ite ?_ ?_
      | refine LeO.bind ?_ (fun _ => ?_)
set_option maxHeartbeats 8000000 in
set_option maxRecDepth 100000 in
theorem laws_FnReadBits.calls (k : Nat) (A0 : Option Addr) (c0 : Nat) (l0 : List Int) (r : Bool) (w : World) (hr0 : Kd.C (Kd.int .u8) w A0 l0.length l0) (hc0 : l0.length ≤ c0) (h : laws_FnReadBits.f k l0 = some r) (hrt : r = true) :
    Calls Try.prog 5 #[.slice A0 l0.length c0] w fun e w' => e = .returned (.bool r) ∧ Below w.heap.size w w' := by
  have HR0 := Aside0.mk hr0
  have HC0 := Aside0.mk hc0
  clear hr0 hc0
  have HB := Aside0.mk (Below.refl w.heap.size w)
  have HRT := Aside0.mk hrt
  clear hrt
  have H : (if (l0.length : Int) > 2147483647 then (some true) else (if (l0.length : Int) > 100 then (some true) else (if (l0.length : Int) > 0 then (if 0 < (l0.length : Int) then (if (rd l0 0) ≤ 7 then (if (l0.length : Int) > 1 then (laws_FnReadBits.j0 k l0 true) else (laws_FnReadBits.j0 k l0 ((rd l0 0) == 0))) else (laws_FnReadBits.j0 k l0 false)) else (none)) else (laws_FnReadBits.j0 k l0 false)))) = some r := h
  clear h
  by_cases c2 : (l0.length : Int) > 2147483647
  · rw [if_pos c2] at H
    have c2b0 : decide (2147483647 < (l0.length : Int)) = true := decide_eq_true c2
    have c2b1 : decide (2147483647 < l0.length) = true := decide_eq_true (by omega)
    clear c2
    obtain rfl := Option.some.inj H
    go_enter Try.func5, Try.ntmps5
    go_wp2
    repeat (go_quiet (fail); try go_wp2)
    go_ret
    exact ⟨by first | rfl | (simp [errW_none, errW_some] <;> rfl) | (simp [*, errW_none, errW_some] <;> rfl), by repeat (first | (with_reducible first | exact HB.out | apply below_alloc | apply pw_below_drewN | apply below_drew1) | exact HB.out)⟩
  · rw [if_neg c2] at H
    have c2b0 : decide (2147483647 < (l0.length : Int)) = false := decide_eq_false c2
    have c2b1 : decide (2147483647 < l0.length) = false := decide_eq_false (by omega)
    clear c2
    by_cases c3 : (l0.length : Int) > 100
    · rw [if_pos c3] at H
      have c3b0 : decide (100 < (l0.length : Int)) = true := decide_eq_true c3
      have c3b1 : decide (100 < l0.length) = true := decide_eq_true (by omega)
      clear c3
      obtain rfl := Option.some.inj H
      go_enter Try.func5, Try.ntmps5
      go_wp2
      repeat (go_quiet (fail); try go_wp2)
      go_ret
      exact ⟨by first | rfl | (simp [errW_none, errW_some] <;> rfl) | (simp [*, errW_none, errW_some] <;> rfl), by repeat (first | (with_reducible first | exact HB.out | apply below_alloc | apply pw_below_drewN | apply below_drew1) | exact HB.out)⟩
    · rw [if_neg c3] at H
      have c3b0 : decide (100 < (l0.length : Int)) = false := decide_eq_false c3
      have c3b1 : decide (100 < l0.length) = false := decide_eq_false (by omega)
      clear c3
      have HC4 := Aside0.mk H
      clear H
      go_enter Try.func5, Try.ntmps5
      go_upto_region 5 with (fail)
      repeat (go_quiet (fail); go_upto_region 5 with (fail))
      go_cut [3] (fun v3 wc => ∃ (kq : Nat) (x3_3 : Bool), v3 = .bool x3_3 ∧ Aside0 (laws_FnReadBits.j0 kq l0 x3_3 = some r) ∧ Aside0 (kq ≤ k) ∧ Aside0 (Below w.heap.size w wc))
      case first =>
        have H := HC4.out
        clear HC4
        by_cases c5 : (l0.length : Int) > 0
        · rw [if_pos c5] at H
          have c5b0 : decide (0 < (l0.length : Int)) = true := decide_eq_true c5
          have c5b1 : decide (0 < l0.length) = true := decide_eq_true (by omega)
          clear c5
          (first | rw [c5b0] | (simp only [i64_w, i32_w]; rw [c5b0]) | skip)
          by_cases c6 : 0 < (l0.length : Int)
          · rw [if_pos c6] at H
            have c6b0 : decide (0 < (l0.length : Int)) = true := decide_eq_true c6
            have c6b1 : decide (0 < l0.length) = true := decide_eq_true (by omega)
            clear c6
            by_cases c7 : (rd l0 0) ≤ 7
            · rw [if_pos c7] at H
              have c7b0 : decide ((rd l0 0) ≤ 7) = true := decide_eq_true c7
              clear c7
              by_cases c8 : (l0.length : Int) > 1
              · rw [if_pos c8] at H
                have c8b0 : decide (1 < (l0.length : Int)) = true := decide_eq_true c8
                have c8b1 : decide (1 < l0.length) = true := decide_eq_true (by omega)
                clear c8
                have H' := Aside0.mk H
                clear H
                have p104 : 0 ≤ (0 : Int) := (by omega)
                have q104 : 0 < (l0.length : Int) := of_decide_eq_true (by first | (with_reducible assumption) | assumption)
                obtain ⟨ad104, e104, hx104_0⟩ := Kd.at_int HR0.out 0 p104 q104
                cases e104
                have qi104 : (0 < l0.length) = True := eq_true (by omega)
                (try rw [show ((0 : Int)).toNat = 0 from rfl] at hx104_0)
                (try rw [Addr.add_zero'] at hx104_0)
                replace hx104_0 := (HB.out.cell (World.block_lt_of_cell? w _ hx104_0)).trans hx104_0
                replace p104 := eq_true p104
                replace q104 := eq_true q104
                go_wp2
                repeat (go_quiet (fail); try go_wp2)
                go_meet
                case rel => exact ⟨_, (true), (by first | rfl | (simp; done) | (simp [*]; done)), H', ⟨by first | omega | exact Nat.le_refl _⟩, ⟨by repeat (first | (with_reducible first | exact HB.out | apply below_alloc | apply pw_below_drewN | apply below_drew1) | exact HB.out)⟩⟩
              · rw [if_neg c8] at H
                have c8b0 : decide (1 < (l0.length : Int)) = false := decide_eq_false c8
                have c8b1 : decide (1 < l0.length) = false := decide_eq_false (by omega)
                clear c8
                have H' := Aside0.mk H
                clear H
                have p104 : 0 ≤ (0 : Int) := (by omega)
                have q104 : 0 < (l0.length : Int) := of_decide_eq_true (by first | (with_reducible assumption) | assumption)
                obtain ⟨ad104, e104, hx104_0⟩ := Kd.at_int HR0.out 0 p104 q104
                cases e104
                have qi104 : (0 < l0.length) = True := eq_true (by omega)
                (try rw [show ((0 : Int)).toNat = 0 from rfl] at hx104_0)
                (try rw [Addr.add_zero'] at hx104_0)
                replace hx104_0 := (HB.out.cell (World.block_lt_of_cell? w _ hx104_0)).trans hx104_0
                replace p104 := eq_true p104
                replace q104 := eq_true q104
                have p105 : 0 ≤ (0 : Int) := (by omega)
                have q105 : 0 < (l0.length : Int) := of_decide_eq_true (by first | (with_reducible assumption) | assumption)
                obtain ⟨ad105, e105, hx105_0⟩ := Kd.at_int HR0.out 0 p105 q105
                obtain rfl : ad104 = ad105 := (by injection e105)
                have qi105 : (0 < l0.length) = True := eq_true (by omega)
                (try rw [show ((0 : Int)).toNat = 0 from rfl] at hx105_0)
                (try rw [Addr.add_zero'] at hx105_0)
                replace hx105_0 := (HB.out.cell (World.block_lt_of_cell? w _ hx105_0)).trans hx105_0
                replace p105 := eq_true p105
                replace q105 := eq_true q105
                go_wp2
                repeat (go_quiet (fail); try go_wp2)
                go_meet
                case rel => exact ⟨_, (((rd l0 0) == 0)), (by first | rfl | (simp; done) | (simp [*]; done)), H', ⟨by first | omega | exact Nat.le_refl _⟩, ⟨by repeat (first | (with_reducible first | exact HB.out | apply below_alloc | apply pw_below_drewN | apply below_drew1) | exact HB.out)⟩⟩
            · rw [if_neg c7] at H
              have c7b0 : decide ((rd l0 0) ≤ 7) = false := decide_eq_false c7
              clear c7
              have H' := Aside0.mk H
              clear H
              have p104 : 0 ≤ (0 : Int) := (by omega)
              have q104 : 0 < (l0.length : Int) := of_decide_eq_true (by first | (with_reducible assumption) | assumption)
              obtain ⟨ad104, e104, hx104_0⟩ := Kd.at_int HR0.out 0 p104 q104
              cases e104
              have qi104 : (0 < l0.length) = True := eq_true (by omega)
              (try rw [show ((0 : Int)).toNat = 0 from rfl] at hx104_0)
              (try rw [Addr.add_zero'] at hx104_0)
              replace hx104_0 := (HB.out.cell (World.block_lt_of_cell? w _ hx104_0)).trans hx104_0
              replace p104 := eq_true p104
              replace q104 := eq_true q104
              go_wp2
              repeat (go_quiet (fail); try go_wp2)
              go_meet
              case rel => exact ⟨_, (false), (by first | rfl | (simp; done) | (simp [*]; done)), H', ⟨by first | omega | exact Nat.le_refl _⟩, ⟨by repeat (first | (with_reducible first | exact HB.out | apply below_alloc | apply pw_below_drewN | apply below_drew1) | exact HB.out)⟩⟩
          · rw [if_neg c6] at H
            exact absurd H (by simp)
        · rw [if_neg c5] at H
          have c5b0 : decide (0 < (l0.length : Int)) = false := decide_eq_false c5
          have c5b1 : decide (0 < l0.length) = false := decide_eq_false (by omega)
          clear c5
          (first | rw [c5b0] | (simp only [i64_w, i32_w]; rw [c5b0]) | skip)
          have H' := Aside0.mk H
          clear H
          go_wp2
          repeat (go_quiet (fail); try go_wp2)
          go_meet
          case rel => exact ⟨_, (false), (by first | rfl | (simp; done) | (simp [*]; done)), H', ⟨by first | omega | exact Nat.le_refl _⟩, ⟨by repeat (first | (with_reducible first | exact HB.out | apply below_alloc | apply pw_below_drewN | apply below_drew1) | exact HB.out)⟩⟩
      case rest =>
        clear HC4
        try clear p1
        try clear q1
        try clear hx1
        try clear qi1
        try clear c2
        try clear c2b0
        try clear c2b1
        try clear p2
        try clear c3
        try clear c3b0
        try clear c3b1
        try clear c5
        try clear c5b0
        try clear c5b1
        try clear c6
        try clear c6b0
        try clear c6b1
        try clear c7
        try clear c7b0
        try clear c8
        try clear c8b0
        try clear c8b1
        try clear hx104_0
        try clear hx105_0
        try clear p104
        try clear p105
        try clear q104
        try clear q105
        obtain ⟨kq, x3_3, rfl, HA, HJ3, HB⟩ := hcut
        cases kq with
        | zero => exact absurd HA.out (by simp [laws_FnReadBits.j0])
        | succ kj3 =>
          have H := HA.out
          clear HA
          simp only [laws_FnReadBits.j0] at H
          have HC9 := Aside0.mk H
          clear H
          go_upto_region 6 with (fail)
          repeat (go_quiet (fail); go_upto_region 6 with (fail))
          go_cut [41] (fun v41 wc => ∃ (kq : Nat) (x41_8 : Bool), v41 = .bool x41_8 ∧ Aside0 (laws_FnReadBits.j1 kq l0 x3_3 x41_8 = some r) ∧ Aside0 (kq ≤ kj3) ∧ Aside0 (Below w.heap.size w wc))
          case first =>
            have H := HC9.out
            clear HC9
            by_cases c10 : x3_3 = true
            · subst c10
              have H1 : (laws_FnReadBits.j1 kj3 l0 true (decide ((l0.length : Int) > 1))) = some r := by rw [if_pos rfl] at H; exact H
              clear H
              have H := H1
              clear H1
              have H' := Aside0.mk H
              clear H
              go_wp2
              repeat (go_quiet (fail); try go_wp2)
              go_meet
              case rel => exact ⟨_, (decide ((l0.length : Int) > 1)), (by first | rfl | (simp; done) | (simp [*]; done)), H', ⟨by have := HJ3.out; first | omega | exact Nat.le_refl _⟩, ⟨by repeat (first | (with_reducible first | exact HB.out | apply below_alloc | apply pw_below_drewN | apply below_drew1) | exact HB.out)⟩⟩
            · replace c10 := Bool.eq_false_iff.mpr c10
              subst c10
              have H1 : (laws_FnReadBits.j1 kj3 l0 false false) = some r := by rw [if_neg (show ¬ (false = true) by decide)] at H; exact H
              clear H
              have H := H1
              clear H1
              have H' := Aside0.mk H
              clear H
              go_wp2
              repeat (go_quiet (fail); try go_wp2)
              go_meet
              case rel => exact ⟨_, (false), (by first | rfl | (simp; done) | (simp [*]; done)), H', ⟨by have := HJ3.out; first | omega | exact Nat.le_refl _⟩, ⟨by repeat (first | (with_reducible first | exact HB.out | apply below_alloc | apply pw_below_drewN | apply below_drew1) | exact HB.out)⟩⟩
          case rest =>
            clear HC9
            try clear c1
            try clear p1
            try clear q1
            try clear hx1
            try clear qi1
            try clear c2
            try clear c2b0
            try clear c2b1
            try clear p2
            try clear c3
            try clear c3b0
            try clear c3b1
            try clear c5
            try clear c5b0
            try clear c5b1
            try clear c6
            try clear c6b0
            try clear c6b1
            try clear c7
            try clear c7b0
            try clear c8
            try clear c8b0
            try clear c8b1
            try clear c10
            try clear p10
            try clear q10
            try clear hx10
            try clear qi10
            try clear hx104_0
            try clear hx105_0
            try clear p1
            try clear p104
            try clear p105
            try clear p2
            try clear q1
            try clear q104
            try clear q105
            obtain ⟨kq, x41_8, rfl, HA, HJ8, HB⟩ := hcut
            cases kq with
            | zero => exact absurd HA.out (by simp [laws_FnReadBits.j1])
            | succ kj8 =>
              have H := HA.out
              clear HA
              simp only [laws_FnReadBits.j1] at H
              by_cases c11 : x41_8 = true
              · subst c11
                have H1 : (if 0 ≤ (wrap64 ((l0.length : Int) - 1)) then (if (wrap64 ((l0.length : Int) - 1)) < (l0.length : Int) then (if 0 < (l0.length : Int) then (if 0 ≤ (rd l0 0) then ((impl_ReadBits.f l0).bind fun bt108 => ((impl_ReadBits.f (([2, 64] : List Int))).bind fun bt116 => (if (bt108.2.2 == ((Go.bits .and .u8 (rd l0 (wrap64 ((l0.length : Int) - 1))) (((shl .u8 1 (rd l0 0)) - 1) % 256)) == 0)) = true then (if ((Go.bits .and .u8 (rd l0 (wrap64 ((l0.length : Int) - 1))) (((shl .u8 1 (rd l0 0)) - 1) % 256)) = 0) then (if 1 ≤ (l0.length : Int) then ((bytes_Equal.f bt108.1 (l0.drop 1)).bind fun t122 => (if t122 = true then (if bt108.2.1 = (wrap64 ((wrap64 (8 * (wrap64 ((l0.length : Int) - 1)))) - (wrap64 (rd l0 0)))) then (if bt116.2.2 = true then (some (bt116.2.1 == 6)) else (some false)) else (some false)) else (some false))) else (none)) else (if bt116.2.2 = true then (some (bt116.2.1 == 6)) else (some false))) else (some false)))) else (none)) else (none)) else (none)) else (none)) = some r := by rw [if_pos rfl] at H; exact H
                clear H
                have H := H1
                clear H1
                obtain ⟨ji12, hji12⟩ : ∃ j_ : Int, (wrap64 ((l0.length : Int) - 1)) = j_ := ⟨_, rfl⟩
                replace H : (if 0 ≤ (ji12) then (if (ji12) < (l0.length : Int) then (if 0 < (l0.length : Int) then (if 0 ≤ (rd l0 0) then ((impl_ReadBits.f l0).bind fun bt108 => ((impl_ReadBits.f (([2, 64] : List Int))).bind fun bt116 => (if (bt108.2.2 == ((Go.bits .and .u8 (rd l0 (ji12)) (((shl .u8 1 (rd l0 0)) - 1) % 256)) == 0)) = true then (if ((Go.bits .and .u8 (rd l0 (ji12)) (((shl .u8 1 (rd l0 0)) - 1) % 256)) = 0) then (if 1 ≤ (l0.length : Int) then ((bytes_Equal.f bt108.1 (l0.drop 1)).bind fun t122 => (if t122 = true then (if bt108.2.1 = (wrap64 ((wrap64 (8 * (ji12))) - (wrap64 (rd l0 0)))) then (if bt116.2.2 = true then (some (bt116.2.1 == 6)) else (some false)) else (some false)) else (some false))) else (none)) else (if bt116.2.2 = true then (some (bt116.2.1 == 6)) else (some false))) else (some false)))) else (none)) else (none)) else (none)) else (none)) = some r := by first | (rw [hji12] at H; exact H) | (simp only [hji12] at H ⊢; exact H)
                have hji12w : (IntKind.i64.wrap ((l0.length : Int) - 1)) = ji12 := (i64_w _).trans hji12
                by_cases c13 : 0 ≤ (ji12)
                · rw [if_pos c13] at H
                  have c13b0 : decide (0 ≤ (ji12)) = true := decide_eq_true c13
                  clear c13
                  by_cases c14 : (ji12) < (l0.length : Int)
                  · rw [if_pos c14] at H
                    have c14b0 : decide ((ji12) < (l0.length : Int)) = true := decide_eq_true c14
                    clear c14
                    by_cases c15 : 0 < (l0.length : Int)
                    · rw [if_pos c15] at H
                      have c15b0 : decide (0 < (l0.length : Int)) = true := decide_eq_true c15
                      have c15b1 : decide (0 < l0.length) = true := decide_eq_true (by omega)
                      clear c15
                      by_cases c16 : 0 ≤ (rd l0 0)
                      · rw [if_pos c16] at H
                        have c16b0 := eq_true c16
                        have c16b1 : decide (0 ≤ (rd l0 0)) = true := decide_eq_true c16
                        clear c16
                        obtain ⟨ji17, hji17⟩ : ∃ j_ : Int, (shl .u8 1 (rd l0 0)) = j_ := ⟨_, rfl⟩
                        replace H : ((impl_ReadBits.f l0).bind fun bt108 => ((impl_ReadBits.f (([2, 64] : List Int))).bind fun bt116 => (if (bt108.2.2 == ((Go.bits .and .u8 (rd l0 (ji12)) (((ji17) - 1) % 256)) == 0)) = true then (if ((Go.bits .and .u8 (rd l0 (ji12)) (((ji17) - 1) % 256)) = 0) then (if 1 ≤ (l0.length : Int) then ((bytes_Equal.f bt108.1 (l0.drop 1)).bind fun t122 => (if t122 = true then (if bt108.2.1 = (wrap64 ((wrap64 (8 * (ji12))) - (wrap64 (rd l0 0)))) then (if bt116.2.2 = true then (some (bt116.2.1 == 6)) else (some false)) else (some false)) else (some false))) else (none)) else (if bt116.2.2 = true then (some (bt116.2.1 == 6)) else (some false))) else (some false)))) = some r := by first | (rw [hji17] at H; exact H) | (simp only [hji17] at H ⊢; exact H)
                        have hji17_ : (IntKind.u8.wrap (1 * 2 ^ min (rd l0 0).toNat 8)) = ji17 := hji17
                        have hji17z : (rd l0 0) ≤ 8 → (IntKind.u8.wrap (1 * 2 ^ (rd l0 0).toNat)) = ji17 := shl_small hji17
                        have hji17u : (IntKind.u8.wrap (2 ^ min (rd l0 0).toNat 8)) = ji17 := by have h_ := hji17_; rw [Int.one_mul] at h_; exact h_
                        have hji17v : (rd l0 0) ≤ 8 → (IntKind.u8.wrap (2 ^ (rd l0 0).toNat)) = ji17 := fun hle_ => by have h_ := hji17z hle_; rw [Int.one_mul] at h_; exact h_
                        replace H := Option.bind_eq_some_iff.mp H
                        obtain ⟨⟨t108, t109, t110⟩, A180, H⟩ := H
                        replace H : ((impl_ReadBits.f (([2, 64] : List Int))).bind fun bt116 => (if (t110 == ((Go.bits .and .u8 (rd l0 (ji12)) (((ji17) - 1) % 256)) == 0)) = true then (if ((Go.bits .and .u8 (rd l0 (ji12)) (((ji17) - 1) % 256)) = 0) then (if 1 ≤ (l0.length : Int) then ((bytes_Equal.f t108 (l0.drop 1)).bind fun t122 => (if t122 = true then (if t109 = (wrap64 ((wrap64 (8 * (ji12))) - (wrap64 (rd l0 0)))) then (if bt116.2.2 = true then (some (bt116.2.1 == 6)) else (some false)) else (some false)) else (some false))) else (none)) else (if bt116.2.2 = true then (some (bt116.2.1 == 6)) else (some false))) else (some false))) = some r := H
                        have A18 := Aside0.mk A180
                        clear A180
                        obtain ⟨y113, hy113⟩ : ∃ y_ : List Int, y_ = (([2, 64] : List Int)) := ⟨_, rfl⟩
                        replace H : ((impl_ReadBits.f y113).bind fun bt116 => (if (t110 == ((Go.bits .and .u8 (rd l0 (ji12)) (((ji17) - 1) % 256)) == 0)) = true then (if ((Go.bits .and .u8 (rd l0 (ji12)) (((ji17) - 1) % 256)) = 0) then (if 1 ≤ (l0.length : Int) then ((bytes_Equal.f t108 (l0.drop 1)).bind fun t122 => (if t122 = true then (if t109 = (wrap64 ((wrap64 (8 * (ji12))) - (wrap64 (rd l0 0)))) then (if bt116.2.2 = true then (some (bt116.2.1 == 6)) else (some false)) else (some false)) else (some false))) else (none)) else (if bt116.2.2 = true then (some (bt116.2.1 == 6)) else (some false))) else (some false))) = some r := by first | (rw [hy113]; with_reducible exact H) | (have H2_ := (Option.bind_some _ _).symm.trans H; rw [hy113]; with_reducible exact H2_) | (have H2_ := (Option.bind_some _ _).symm.trans H; with_reducible exact H2_) | with_reducible exact H | (rw [hy113]; exact H) | exact H
                        have Ny113 := Aside0.mk hy113
                        clear hy113
                        replace H := Option.bind_eq_some_iff.mp H
                        obtain ⟨⟨t116, t117, t118⟩, A190, H⟩ := H
                        replace H : (if (t110 == ((Go.bits .and .u8 (rd l0 (ji12)) (((ji17) - 1) % 256)) == 0)) = true then (if ((Go.bits .and .u8 (rd l0 (ji12)) (((ji17) - 1) % 256)) = 0) then (if 1 ≤ (l0.length : Int) then ((bytes_Equal.f t108 (l0.drop 1)).bind fun t122 => (if t122 = true then (if t109 = (wrap64 ((wrap64 (8 * (ji12))) - (wrap64 (rd l0 0)))) then (if t118 = true then (some (t117 == 6)) else (some false)) else (some false)) else (some false))) else (none)) else (if t118 = true then (some (t117 == 6)) else (some false))) else (some false)) = some r := H
                        have A19 := Aside0.mk A190
                        clear A190
                        by_cases c20 : (t110 == ((Go.bits .and .u8 (rd l0 (ji12)) (((ji17) - 1) % 256)) == 0)) = true
                        · rw [if_pos c20] at H
                          have c20b0 : (t110 == ((Go.bits .and .u8 (rd l0 (ji12)) (((ji17) - 1) % 256)) == 0)) = true := c20
                          (try (have c20b1 : t110 = ((Go.bits .and .u8 (rd l0 (ji12)) (((ji17) - 1) % 256)) == 0) := bool_eq_of _ _ (by simpa using c20)))
                          (try (have c20b2 : decide (t110 = ((Go.bits .and .u8 (rd l0 (ji12)) (((ji17) - 1) % 256)) == 0)) = true := by simpa using c20))
                          (try (have c20b3 : (t110 == ((Go.bits .and .u8 (rd l0 (ji12)) (((ji17) - 1) % 256)) == 0)) = true := by simpa using c20))
                          clear c20
                          by_cases c21 : ((Go.bits .and .u8 (rd l0 (ji12)) (((ji17) - 1) % 256)) = 0)
                          · rw [if_pos c21] at H
                            have c21b0 : ((Go.bits .and .u8 (rd l0 (ji12)) (((ji17) - 1) % 256)) == 0) = true := beq_iff_eq.mpr c21
                            have c21b1 : ((Go.bits .and .u8 (rd l0 (ji12)) (((ji17) - 1) % 256)) != 0) = false := bne_eq_false_iff_eq.mpr c21
                            clear c21
                            by_cases c22 : 1 ≤ (l0.length : Int)
                            · rw [if_pos c22] at H
                              have c22b0 := eq_true c22
                              have c22b1 : decide (1 ≤ (l0.length : Int)) = true := decide_eq_true c22
                              clear c22
                              replace H := Option.bind_eq_some_iff.mp H
                              obtain ⟨t122, A230, H⟩ := H
                              replace H : (if t122 = true then (if t109 = (wrap64 ((wrap64 (8 * (ji12))) - (wrap64 (rd l0 0)))) then (if t118 = true then (some (t117 == 6)) else (some false)) else (some false)) else (some false)) = some r := H
                              have A23 := Aside0.mk A230
                              clear A230
                              by_cases c24 : t122 = true
                              · subst c24
                                have H1 : (if t109 = (wrap64 ((wrap64 (8 * (ji12))) - (wrap64 (rd l0 0)))) then (if t118 = true then (some (t117 == 6)) else (some false)) else (some false)) = some r := by rw [if_pos rfl] at H; exact H
                                clear H
                                have H := H1
                                clear H1
                                by_cases c25 : t109 = (wrap64 ((wrap64 (8 * (ji12))) - (wrap64 (rd l0 0))))
                                · rw [if_pos c25] at H
                                  have c25b0 : (t109 == (wrap64 ((wrap64 (8 * (ji12))) - (wrap64 (rd l0 0))))) = true := beq_iff_eq.mpr c25
                                  have c25b1 : (t109 != (wrap64 ((wrap64 (8 * (ji12))) - (wrap64 (rd l0 0))))) = false := bne_eq_false_iff_eq.mpr c25
                                  clear c25
                                  by_cases c26 : t118 = true
                                  · subst c26
                                    have H1 : (some (t117 == 6)) = some r := by rw [if_pos rfl] at H; exact H
                                    clear H
                                    have H := H1
                                    clear H1
                                    obtain rfl := Option.some.inj H
                                    have p106 : 0 ≤ ((ji12) : Int) := of_decide_eq_true (by first | (with_reducible assumption) | assumption)
                                    have q106 : (ji12) < (l0.length : Int) := of_decide_eq_true (by first | (with_reducible assumption) | assumption)
                                    obtain ⟨ad106, e106, hx106_0⟩ := Kd.at_int HR0.out (ji12) p106 q106
                                    cases e106
                                    replace hx106_0 := (HB.out.cell (World.block_lt_of_cell? w _ hx106_0)).trans hx106_0
                                    replace p106 := eq_true p106
                                    replace q106 := eq_true q106
                                    have p107 : 0 ≤ (0 : Int) := (by omega)
                                    have q107 : 0 < (l0.length : Int) := of_decide_eq_true (by first | (with_reducible assumption) | assumption)
                                    obtain ⟨ad107, e107, hx107_0⟩ := Kd.at_int HR0.out 0 p107 q107
                                    obtain rfl : ad106 = ad107 := (by injection e107)
                                    have qi107 : (0 < l0.length) = True := eq_true (by omega)
                                    (try rw [show ((0 : Int)).toNat = 0 from rfl] at hx107_0)
                                    (try rw [Addr.add_zero'] at hx107_0)
                                    replace hx107_0 := (HB.out.cell (World.block_lt_of_cell? w _ hx107_0)).trans hx107_0
                                    replace p107 := eq_true p107
                                    replace q107 := eq_true q107
                                    go_wp2_with (first | (go_at_call 17; (with_reducible refine (impl_ReadBits.calls _ _ l0 t108 t109 t110 _ ?side1 ?side2 A18.out).mono ?_); (case side1 => repeat (first | exact (Kd.C_below HR0.out HB.out) | (with_reducible refine Kd.C_alloc ?_ _) | (with_reducible refine Kd.C_drewN ?_ _) | (with_reducible refine Kd.C_drew ?_))); (case side2 => exact HC0.out); rintro e w27 ⟨v111, rfl, ho0, hb⟩; have n0_ := Aside0.mk (Kd.Q_lower ho0 (below_size (by repeat (first | (with_reducible first | exact HB.out | apply below_alloc | apply pw_below_drewN | apply below_drew1) | exact HB.out)))); have n1_ := Aside0.mk (below_step (by repeat (first | (with_reducible first | exact HB.out | apply below_alloc | apply pw_below_drewN | apply below_drew1) | exact HB.out)) hb); clear HB; have HO112 := n0_; have HB := n1_; clear n0_ n1_; (try clear hb); (try clear hb2); (try clear hk); (try clear hi); (try clear ho0)) | ((with_reducible refine gate_dst (N := 62) rfl ?_); (try (refine gate_guard (by rfl) ?_; dsimp only)); refine Kd.R_lit (Kd.int .u8) _ 5 ?hg (N := 62) ?hd (xs := ([2, 64] : List Int)) (inner := [.int .u8 2, .int .u8 64]) (ok := fun _ => True) (okp := fun _ => True) ?hr ?hp (fun _ hk => hk) trivial (Below.refl _ _) (Nat.le_refl _) (by simp) ?_; (case hd => rfl); (case hg => rfl); (case hr => first | (go_simp; done) | (go_simp; rfl)); (case hp => exact (Reps.one (show Kd.M (Kd.int .u8) _ _ _ 2 [.int .u8 2] from rfl) (Reps.one (show Kd.M (Kd.int .u8) _ _ _ 64 [.int .u8 64] from rfl) (Reps.none _ _)))); intro v114 w28 ho29 hb hg_ hnew_; clear hg_ hnew_; (first | rw [← Ny113.out] at ho29 | (simp only [Int.reduceToNat] at ho29; rw [← Ny113.out] at ho29)); have n0_ := Aside0.mk (Kd.Q_elder' (by (with_reducible repeat (first | apply Kd.Q_alloc | apply Kd.Q_drewN | apply Kd.Q_drew)); exact HO112.out) (Kd.R_base ho29) hb); have n1_ := Aside0.mk (Kd.R_lower (Kd.R_new' ho29 (Kd.Q_lt (by (with_reducible repeat (first | apply Kd.Q_alloc | apply Kd.Q_drewN | apply Kd.Q_drew)); exact HO112.out))) (below_size (by repeat (first | (with_reducible first | exact HB.out | apply below_alloc | apply pw_below_drewN | apply below_drew1) | exact HB.out)))); have n2_ := Aside0.mk (below_step (by repeat (first | (with_reducible first | exact HB.out | apply below_alloc | apply pw_below_drewN | apply below_drew1) | exact HB.out)) hb); clear HO112; clear HB; have HO112 := n0_; have HO115 := n1_; have HB := n2_; clear n0_ n1_ n2_; clear hb ho29; obtain ⟨Ao30, co30, eo30⟩ := Kd.R_slice HO115.out; subst eo30) | (go_at_call 17; (with_reducible refine (impl_ReadBits.calls _ _ y113 t116 t117 true _ ?side1 ?side2 A19.out).mono ?_); (case side1 => repeat (first | exact (Kd.R_reads' HO115.out).2.2 | (with_reducible refine Kd.C_alloc ?_ _) | (with_reducible refine Kd.C_drewN ?_ _) | (with_reducible refine Kd.C_drew ?_))); (case side2 => exact (Kd.R_reads' HO115.out).2.1); rintro e w31 ⟨v119, rfl, ho0, hb⟩; have n0_ := Aside0.mk (Kd.Q_elder' (by (with_reducible repeat (first | apply Kd.Q_alloc | apply Kd.Q_drewN | apply Kd.Q_drew)); exact HO112.out) (Kd.Q_base ho0) hb); have n1_ := Aside0.mk (Kd.R_elder' (by (with_reducible repeat (first | apply Kd.R_alloc | apply Kd.R_drewN | apply Kd.R_drew)); exact HO115.out) (Kd.Q_base ho0) hb); have n2_ := Aside0.mk (Kd.Q_lower (Kd.Q_new' (Kd.Q_new' ho0 (Kd.Q_lt (by (with_reducible repeat (first | apply Kd.Q_alloc | apply Kd.Q_drewN | apply Kd.Q_drew)); exact HO112.out))) (Kd.R_lt (by (with_reducible repeat (first | apply Kd.R_alloc | apply Kd.R_drewN | apply Kd.R_drew)); exact HO115.out))) (below_size (by repeat (first | (with_reducible first | exact HB.out | apply below_alloc | apply pw_below_drewN | apply below_drew1) | exact HB.out)))); have n3_ := Aside0.mk (below_step (by repeat (first | (with_reducible first | exact HB.out | apply below_alloc | apply pw_below_drewN | apply below_drew1) | exact HB.out)) hb); clear HO112; clear HO115; clear HB; have HO112 := n0_; have HO115 := n1_; have HO120 := n2_; have HB := n3_; clear n0_ n1_ n2_ n3_; (try clear hb); (try clear hb2); (try clear hk); (try clear hi); (try clear ho0); obtain ⟨i032, hi032, _, hsz32, _⟩ := info_parts info5; obtain ⟨A32, hcut32, hA32, hC32⟩ := print_drop_of (P := Try.prog) (Value.int .u8) 0 22 5 .i64 Try.underlying22 hi032 hsz32 (some ad106) c0 l0 1 (by omega) (of_decide_eq_true (by first | (with_reducible assumption) | assumption)) HC0.out; have HR121 := Aside0.mk (Kd.C_of_reads (h1 := fun _ => rfl) (hA32 _ (Kd.reads_of_C HR0.out))); have HC121 := Aside0.mk hC32; clear hA32 hC32 hi032 hsz32; obtain ⟨Ao33, co33, eo33, _⟩ := Kd.Q_slice HO112.out; subst eo33) | (go_at_call 18; (rw [show l0.length - 1 = (l0.drop 1).length from (List.length_drop ..).symm]); (with_reducible refine (bytes_Equal.calls _ _ t108 _ _ (l0.drop 1) true _ ?side1 ?side2 ?side3 ?side4 A23.out).mono ?_); (case side1 => repeat (first | exact (Kd.Q_reads' HO112.out).2.2 | (with_reducible refine Kd.C_alloc ?_ _) | (with_reducible refine Kd.C_drewN ?_ _) | (with_reducible refine Kd.C_drew ?_))); (case side2 => exact (Kd.Q_reads' HO112.out).2.1); (case side3 => repeat (first | exact (Kd.C_below HR121.out HB.out) | (with_reducible refine Kd.C_alloc ?_ _) | (with_reducible refine Kd.C_drewN ?_ _) | (with_reducible refine Kd.C_drew ?_))); (case side4 => exact HC121.out); rintro e w' ⟨rfl, ⟨nd, rfl⟩⟩; (try first | exact ⟨rfl, _, World.drewN_drewN _ _ _⟩ | exact ⟨rfl, _, Eq.trans (World.drewN_drewN _ _ _) (congrArg (World.drewN _) (Nat.add_assoc _ _ _))⟩); have p123 : 0 ≤ (0 : Int) := (by omega); have q123 : 0 < (l0.length : Int) := of_decide_eq_true (by first | (with_reducible assumption) | assumption); obtain ⟨ad123, e123, hx123_0⟩ := Kd.at_int HR0.out 0 p123 q123; obtain rfl : ad106 = ad123 := (by injection e123); have qi123 : (0 < l0.length) = True := eq_true (by omega); (try rw [show ((0 : Int)).toNat = 0 from rfl] at hx123_0); (try rw [Addr.add_zero'] at hx123_0); replace hx123_0 := (HB.out.cell (World.block_lt_of_cell? w _ hx123_0)).trans hx123_0; replace p123 := eq_true p123; replace q123 := eq_true q123))
                                    repeat (go_quiet (first | (go_at_call 17; (with_reducible refine (impl_ReadBits.calls _ _ l0 t108 t109 t110 _ ?side1 ?side2 A18.out).mono ?_); (case side1 => repeat (first | exact (Kd.C_below HR0.out HB.out) | (with_reducible refine Kd.C_alloc ?_ _) | (with_reducible refine Kd.C_drewN ?_ _) | (with_reducible refine Kd.C_drew ?_))); (case side2 => exact HC0.out); rintro e w27 ⟨v111, rfl, ho0, hb⟩; have n0_ := Aside0.mk (Kd.Q_lower ho0 (below_size (by repeat (first | (with_reducible first | exact HB.out | apply below_alloc | apply pw_below_drewN | apply below_drew1) | exact HB.out)))); have n1_ := Aside0.mk (below_step (by repeat (first | (with_reducible first | exact HB.out | apply below_alloc | apply pw_below_drewN | apply below_drew1) | exact HB.out)) hb); clear HB; have HO112 := n0_; have HB := n1_; clear n0_ n1_; (try clear hb); (try clear hb2); (try clear hk); (try clear hi); (try clear ho0)) | ((with_reducible refine gate_dst (N := 62) rfl ?_); (try (refine gate_guard (by rfl) ?_; dsimp only)); refine Kd.R_lit (Kd.int .u8) _ 5 ?hg (N := 62) ?hd (xs := ([2, 64] : List Int)) (inner := [.int .u8 2, .int .u8 64]) (ok := fun _ => True) (okp := fun _ => True) ?hr ?hp (fun _ hk => hk) trivial (Below.refl _ _) (Nat.le_refl _) (by simp) ?_; (case hd => rfl); (case hg => rfl); (case hr => first | (go_simp; done) | (go_simp; rfl)); (case hp => exact (Reps.one (show Kd.M (Kd.int .u8) _ _ _ 2 [.int .u8 2] from rfl) (Reps.one (show Kd.M (Kd.int .u8) _ _ _ 64 [.int .u8 64] from rfl) (Reps.none _ _)))); intro v114 w28 ho29 hb hg_ hnew_; clear hg_ hnew_; (first | rw [← Ny113.out] at ho29 | (simp only [Int.reduceToNat] at ho29; rw [← Ny113.out] at ho29)); have n0_ := Aside0.mk (Kd.Q_elder' (by (with_reducible repeat (first | apply Kd.Q_alloc | apply Kd.Q_drewN | apply Kd.Q_drew)); exact HO112.out) (Kd.R_base ho29) hb); have n1_ := Aside0.mk (Kd.R_lower (Kd.R_new' ho29 (Kd.Q_lt (by (with_reducible repeat (first | apply Kd.Q_alloc | apply Kd.Q_drewN | apply Kd.Q_drew)); exact HO112.out))) (below_size (by repeat (first | (with_reducible first | exact HB.out | apply below_alloc | apply pw_below_drewN | apply below_drew1) | exact HB.out)))); have n2_ := Aside0.mk (below_step (by repeat (first | (with_reducible first | exact HB.out | apply below_alloc | apply pw_below_drewN | apply below_drew1) | exact HB.out)) hb); clear HO112; clear HB; have HO112 := n0_; have HO115 := n1_; have HB := n2_; clear n0_ n1_ n2_; clear hb ho29; obtain ⟨Ao30, co30, eo30⟩ := Kd.R_slice HO115.out; subst eo30) | (go_at_call 17; (with_reducible refine (impl_ReadBits.calls _ _ y113 t116 t117 true _ ?side1 ?side2 A19.out).mono ?_); (case side1 => repeat (first | exact (Kd.R_reads' HO115.out).2.2 | (with_reducible refine Kd.C_alloc ?_ _) | (with_reducible refine Kd.C_drewN ?_ _) | (with_reducible refine Kd.C_drew ?_))); (case side2 => exact (Kd.R_reads' HO115.out).2.1); rintro e w31 ⟨v119, rfl, ho0, hb⟩; have n0_ := Aside0.mk (Kd.Q_elder' (by (with_reducible repeat (first | apply Kd.Q_alloc | apply Kd.Q_drewN | apply Kd.Q_drew)); exact HO112.out) (Kd.Q_base ho0) hb); have n1_ := Aside0.mk (Kd.R_elder' (by (with_reducible repeat (first | apply Kd.R_alloc | apply Kd.R_drewN | apply Kd.R_drew)); exact HO115.out) (Kd.Q_base ho0) hb); have n2_ := Aside0.mk (Kd.Q_lower (Kd.Q_new' (Kd.Q_new' ho0 (Kd.Q_lt (by (with_reducible repeat (first | apply Kd.Q_alloc | apply Kd.Q_drewN | apply Kd.Q_drew)); exact HO112.out))) (Kd.R_lt (by (with_reducible repeat (first | apply Kd.R_alloc | apply Kd.R_drewN | apply Kd.R_drew)); exact HO115.out))) (below_size (by repeat (first | (with_reducible first | exact HB.out | apply below_alloc | apply pw_below_drewN | apply below_drew1) | exact HB.out)))); have n3_ := Aside0.mk (below_step (by repeat (first | (with_reducible first | exact HB.out | apply below_alloc | apply pw_below_drewN | apply below_drew1) | exact HB.out)) hb); clear HO112; clear HO115; clear HB; have HO112 := n0_; have HO115 := n1_; have HO120 := n2_; have HB := n3_; clear n0_ n1_ n2_ n3_; (try clear hb); (try clear hb2); (try clear hk); (try clear hi); (try clear ho0); obtain ⟨i032, hi032, _, hsz32, _⟩ := info_parts info5; obtain ⟨A32, hcut32, hA32, hC32⟩ := print_drop_of (P := Try.prog) (Value.int .u8) 0 22 5 .i64 Try.underlying22 hi032 hsz32 (some ad106) c0 l0 1 (by omega) (of_decide_eq_true (by first | (with_reducible assumption) | assumption)) HC0.out; have HR121 := Aside0.mk (Kd.C_of_reads (h1 := fun _ => rfl) (hA32 _ (Kd.reads_of_C HR0.out))); have HC121 := Aside0.mk hC32; clear hA32 hC32 hi032 hsz32; obtain ⟨Ao33, co33, eo33, _⟩ := Kd.Q_slice HO112.out; subst eo33) | (go_at_call 18; (rw [show l0.length - 1 = (l0.drop 1).length from (List.length_drop ..).symm]); (with_reducible refine (bytes_Equal.calls _ _ t108 _ _ (l0.drop 1) true _ ?side1 ?side2 ?side3 ?side4 A23.out).mono ?_); (case side1 => repeat (first | exact (Kd.Q_reads' HO112.out).2.2 | (with_reducible refine Kd.C_alloc ?_ _) | (with_reducible refine Kd.C_drewN ?_ _) | (with_reducible refine Kd.C_drew ?_))); (case side2 => exact (Kd.Q_reads' HO112.out).2.1); (case side3 => repeat (first | exact (Kd.C_below HR121.out HB.out) | (with_reducible refine Kd.C_alloc ?_ _) | (with_reducible refine Kd.C_drewN ?_ _) | (with_reducible refine Kd.C_drew ?_))); (case side4 => exact HC121.out); rintro e w' ⟨rfl, ⟨nd, rfl⟩⟩; (try first | exact ⟨rfl, _, World.drewN_drewN _ _ _⟩ | exact ⟨rfl, _, Eq.trans (World.drewN_drewN _ _ _) (congrArg (World.drewN _) (Nat.add_assoc _ _ _))⟩); have p123 : 0 ≤ (0 : Int) := (by omega); have q123 : 0 < (l0.length : Int) := of_decide_eq_true (by first | (with_reducible assumption) | assumption); obtain ⟨ad123, e123, hx123_0⟩ := Kd.at_int HR0.out 0 p123 q123; obtain rfl : ad106 = ad123 := (by injection e123); have qi123 : (0 < l0.length) = True := eq_true (by omega); (try rw [show ((0 : Int)).toNat = 0 from rfl] at hx123_0); (try rw [Addr.add_zero'] at hx123_0); replace hx123_0 := (HB.out.cell (World.block_lt_of_cell? w _ hx123_0)).trans hx123_0; replace p123 := eq_true p123; replace q123 := eq_true q123)); try go_wp2_with (first | (go_at_call 17; (with_reducible refine (impl_ReadBits.calls _ _ l0 t108 t109 t110 _ ?side1 ?side2 A18.out).mono ?_); (case side1 => repeat (first | exact (Kd.C_below HR0.out HB.out) | (with_reducible refine Kd.C_alloc ?_ _) | (with_reducible refine Kd.C_drewN ?_ _) | (with_reducible refine Kd.C_drew ?_))); (case side2 => exact HC0.out); rintro e w27 ⟨v111, rfl, ho0, hb⟩; have n0_ := Aside0.mk (Kd.Q_lower ho0 (below_size (by repeat (first | (with_reducible first | exact HB.out | apply below_alloc | apply pw_below_drewN | apply below_drew1) | exact HB.out)))); have n1_ := Aside0.mk (below_step (by repeat (first | (with_reducible first | exact HB.out | apply below_alloc | apply pw_below_drewN | apply below_drew1) | exact HB.out)) hb); clear HB; have HO112 := n0_; have HB := n1_; clear n0_ n1_; (try clear hb); (try clear hb2); (try clear hk); (try clear hi); (try clear ho0)) | ((with_reducible refine gate_dst (N := 62) rfl ?_); (try (refine gate_guard (by rfl) ?_; dsimp only)); refine Kd.R_lit (Kd.int .u8) _ 5 ?hg (N := 62) ?hd (xs := ([2, 64] : List Int)) (inner := [.int .u8 2, .int .u8 64]) (ok := fun _ => True) (okp := fun _ => True) ?hr ?hp (fun _ hk => hk) trivial (Below.refl _ _) (Nat.le_refl _) (by simp) ?_; (case hd => rfl); (case hg => rfl); (case hr => first | (go_simp; done) | (go_simp; rfl)); (case hp => exact (Reps.one (show Kd.M (Kd.int .u8) _ _ _ 2 [.int .u8 2] from rfl) (Reps.one (show Kd.M (Kd.int .u8) _ _ _ 64 [.int .u8 64] from rfl) (Reps.none _ _)))); intro v114 w28 ho29 hb hg_ hnew_; clear hg_ hnew_; (first | rw [← Ny113.out] at ho29 | (simp only [Int.reduceToNat] at ho29; rw [← Ny113.out] at ho29)); have n0_ := Aside0.mk (Kd.Q_elder' (by (with_reducible repeat (first | apply Kd.Q_alloc | apply Kd.Q_drewN | apply Kd.Q_drew)); exact HO112.out) (Kd.R_base ho29) hb); have n1_ := Aside0.mk (Kd.R_lower (Kd.R_new' ho29 (Kd.Q_lt (by (with_reducible repeat (first | apply Kd.Q_alloc | apply Kd.Q_drewN | apply Kd.Q_drew)); exact HO112.out))) (below_size (by repeat (first | (with_reducible first | exact HB.out | apply below_alloc | apply pw_below_drewN | apply below_drew1) | exact HB.out)))); have n2_ := Aside0.mk (below_step (by repeat (first | (with_reducible first | exact HB.out | apply below_alloc | apply pw_below_drewN | apply below_drew1) | exact HB.out)) hb); clear HO112; clear HB; have HO112 := n0_; have HO115 := n1_; have HB := n2_; clear n0_ n1_ n2_; clear hb ho29; obtain ⟨Ao30, co30, eo30⟩ := Kd.R_slice HO115.out; subst eo30) | (go_at_call 17; (with_reducible refine (impl_ReadBits.calls _ _ y113 t116 t117 true _ ?side1 ?side2 A19.out).mono ?_); (case side1 => repeat (first | exact (Kd.R_reads' HO115.out).2.2 | (with_reducible refine Kd.C_alloc ?_ _) | (with_reducible refine Kd.C_drewN ?_ _) | (with_reducible refine Kd.C_drew ?_))); (case side2 => exact (Kd.R_reads' HO115.out).2.1); rintro e w31 ⟨v119, rfl, ho0, hb⟩; have n0_ := Aside0.mk (Kd.Q_elder' (by (with_reducible repeat (first | apply Kd.Q_alloc | apply Kd.Q_drewN | apply Kd.Q_drew)); exact HO112.out) (Kd.Q_base ho0) hb); have n1_ := Aside0.mk (Kd.R_elder' (by (with_reducible repeat (first | apply Kd.R_alloc | apply Kd.R_drewN | apply Kd.R_drew)); exact HO115.out) (Kd.Q_base ho0) hb); have n2_ := Aside0.mk (Kd.Q_lower (Kd.Q_new' (Kd.Q_new' ho0 (Kd.Q_lt (by (with_reducible repeat (first | apply Kd.Q_alloc | apply Kd.Q_drewN | apply Kd.Q_drew)); exact HO112.out))) (Kd.R_lt (by (with_reducible repeat (first | apply Kd.R_alloc | apply Kd.R_drewN | apply Kd.R_drew)); exact HO115.out))) (below_size (by repeat (first | (with_reducible first | exact HB.out | apply below_alloc | apply pw_below_drewN | apply below_drew1) | exact HB.out)))); have n3_ := Aside0.mk (below_step (by repeat (first | (with_reducible first | exact HB.out | apply below_alloc | apply pw_below_drewN | apply below_drew1) | exact HB.out)) hb); clear HO112; clear HO115; clear HB; have HO112 := n0_; have HO115 := n1_; have HO120 := n2_; have HB := n3_; clear n0_ n1_ n2_ n3_; (try clear hb); (try clear hb2); (try clear hk); (try clear hi); (try clear ho0); obtain ⟨i032, hi032, _, hsz32, _⟩ := info_parts info5; obtain ⟨A32, hcut32, hA32, hC32⟩ := print_drop_of (P := Try.prog) (Value.int .u8) 0 22 5 .i64 Try.underlying22 hi032 hsz32 (some ad106) c0 l0 1 (by omega) (of_decide_eq_true (by first | (with_reducible assumption) | assumption)) HC0.out; have HR121 := Aside0.mk (Kd.C_of_reads (h1 := fun _ => rfl) (hA32 _ (Kd.reads_of_C HR0.out))); have HC121 := Aside0.mk hC32; clear hA32 hC32 hi032 hsz32; obtain ⟨Ao33, co33, eo33, _⟩ := Kd.Q_slice HO112.out; subst eo33) | (go_at_call 18; (rw [show l0.length - 1 = (l0.drop 1).length from (List.length_drop ..).symm]); (with_reducible refine (bytes_Equal.calls _ _ t108 _ _ (l0.drop 1) true _ ?side1 ?side2 ?side3 ?side4 A23.out).mono ?_); (case side1 => repeat (first | exact (Kd.Q_reads' HO112.out).2.2 | (with_reducible refine Kd.C_alloc ?_ _) | (with_reducible refine Kd.C_drewN ?_ _) | (with_reducible refine Kd.C_drew ?_))); (case side2 => exact (Kd.Q_reads' HO112.out).2.1); (case side3 => repeat (first | exact (Kd.C_below HR121.out HB.out) | (with_reducible refine Kd.C_alloc ?_ _) | (with_reducible refine Kd.C_drewN ?_ _) | (with_reducible refine Kd.C_drew ?_))); (case side4 => exact HC121.out); rintro e w' ⟨rfl, ⟨nd, rfl⟩⟩; (try first | exact ⟨rfl, _, World.drewN_drewN _ _ _⟩ | exact ⟨rfl, _, Eq.trans (World.drewN_drewN _ _ _) (congrArg (World.drewN _) (Nat.add_assoc _ _ _))⟩); have p123 : 0 ≤ (0 : Int) := (by omega); have q123 : 0 < (l0.length : Int) := of_decide_eq_true (by first | (with_reducible assumption) | assumption); obtain ⟨ad123, e123, hx123_0⟩ := Kd.at_int HR0.out 0 p123 q123; obtain rfl : ad106 = ad123 := (by injection e123); have qi123 : (0 < l0.length) = True := eq_true (by omega); (try rw [show ((0 : Int)).toNat = 0 from rfl] at hx123_0); (try rw [Addr.add_zero'] at hx123_0); replace hx123_0 := (HB.out.cell (World.block_lt_of_cell? w _ hx123_0)).trans hx123_0; replace p123 := eq_true p123; replace q123 := eq_true q123)))
                                    go_ret
                                    exact ⟨by first | rfl | (simp [errW_none, errW_some] <;> rfl) | (simp only [← hji12, ← hji17]; first | rfl | (simp [errW_none, errW_some] <;> rfl)) | (simp [*, errW_none, errW_some] <;> rfl), by repeat (first | (with_reducible first | exact HB.out | apply below_alloc | apply pw_below_drewN | apply below_drew1) | exact HB.out)⟩
                                  · replace c26 := Bool.eq_false_iff.mpr c26
                                    subst c26
                                    have H1 : (some false) = some r := by rw [if_neg (show ¬ (false = true) by decide)] at H; exact H
                                    clear H
                                    have H := H1
                                    clear H1
                                    exact absurd (Option.some.inj H) (by rw [HRT.out]; simp)
                                · rw [if_neg c25] at H
                                  have c25b0 : (t109 == (wrap64 ((wrap64 (8 * (ji12))) - (wrap64 (rd l0 0))))) = false := beq_eq_false_iff_ne.mpr c25
                                  have c25b1 : (t109 != (wrap64 ((wrap64 (8 * (ji12))) - (wrap64 (rd l0 0))))) = true := bne_iff_ne.mpr c25
                                  exact absurd (Option.some.inj H) (by rw [HRT.out]; simp)
                              · replace c24 := Bool.eq_false_iff.mpr c24
                                subst c24
                                have H1 : (some false) = some r := by rw [if_neg (show ¬ (false = true) by decide)] at H; exact H
                                clear H
                                have H := H1
                                clear H1
                                exact absurd (Option.some.inj H) (by rw [HRT.out]; simp)
                            · rw [if_neg c22] at H
                              exact absurd H (by simp)
                          · rw [if_neg c21] at H
                            have c21b0 : ((Go.bits .and .u8 (rd l0 (ji12)) (((ji17) - 1) % 256)) == 0) = false := beq_eq_false_iff_ne.mpr c21
                            have c21b1 : ((Go.bits .and .u8 (rd l0 (ji12)) (((ji17) - 1) % 256)) != 0) = true := bne_iff_ne.mpr c21
                            by_cases c34 : t118 = true
                            · subst c34
                              have H1 : (some (t117 == 6)) = some r := by rw [if_pos rfl] at H; exact H
                              clear H
                              have H := H1
                              clear H1
                              obtain rfl := Option.some.inj H
                              have p106 : 0 ≤ ((ji12) : Int) := of_decide_eq_true (by first | (with_reducible assumption) | assumption)
                              have q106 : (ji12) < (l0.length : Int) := of_decide_eq_true (by first | (with_reducible assumption) | assumption)
                              obtain ⟨ad106, e106, hx106_0⟩ := Kd.at_int HR0.out (ji12) p106 q106
                              cases e106
                              replace hx106_0 := (HB.out.cell (World.block_lt_of_cell? w _ hx106_0)).trans hx106_0
                              replace p106 := eq_true p106
                              replace q106 := eq_true q106
                              have p107 : 0 ≤ (0 : Int) := (by omega)
                              have q107 : 0 < (l0.length : Int) := of_decide_eq_true (by first | (with_reducible assumption) | assumption)
                              obtain ⟨ad107, e107, hx107_0⟩ := Kd.at_int HR0.out 0 p107 q107
                              obtain rfl : ad106 = ad107 := (by injection e107)
                              have qi107 : (0 < l0.length) = True := eq_true (by omega)
                              (try rw [show ((0 : Int)).toNat = 0 from rfl] at hx107_0)
                              (try rw [Addr.add_zero'] at hx107_0)
                              replace hx107_0 := (HB.out.cell (World.block_lt_of_cell? w _ hx107_0)).trans hx107_0
                              replace p107 := eq_true p107
                              replace q107 := eq_true q107
                              go_wp2_with (first | (go_at_call 17; (with_reducible refine (impl_ReadBits.calls _ _ l0 t108 t109 t110 _ ?side1 ?side2 A18.out).mono ?_); (case side1 => repeat (first | exact (Kd.C_below HR0.out HB.out) | (with_reducible refine Kd.C_alloc ?_ _) | (with_reducible refine Kd.C_drewN ?_ _) | (with_reducible refine Kd.C_drew ?_))); (case side2 => exact HC0.out); rintro e w35 ⟨v111, rfl, ho0, hb⟩; have n0_ := Aside0.mk (Kd.Q_lower ho0 (below_size (by repeat (first | (with_reducible first | exact HB.out | apply below_alloc | apply pw_below_drewN | apply below_drew1) | exact HB.out)))); have n1_ := Aside0.mk (below_step (by repeat (first | (with_reducible first | exact HB.out | apply below_alloc | apply pw_below_drewN | apply below_drew1) | exact HB.out)) hb); clear HB; have HO112 := n0_; have HB := n1_; clear n0_ n1_; (try clear hb); (try clear hb2); (try clear hk); (try clear hi); (try clear ho0)) | ((with_reducible refine gate_dst (N := 62) rfl ?_); (try (refine gate_guard (by rfl) ?_; dsimp only)); refine Kd.R_lit (Kd.int .u8) _ 5 ?hg (N := 62) ?hd (xs := ([2, 64] : List Int)) (inner := [.int .u8 2, .int .u8 64]) (ok := fun _ => True) (okp := fun _ => True) ?hr ?hp (fun _ hk => hk) trivial (Below.refl _ _) (Nat.le_refl _) (by simp) ?_; (case hd => rfl); (case hg => rfl); (case hr => first | (go_simp; done) | (go_simp; rfl)); (case hp => exact (Reps.one (show Kd.M (Kd.int .u8) _ _ _ 2 [.int .u8 2] from rfl) (Reps.one (show Kd.M (Kd.int .u8) _ _ _ 64 [.int .u8 64] from rfl) (Reps.none _ _)))); intro v114 w36 ho37 hb hg_ hnew_; clear hg_ hnew_; (first | rw [← Ny113.out] at ho37 | (simp only [Int.reduceToNat] at ho37; rw [← Ny113.out] at ho37)); have n0_ := Aside0.mk (Kd.Q_elder' (by (with_reducible repeat (first | apply Kd.Q_alloc | apply Kd.Q_drewN | apply Kd.Q_drew)); exact HO112.out) (Kd.R_base ho37) hb); have n1_ := Aside0.mk (Kd.R_lower (Kd.R_new' ho37 (Kd.Q_lt (by (with_reducible repeat (first | apply Kd.Q_alloc | apply Kd.Q_drewN | apply Kd.Q_drew)); exact HO112.out))) (below_size (by repeat (first | (with_reducible first | exact HB.out | apply below_alloc | apply pw_below_drewN | apply below_drew1) | exact HB.out)))); have n2_ := Aside0.mk (below_step (by repeat (first | (with_reducible first | exact HB.out | apply below_alloc | apply pw_below_drewN | apply below_drew1) | exact HB.out)) hb); clear HO112; clear HB; have HO112 := n0_; have HO115 := n1_; have HB := n2_; clear n0_ n1_ n2_; clear hb ho37; obtain ⟨Ao38, co38, eo38⟩ := Kd.R_slice HO115.out; subst eo38) | (go_at_call 17; (with_reducible refine (impl_ReadBits.calls _ _ y113 t116 t117 true _ ?side1 ?side2 A19.out).mono ?_); (case side1 => repeat (first | exact (Kd.R_reads' HO115.out).2.2 | (with_reducible refine Kd.C_alloc ?_ _) | (with_reducible refine Kd.C_drewN ?_ _) | (with_reducible refine Kd.C_drew ?_))); (case side2 => exact (Kd.R_reads' HO115.out).2.1); rintro e w39 ⟨v119, rfl, ho0, hb⟩; have n0_ := Aside0.mk (Kd.Q_elder' (by (with_reducible repeat (first | apply Kd.Q_alloc | apply Kd.Q_drewN | apply Kd.Q_drew)); exact HO112.out) (Kd.Q_base ho0) hb); have n1_ := Aside0.mk (Kd.R_elder' (by (with_reducible repeat (first | apply Kd.R_alloc | apply Kd.R_drewN | apply Kd.R_drew)); exact HO115.out) (Kd.Q_base ho0) hb); have n2_ := Aside0.mk (Kd.Q_lower (Kd.Q_new' (Kd.Q_new' ho0 (Kd.Q_lt (by (with_reducible repeat (first | apply Kd.Q_alloc | apply Kd.Q_drewN | apply Kd.Q_drew)); exact HO112.out))) (Kd.R_lt (by (with_reducible repeat (first | apply Kd.R_alloc | apply Kd.R_drewN | apply Kd.R_drew)); exact HO115.out))) (below_size (by repeat (first | (with_reducible first | exact HB.out | apply below_alloc | apply pw_below_drewN | apply below_drew1) | exact HB.out)))); have n3_ := Aside0.mk (below_step (by repeat (first | (with_reducible first | exact HB.out | apply below_alloc | apply pw_below_drewN | apply below_drew1) | exact HB.out)) hb); clear HO112; clear HO115; clear HB; have HO112 := n0_; have HO115 := n1_; have HO120 := n2_; have HB := n3_; clear n0_ n1_ n2_ n3_; (try clear hb); (try clear hb2); (try clear hk); (try clear hi); (try clear ho0)))
                              repeat (go_quiet (first | (go_at_call 17; (with_reducible refine (impl_ReadBits.calls _ _ l0 t108 t109 t110 _ ?side1 ?side2 A18.out).mono ?_); (case side1 => repeat (first | exact (Kd.C_below HR0.out HB.out) | (with_reducible refine Kd.C_alloc ?_ _) | (with_reducible refine Kd.C_drewN ?_ _) | (with_reducible refine Kd.C_drew ?_))); (case side2 => exact HC0.out); rintro e w35 ⟨v111, rfl, ho0, hb⟩; have n0_ := Aside0.mk (Kd.Q_lower ho0 (below_size (by repeat (first | (with_reducible first | exact HB.out | apply below_alloc | apply pw_below_drewN | apply below_drew1) | exact HB.out)))); have n1_ := Aside0.mk (below_step (by repeat (first | (with_reducible first | exact HB.out | apply below_alloc | apply pw_below_drewN | apply below_drew1) | exact HB.out)) hb); clear HB; have HO112 := n0_; have HB := n1_; clear n0_ n1_; (try clear hb); (try clear hb2); (try clear hk); (try clear hi); (try clear ho0)) | ((with_reducible refine gate_dst (N := 62) rfl ?_); (try (refine gate_guard (by rfl) ?_; dsimp only)); refine Kd.R_lit (Kd.int .u8) _ 5 ?hg (N := 62) ?hd (xs := ([2, 64] : List Int)) (inner := [.int .u8 2, .int .u8 64]) (ok := fun _ => True) (okp := fun _ => True) ?hr ?hp (fun _ hk => hk) trivial (Below.refl _ _) (Nat.le_refl _) (by simp) ?_; (case hd => rfl); (case hg => rfl); (case hr => first | (go_simp; done) | (go_simp; rfl)); (case hp => exact (Reps.one (show Kd.M (Kd.int .u8) _ _ _ 2 [.int .u8 2] from rfl) (Reps.one (show Kd.M (Kd.int .u8) _ _ _ 64 [.int .u8 64] from rfl) (Reps.none _ _)))); intro v114 w36 ho37 hb hg_ hnew_; clear hg_ hnew_; (first | rw [← Ny113.out] at ho37 | (simp only [Int.reduceToNat] at ho37; rw [← Ny113.out] at ho37)); have n0_ := Aside0.mk (Kd.Q_elder' (by (with_reducible repeat (first | apply Kd.Q_alloc | apply Kd.Q_drewN | apply Kd.Q_drew)); exact HO112.out) (Kd.R_base ho37) hb); have n1_ := Aside0.mk (Kd.R_lower (Kd.R_new' ho37 (Kd.Q_lt (by (with_reducible repeat (first | apply Kd.Q_alloc | apply Kd.Q_drewN | apply Kd.Q_drew)); exact HO112.out))) (below_size (by repeat (first | (with_reducible first | exact HB.out | apply below_alloc | apply pw_below_drewN | apply below_drew1) | exact HB.out)))); have n2_ := Aside0.mk (below_step (by repeat (first | (with_reducible first | exact HB.out | apply below_alloc | apply pw_below_drewN | apply below_drew1) | exact HB.out)) hb); clear HO112; clear HB; have HO112 := n0_; have HO115 := n1_; have HB := n2_; clear n0_ n1_ n2_; clear hb ho37; obtain ⟨Ao38, co38, eo38⟩ := Kd.R_slice HO115.out; subst eo38) | (go_at_call 17; (with_reducible refine (impl_ReadBits.calls _ _ y113 t116 t117 true _ ?side1 ?side2 A19.out).mono ?_); (case side1 => repeat (first | exact (Kd.R_reads' HO115.out).2.2 | (with_reducible refine Kd.C_alloc ?_ _) | (with_reducible refine Kd.C_drewN ?_ _) | (with_reducible refine Kd.C_drew ?_))); (case side2 => exact (Kd.R_reads' HO115.out).2.1); rintro e w39 ⟨v119, rfl, ho0, hb⟩; have n0_ := Aside0.mk (Kd.Q_elder' (by (with_reducible repeat (first | apply Kd.Q_alloc | apply Kd.Q_drewN | apply Kd.Q_drew)); exact HO112.out) (Kd.Q_base ho0) hb); have n1_ := Aside0.mk (Kd.R_elder' (by (with_reducible repeat (first | apply Kd.R_alloc | apply Kd.R_drewN | apply Kd.R_drew)); exact HO115.out) (Kd.Q_base ho0) hb); have n2_ := Aside0.mk (Kd.Q_lower (Kd.Q_new' (Kd.Q_new' ho0 (Kd.Q_lt (by (with_reducible repeat (first | apply Kd.Q_alloc | apply Kd.Q_drewN | apply Kd.Q_drew)); exact HO112.out))) (Kd.R_lt (by (with_reducible repeat (first | apply Kd.R_alloc | apply Kd.R_drewN | apply Kd.R_drew)); exact HO115.out))) (below_size (by repeat (first | (with_reducible first | exact HB.out | apply below_alloc | apply pw_below_drewN | apply below_drew1) | exact HB.out)))); have n3_ := Aside0.mk (below_step (by repeat (first | (with_reducible first | exact HB.out | apply below_alloc | apply pw_below_drewN | apply below_drew1) | exact HB.out)) hb); clear HO112; clear HO115; clear HB; have HO112 := n0_; have HO115 := n1_; have HO120 := n2_; have HB := n3_; clear n0_ n1_ n2_ n3_; (try clear hb); (try clear hb2); (try clear hk); (try clear hi); (try clear ho0))); try go_wp2_with (first | (go_at_call 17; (with_reducible refine (impl_ReadBits.calls _ _ l0 t108 t109 t110 _ ?side1 ?side2 A18.out).mono ?_); (case side1 => repeat (first | exact (Kd.C_below HR0.out HB.out) | (with_reducible refine Kd.C_alloc ?_ _) | (with_reducible refine Kd.C_drewN ?_ _) | (with_reducible refine Kd.C_drew ?_))); (case side2 => exact HC0.out); rintro e w35 ⟨v111, rfl, ho0, hb⟩; have n0_ := Aside0.mk (Kd.Q_lower ho0 (below_size (by repeat (first | (with_reducible first | exact HB.out | apply below_alloc | apply pw_below_drewN | apply below_drew1) | exact HB.out)))); have n1_ := Aside0.mk (below_step (by repeat (first | (with_reducible first | exact HB.out | apply below_alloc | apply pw_below_drewN | apply below_drew1) | exact HB.out)) hb); clear HB; have HO112 := n0_; have HB := n1_; clear n0_ n1_; (try clear hb); (try clear hb2); (try clear hk); (try clear hi); (try clear ho0)) | ((with_reducible refine gate_dst (N := 62) rfl ?_); (try (refine gate_guard (by rfl) ?_; dsimp only)); refine Kd.R_lit (Kd.int .u8) _ 5 ?hg (N := 62) ?hd (xs := ([2, 64] : List Int)) (inner := [.int .u8 2, .int .u8 64]) (ok := fun _ => True) (okp := fun _ => True) ?hr ?hp (fun _ hk => hk) trivial (Below.refl _ _) (Nat.le_refl _) (by simp) ?_; (case hd => rfl); (case hg => rfl); (case hr => first | (go_simp; done) | (go_simp; rfl)); (case hp => exact (Reps.one (show Kd.M (Kd.int .u8) _ _ _ 2 [.int .u8 2] from rfl) (Reps.one (show Kd.M (Kd.int .u8) _ _ _ 64 [.int .u8 64] from rfl) (Reps.none _ _)))); intro v114 w36 ho37 hb hg_ hnew_; clear hg_ hnew_; (first | rw [← Ny113.out] at ho37 | (simp only [Int.reduceToNat] at ho37; rw [← Ny113.out] at ho37)); have n0_ := Aside0.mk (Kd.Q_elder' (by (with_reducible repeat (first | apply Kd.Q_alloc | apply Kd.Q_drewN | apply Kd.Q_drew)); exact HO112.out) (Kd.R_base ho37) hb); have n1_ := Aside0.mk (Kd.R_lower (Kd.R_new' ho37 (Kd.Q_lt (by (with_reducible repeat (first | apply Kd.Q_alloc | apply Kd.Q_drewN | apply Kd.Q_drew)); exact HO112.out))) (below_size (by repeat (first | (with_reducible first | exact HB.out | apply below_alloc | apply pw_below_drewN | apply below_drew1) | exact HB.out)))); have n2_ := Aside0.mk (below_step (by repeat (first | (with_reducible first | exact HB.out | apply below_alloc | apply pw_below_drewN | apply below_drew1) | exact HB.out)) hb); clear HO112; clear HB; have HO112 := n0_; have HO115 := n1_; have HB := n2_; clear n0_ n1_ n2_; clear hb ho37; obtain ⟨Ao38, co38, eo38⟩ := Kd.R_slice HO115.out; subst eo38) | (go_at_call 17; (with_reducible refine (impl_ReadBits.calls _ _ y113 t116 t117 true _ ?side1 ?side2 A19.out).mono ?_); (case side1 => repeat (first | exact (Kd.R_reads' HO115.out).2.2 | (with_reducible refine Kd.C_alloc ?_ _) | (with_reducible refine Kd.C_drewN ?_ _) | (with_reducible refine Kd.C_drew ?_))); (case side2 => exact (Kd.R_reads' HO115.out).2.1); rintro e w39 ⟨v119, rfl, ho0, hb⟩; have n0_ := Aside0.mk (Kd.Q_elder' (by (with_reducible repeat (first | apply Kd.Q_alloc | apply Kd.Q_drewN | apply Kd.Q_drew)); exact HO112.out) (Kd.Q_base ho0) hb); have n1_ := Aside0.mk (Kd.R_elder' (by (with_reducible repeat (first | apply Kd.R_alloc | apply Kd.R_drewN | apply Kd.R_drew)); exact HO115.out) (Kd.Q_base ho0) hb); have n2_ := Aside0.mk (Kd.Q_lower (Kd.Q_new' (Kd.Q_new' ho0 (Kd.Q_lt (by (with_reducible repeat (first | apply Kd.Q_alloc | apply Kd.Q_drewN | apply Kd.Q_drew)); exact HO112.out))) (Kd.R_lt (by (with_reducible repeat (first | apply Kd.R_alloc | apply Kd.R_drewN | apply Kd.R_drew)); exact HO115.out))) (below_size (by repeat (first | (with_reducible first | exact HB.out | apply below_alloc | apply pw_below_drewN | apply below_drew1) | exact HB.out)))); have n3_ := Aside0.mk (below_step (by repeat (first | (with_reducible first | exact HB.out | apply below_alloc | apply pw_below_drewN | apply below_drew1) | exact HB.out)) hb); clear HO112; clear HO115; clear HB; have HO112 := n0_; have HO115 := n1_; have HO120 := n2_; have HB := n3_; clear n0_ n1_ n2_ n3_; (try clear hb); (try clear hb2); (try clear hk); (try clear hi); (try clear ho0))))
                              go_ret
                              exact ⟨by first | rfl | (simp [errW_none, errW_some] <;> rfl) | (simp only [← hji12, ← hji17]; first | rfl | (simp [errW_none, errW_some] <;> rfl)) | (simp [*, errW_none, errW_some] <;> rfl), by repeat (first | (with_reducible first | exact HB.out | apply below_alloc | apply pw_below_drewN | apply below_drew1) | exact HB.out)⟩
                            · replace c34 := Bool.eq_false_iff.mpr c34
                              subst c34
                              have H1 : (some false) = some r := by rw [if_neg (show ¬ (false = true) by decide)] at H; exact H
                              clear H
                              have H := H1
                              clear H1
                              exact absurd (Option.some.inj H) (by rw [HRT.out]; simp)
                        · rw [if_neg c20] at H
                          have c20b0 : (t110 == ((Go.bits .and .u8 (rd l0 (ji12)) (((ji17) - 1) % 256)) == 0)) = false := by simpa using c20
                          (try (have c20b1 : t110 = !(((Go.bits .and .u8 (rd l0 (ji12)) (((ji17) - 1) % 256)) == 0)) := bool_ne_of _ _ (by simpa using c20)))
                          (try (have c20b2 : decide (t110 = ((Go.bits .and .u8 (rd l0 (ji12)) (((ji17) - 1) % 256)) == 0)) = false := by simpa using c20))
                          (try (have c20b3 : (t110 == ((Go.bits .and .u8 (rd l0 (ji12)) (((ji17) - 1) % 256)) == 0)) = false := by simpa using c20))
                          (try (have c20b4 : ¬ (t110 = ((Go.bits .and .u8 (rd l0 (ji12)) (((ji17) - 1) % 256)) == 0)) := by simpa using c20))
                          clear c20
                          exact absurd (Option.some.inj H) (by rw [HRT.out]; simp)
                      · rw [if_neg c16] at H
                        exact absurd H (by simp)
                    · rw [if_neg c15] at H
                      exact absurd H (by simp)
                  · rw [if_neg c14] at H
                    exact absurd H (by simp)
                · rw [if_neg c13] at H
                  exact absurd H (by simp)
              · replace c11 := Bool.eq_false_iff.mpr c11
                subst c11
                have H1 : ((impl_ReadBits.f l0).bind fun bt124 => ((impl_ReadBits.f (([2, 64] : List Int))).bind fun bt132 => (if (bt124.2.2 == x3_3) = true then (if x3_3 = true then (if 1 ≤ (l0.length : Int) then ((bytes_Equal.f bt124.1 (l0.drop 1)).bind fun t138 => (if t138 = true then (if 0 < (l0.length : Int) then (if bt124.2.1 = (wrap64 ((wrap64 (8 * (wrap64 ((l0.length : Int) - 1)))) - (wrap64 (rd l0 0)))) then (if bt132.2.2 = true then (some (bt132.2.1 == 6)) else (some false)) else (some false)) else (none)) else (some false))) else (none)) else (if bt132.2.2 = true then (some (bt132.2.1 == 6)) else (some false))) else (some false)))) = some r := by rw [if_neg (show ¬ (false = true) by decide)] at H; exact H
                clear H
                have H := H1
                clear H1
                replace H := Option.bind_eq_some_iff.mp H
                obtain ⟨⟨t124, t125, t126⟩, A400, H⟩ := H
                replace H : ((impl_ReadBits.f (([2, 64] : List Int))).bind fun bt132 => (if (t126 == x3_3) = true then (if x3_3 = true then (if 1 ≤ (l0.length : Int) then ((bytes_Equal.f t124 (l0.drop 1)).bind fun t138 => (if t138 = true then (if 0 < (l0.length : Int) then (if t125 = (wrap64 ((wrap64 (8 * (wrap64 ((l0.length : Int) - 1)))) - (wrap64 (rd l0 0)))) then (if bt132.2.2 = true then (some (bt132.2.1 == 6)) else (some false)) else (some false)) else (none)) else (some false))) else (none)) else (if bt132.2.2 = true then (some (bt132.2.1 == 6)) else (some false))) else (some false))) = some r := H
                have A40 := Aside0.mk A400
                clear A400
                obtain ⟨y129, hy129⟩ : ∃ y_ : List Int, y_ = (([2, 64] : List Int)) := ⟨_, rfl⟩
                replace H : ((impl_ReadBits.f y129).bind fun bt132 => (if (t126 == x3_3) = true then (if x3_3 = true then (if 1 ≤ (l0.length : Int) then ((bytes_Equal.f t124 (l0.drop 1)).bind fun t138 => (if t138 = true then (if 0 < (l0.length : Int) then (if t125 = (wrap64 ((wrap64 (8 * (wrap64 ((l0.length : Int) - 1)))) - (wrap64 (rd l0 0)))) then (if bt132.2.2 = true then (some (bt132.2.1 == 6)) else (some false)) else (some false)) else (none)) else (some false))) else (none)) else (if bt132.2.2 = true then (some (bt132.2.1 == 6)) else (some false))) else (some false))) = some r := by first | (rw [hy129]; with_reducible exact H) | (have H2_ := (Option.bind_some _ _).symm.trans H; rw [hy129]; with_reducible exact H2_) | (have H2_ := (Option.bind_some _ _).symm.trans H; with_reducible exact H2_) | with_reducible exact H | (rw [hy129]; exact H) | exact H
                have Ny129 := Aside0.mk hy129
                clear hy129
                replace H := Option.bind_eq_some_iff.mp H
                obtain ⟨⟨t132, t133, t134⟩, A410, H⟩ := H
                replace H : (if (t126 == x3_3) = true then (if x3_3 = true then (if 1 ≤ (l0.length : Int) then ((bytes_Equal.f t124 (l0.drop 1)).bind fun t138 => (if t138 = true then (if 0 < (l0.length : Int) then (if t125 = (wrap64 ((wrap64 (8 * (wrap64 ((l0.length : Int) - 1)))) - (wrap64 (rd l0 0)))) then (if t134 = true then (some (t133 == 6)) else (some false)) else (some false)) else (none)) else (some false))) else (none)) else (if t134 = true then (some (t133 == 6)) else (some false))) else (some false)) = some r := H
                have A41 := Aside0.mk A410
                clear A410
                by_cases c42 : (t126 == x3_3) = true
                · rw [if_pos c42] at H
                  have c42b0 : (t126 == x3_3) = true := c42
                  (try (have c42b1 : t126 = x3_3 := bool_eq_of _ _ (by simpa using c42)))
                  (try (have c42b2 : decide (t126 = x3_3) = true := by simpa using c42))
                  (try (have c42b3 : (t126 == x3_3) = true := by simpa using c42))
                  clear c42
                  by_cases c43 : x3_3 = true
                  · subst c43
                    have H1 : (if 1 ≤ (l0.length : Int) then ((bytes_Equal.f t124 (l0.drop 1)).bind fun t138 => (if t138 = true then (if 0 < (l0.length : Int) then (if t125 = (wrap64 ((wrap64 (8 * (wrap64 ((l0.length : Int) - 1)))) - (wrap64 (rd l0 0)))) then (if t134 = true then (some (t133 == 6)) else (some false)) else (some false)) else (none)) else (some false))) else (none)) = some r := by rw [if_pos rfl] at H; exact H
                    clear H
                    have H := H1
                    clear H1
                    by_cases c44 : 1 ≤ (l0.length : Int)
                    · rw [if_pos c44] at H
                      have c44b0 := eq_true c44
                      have c44b1 : decide (1 ≤ (l0.length : Int)) = true := decide_eq_true c44
                      clear c44
                      replace H := Option.bind_eq_some_iff.mp H
                      obtain ⟨t138, A450, H⟩ := H
                      replace H : (if t138 = true then (if 0 < (l0.length : Int) then (if t125 = (wrap64 ((wrap64 (8 * (wrap64 ((l0.length : Int) - 1)))) - (wrap64 (rd l0 0)))) then (if t134 = true then (some (t133 == 6)) else (some false)) else (some false)) else (none)) else (some false)) = some r := H
                      have A45 := Aside0.mk A450
                      clear A450
                      by_cases c46 : t138 = true
                      · subst c46
                        have H1 : (if 0 < (l0.length : Int) then (if t125 = (wrap64 ((wrap64 (8 * (wrap64 ((l0.length : Int) - 1)))) - (wrap64 (rd l0 0)))) then (if t134 = true then (some (t133 == 6)) else (some false)) else (some false)) else (none)) = some r := by rw [if_pos rfl] at H; exact H
                        clear H
                        have H := H1
                        clear H1
                        by_cases c47 : 0 < (l0.length : Int)
                        · rw [if_pos c47] at H
                          have c47b0 : decide (0 < (l0.length : Int)) = true := decide_eq_true c47
                          have c47b1 : decide (0 < l0.length) = true := decide_eq_true (by omega)
                          clear c47
                          by_cases c48 : t125 = (wrap64 ((wrap64 (8 * (wrap64 ((l0.length : Int) - 1)))) - (wrap64 (rd l0 0))))
                          · rw [if_pos c48] at H
                            have c48b0 : (t125 == (wrap64 ((wrap64 (8 * (wrap64 ((l0.length : Int) - 1)))) - (wrap64 (rd l0 0))))) = true := beq_iff_eq.mpr c48
                            have c48b1 : (t125 != (wrap64 ((wrap64 (8 * (wrap64 ((l0.length : Int) - 1)))) - (wrap64 (rd l0 0))))) = false := bne_eq_false_iff_eq.mpr c48
                            clear c48
                            by_cases c49 : t134 = true
                            · subst c49
                              have H1 : (some (t133 == 6)) = some r := by rw [if_pos rfl] at H; exact H
                              clear H
                              have H := H1
                              clear H1
                              obtain rfl := Option.some.inj H
                              go_wp2_with (first | (go_at_call 17; (with_reducible refine (impl_ReadBits.calls _ _ l0 t124 t125 t126 _ ?side1 ?side2 A40.out).mono ?_); (case side1 => repeat (first | exact (Kd.C_below HR0.out HB.out) | (with_reducible refine Kd.C_alloc ?_ _) | (with_reducible refine Kd.C_drewN ?_ _) | (with_reducible refine Kd.C_drew ?_))); (case side2 => exact HC0.out); rintro e w50 ⟨v127, rfl, ho0, hb⟩; have n0_ := Aside0.mk (Kd.Q_lower ho0 (below_size (by repeat (first | (with_reducible first | exact HB.out | apply below_alloc | apply pw_below_drewN | apply below_drew1) | exact HB.out)))); have n1_ := Aside0.mk (below_step (by repeat (first | (with_reducible first | exact HB.out | apply below_alloc | apply pw_below_drewN | apply below_drew1) | exact HB.out)) hb); clear HB; have HO128 := n0_; have HB := n1_; clear n0_ n1_; (try clear hb); (try clear hb2); (try clear hk); (try clear hi); (try clear ho0)) | ((with_reducible refine gate_dst (N := 62) rfl ?_); (try (refine gate_guard (by rfl) ?_; dsimp only)); refine Kd.R_lit (Kd.int .u8) _ 5 ?hg (N := 62) ?hd (xs := ([2, 64] : List Int)) (inner := [.int .u8 2, .int .u8 64]) (ok := fun _ => True) (okp := fun _ => True) ?hr ?hp (fun _ hk => hk) trivial (Below.refl _ _) (Nat.le_refl _) (by simp) ?_; (case hd => rfl); (case hg => rfl); (case hr => first | (go_simp; done) | (go_simp; rfl)); (case hp => exact (Reps.one (show Kd.M (Kd.int .u8) _ _ _ 2 [.int .u8 2] from rfl) (Reps.one (show Kd.M (Kd.int .u8) _ _ _ 64 [.int .u8 64] from rfl) (Reps.none _ _)))); intro v130 w51 ho52 hb hg_ hnew_; clear hg_ hnew_; (first | rw [← Ny129.out] at ho52 | (simp only [Int.reduceToNat] at ho52; rw [← Ny129.out] at ho52)); have n0_ := Aside0.mk (Kd.Q_elder' (by (with_reducible repeat (first | apply Kd.Q_alloc | apply Kd.Q_drewN | apply Kd.Q_drew)); exact HO128.out) (Kd.R_base ho52) hb); have n1_ := Aside0.mk (Kd.R_lower (Kd.R_new' ho52 (Kd.Q_lt (by (with_reducible repeat (first | apply Kd.Q_alloc | apply Kd.Q_drewN | apply Kd.Q_drew)); exact HO128.out))) (below_size (by repeat (first | (with_reducible first | exact HB.out | apply below_alloc | apply pw_below_drewN | apply below_drew1) | exact HB.out)))); have n2_ := Aside0.mk (below_step (by repeat (first | (with_reducible first | exact HB.out | apply below_alloc | apply pw_below_drewN | apply below_drew1) | exact HB.out)) hb); clear HO128; clear HB; have HO128 := n0_; have HO131 := n1_; have HB := n2_; clear n0_ n1_ n2_; clear hb ho52; obtain ⟨Ao53, co53, eo53⟩ := Kd.R_slice HO131.out; subst eo53) | (go_at_call 17; (with_reducible refine (impl_ReadBits.calls _ _ y129 t132 t133 true _ ?side1 ?side2 A41.out).mono ?_); (case side1 => repeat (first | exact (Kd.R_reads' HO131.out).2.2 | (with_reducible refine Kd.C_alloc ?_ _) | (with_reducible refine Kd.C_drewN ?_ _) | (with_reducible refine Kd.C_drew ?_))); (case side2 => exact (Kd.R_reads' HO131.out).2.1); rintro e w54 ⟨v135, rfl, ho0, hb⟩; have n0_ := Aside0.mk (Kd.Q_elder' (by (with_reducible repeat (first | apply Kd.Q_alloc | apply Kd.Q_drewN | apply Kd.Q_drew)); exact HO128.out) (Kd.Q_base ho0) hb); have n1_ := Aside0.mk (Kd.R_elder' (by (with_reducible repeat (first | apply Kd.R_alloc | apply Kd.R_drewN | apply Kd.R_drew)); exact HO131.out) (Kd.Q_base ho0) hb); have n2_ := Aside0.mk (Kd.Q_lower (Kd.Q_new' (Kd.Q_new' ho0 (Kd.Q_lt (by (with_reducible repeat (first | apply Kd.Q_alloc | apply Kd.Q_drewN | apply Kd.Q_drew)); exact HO128.out))) (Kd.R_lt (by (with_reducible repeat (first | apply Kd.R_alloc | apply Kd.R_drewN | apply Kd.R_drew)); exact HO131.out))) (below_size (by repeat (first | (with_reducible first | exact HB.out | apply below_alloc | apply pw_below_drewN | apply below_drew1) | exact HB.out)))); have n3_ := Aside0.mk (below_step (by repeat (first | (with_reducible first | exact HB.out | apply below_alloc | apply pw_below_drewN | apply below_drew1) | exact HB.out)) hb); clear HO128; clear HO131; clear HB; have HO128 := n0_; have HO131 := n1_; have HO136 := n2_; have HB := n3_; clear n0_ n1_ n2_ n3_; (try clear hb); (try clear hb2); (try clear hk); (try clear hi); (try clear ho0); obtain ⟨i055, hi055, _, hsz55, _⟩ := info_parts info5; obtain ⟨A55, hcut55, hA55, hC55⟩ := print_drop_of (P := Try.prog) (Value.int .u8) 0 22 5 .i64 Try.underlying22 hi055 hsz55 A0 c0 l0 1 (by omega) (of_decide_eq_true (by first | (with_reducible assumption) | assumption)) HC0.out; have HR137 := Aside0.mk (Kd.C_of_reads (h1 := fun _ => rfl) (hA55 _ (Kd.reads_of_C HR0.out))); have HC137 := Aside0.mk hC55; clear hA55 hC55 hi055 hsz55; obtain ⟨Ao56, co56, eo56, _⟩ := Kd.Q_slice HO128.out; subst eo56) | (go_at_call 18; (rw [show l0.length - 1 = (l0.drop 1).length from (List.length_drop ..).symm]); (with_reducible refine (bytes_Equal.calls _ _ t124 _ _ (l0.drop 1) true _ ?side1 ?side2 ?side3 ?side4 A45.out).mono ?_); (case side1 => repeat (first | exact (Kd.Q_reads' HO128.out).2.2 | (with_reducible refine Kd.C_alloc ?_ _) | (with_reducible refine Kd.C_drewN ?_ _) | (with_reducible refine Kd.C_drew ?_))); (case side2 => exact (Kd.Q_reads' HO128.out).2.1); (case side3 => repeat (first | exact (Kd.C_below HR137.out HB.out) | (with_reducible refine Kd.C_alloc ?_ _) | (with_reducible refine Kd.C_drewN ?_ _) | (with_reducible refine Kd.C_drew ?_))); (case side4 => exact HC137.out); rintro e w' ⟨rfl, ⟨nd, rfl⟩⟩; (try first | exact ⟨rfl, _, World.drewN_drewN _ _ _⟩ | exact ⟨rfl, _, Eq.trans (World.drewN_drewN _ _ _) (congrArg (World.drewN _) (Nat.add_assoc _ _ _))⟩); have p139 : 0 ≤ (0 : Int) := (by omega); have q139 : 0 < (l0.length : Int) := of_decide_eq_true (by first | (with_reducible assumption) | assumption); obtain ⟨ad139, e139, hx139_0⟩ := Kd.at_int HR0.out 0 p139 q139; cases e139; have qi139 : (0 < l0.length) = True := eq_true (by omega); (try rw [show ((0 : Int)).toNat = 0 from rfl] at hx139_0); (try rw [Addr.add_zero'] at hx139_0); replace hx139_0 := (HB.out.cell (World.block_lt_of_cell? w _ hx139_0)).trans hx139_0; replace p139 := eq_true p139; replace q139 := eq_true q139))
                              repeat (go_quiet (first | (go_at_call 17; (with_reducible refine (impl_ReadBits.calls _ _ l0 t124 t125 t126 _ ?side1 ?side2 A40.out).mono ?_); (case side1 => repeat (first | exact (Kd.C_below HR0.out HB.out) | (with_reducible refine Kd.C_alloc ?_ _) | (with_reducible refine Kd.C_drewN ?_ _) | (with_reducible refine Kd.C_drew ?_))); (case side2 => exact HC0.out); rintro e w50 ⟨v127, rfl, ho0, hb⟩; have n0_ := Aside0.mk (Kd.Q_lower ho0 (below_size (by repeat (first | (with_reducible first | exact HB.out | apply below_alloc | apply pw_below_drewN | apply below_drew1) | exact HB.out)))); have n1_ := Aside0.mk (below_step (by repeat (first | (with_reducible first | exact HB.out | apply below_alloc | apply pw_below_drewN | apply below_drew1) | exact HB.out)) hb); clear HB; have HO128 := n0_; have HB := n1_; clear n0_ n1_; (try clear hb); (try clear hb2); (try clear hk); (try clear hi); (try clear ho0)) | ((with_reducible refine gate_dst (N := 62) rfl ?_); (try (refine gate_guard (by rfl) ?_; dsimp only)); refine Kd.R_lit (Kd.int .u8) _ 5 ?hg (N := 62) ?hd (xs := ([2, 64] : List Int)) (inner := [.int .u8 2, .int .u8 64]) (ok := fun _ => True) (okp := fun _ => True) ?hr ?hp (fun _ hk => hk) trivial (Below.refl _ _) (Nat.le_refl _) (by simp) ?_; (case hd => rfl); (case hg => rfl); (case hr => first | (go_simp; done) | (go_simp; rfl)); (case hp => exact (Reps.one (show Kd.M (Kd.int .u8) _ _ _ 2 [.int .u8 2] from rfl) (Reps.one (show Kd.M (Kd.int .u8) _ _ _ 64 [.int .u8 64] from rfl) (Reps.none _ _)))); intro v130 w51 ho52 hb hg_ hnew_; clear hg_ hnew_; (first | rw [← Ny129.out] at ho52 | (simp only [Int.reduceToNat] at ho52; rw [← Ny129.out] at ho52)); have n0_ := Aside0.mk (Kd.Q_elder' (by (with_reducible repeat (first | apply Kd.Q_alloc | apply Kd.Q_drewN | apply Kd.Q_drew)); exact HO128.out) (Kd.R_base ho52) hb); have n1_ := Aside0.mk (Kd.R_lower (Kd.R_new' ho52 (Kd.Q_lt (by (with_reducible repeat (first | apply Kd.Q_alloc | apply Kd.Q_drewN | apply Kd.Q_drew)); exact HO128.out))) (below_size (by repeat (first | (with_reducible first | exact HB.out | apply below_alloc | apply pw_below_drewN | apply below_drew1) | exact HB.out)))); have n2_ := Aside0.mk (below_step (by repeat (first | (with_reducible first | exact HB.out | apply below_alloc | apply pw_below_drewN | apply below_drew1) | exact HB.out)) hb); clear HO128; clear HB; have HO128 := n0_; have HO131 := n1_; have HB := n2_; clear n0_ n1_ n2_; clear hb ho52; obtain ⟨Ao53, co53, eo53⟩ := Kd.R_slice HO131.out; subst eo53) | (go_at_call 17; (with_reducible refine (impl_ReadBits.calls _ _ y129 t132 t133 true _ ?side1 ?side2 A41.out).mono ?_); (case side1 => repeat (first | exact (Kd.R_reads' HO131.out).2.2 | (with_reducible refine Kd.C_alloc ?_ _) | (with_reducible refine Kd.C_drewN ?_ _) | (with_reducible refine Kd.C_drew ?_))); (case side2 => exact (Kd.R_reads' HO131.out).2.1); rintro e w54 ⟨v135, rfl, ho0, hb⟩; have n0_ := Aside0.mk (Kd.Q_elder' (by (with_reducible repeat (first | apply Kd.Q_alloc | apply Kd.Q_drewN | apply Kd.Q_drew)); exact HO128.out) (Kd.Q_base ho0) hb); have n1_ := Aside0.mk (Kd.R_elder' (by (with_reducible repeat (first | apply Kd.R_alloc | apply Kd.R_drewN | apply Kd.R_drew)); exact HO131.out) (Kd.Q_base ho0) hb); have n2_ := Aside0.mk (Kd.Q_lower (Kd.Q_new' (Kd.Q_new' ho0 (Kd.Q_lt (by (with_reducible repeat (first | apply Kd.Q_alloc | apply Kd.Q_drewN | apply Kd.Q_drew)); exact HO128.out))) (Kd.R_lt (by (with_reducible repeat (first | apply Kd.R_alloc | apply Kd.R_drewN | apply Kd.R_drew)); exact HO131.out))) (below_size (by repeat (first | (with_reducible first | exact HB.out | apply below_alloc | apply pw_below_drewN | apply below_drew1) | exact HB.out)))); have n3_ := Aside0.mk (below_step (by repeat (first | (with_reducible first | exact HB.out | apply below_alloc | apply pw_below_drewN | apply below_drew1) | exact HB.out)) hb); clear HO128; clear HO131; clear HB; have HO128 := n0_; have HO131 := n1_; have HO136 := n2_; have HB := n3_; clear n0_ n1_ n2_ n3_; (try clear hb); (try clear hb2); (try clear hk); (try clear hi); (try clear ho0); obtain ⟨i055, hi055, _, hsz55, _⟩ := info_parts info5; obtain ⟨A55, hcut55, hA55, hC55⟩ := print_drop_of (P := Try.prog) (Value.int .u8) 0 22 5 .i64 Try.underlying22 hi055 hsz55 A0 c0 l0 1 (by omega) (of_decide_eq_true (by first | (with_reducible assumption) | assumption)) HC0.out; have HR137 := Aside0.mk (Kd.C_of_reads (h1 := fun _ => rfl) (hA55 _ (Kd.reads_of_C HR0.out))); have HC137 := Aside0.mk hC55; clear hA55 hC55 hi055 hsz55; obtain ⟨Ao56, co56, eo56, _⟩ := Kd.Q_slice HO128.out; subst eo56) | (go_at_call 18; (rw [show l0.length - 1 = (l0.drop 1).length from (List.length_drop ..).symm]); (with_reducible refine (bytes_Equal.calls _ _ t124 _ _ (l0.drop 1) true _ ?side1 ?side2 ?side3 ?side4 A45.out).mono ?_); (case side1 => repeat (first | exact (Kd.Q_reads' HO128.out).2.2 | (with_reducible refine Kd.C_alloc ?_ _) | (with_reducible refine Kd.C_drewN ?_ _) | (with_reducible refine Kd.C_drew ?_))); (case side2 => exact (Kd.Q_reads' HO128.out).2.1); (case side3 => repeat (first | exact (Kd.C_below HR137.out HB.out) | (with_reducible refine Kd.C_alloc ?_ _) | (with_reducible refine Kd.C_drewN ?_ _) | (with_reducible refine Kd.C_drew ?_))); (case side4 => exact HC137.out); rintro e w' ⟨rfl, ⟨nd, rfl⟩⟩; (try first | exact ⟨rfl, _, World.drewN_drewN _ _ _⟩ | exact ⟨rfl, _, Eq.trans (World.drewN_drewN _ _ _) (congrArg (World.drewN _) (Nat.add_assoc _ _ _))⟩); have p139 : 0 ≤ (0 : Int) := (by omega); have q139 : 0 < (l0.length : Int) := of_decide_eq_true (by first | (with_reducible assumption) | assumption); obtain ⟨ad139, e139, hx139_0⟩ := Kd.at_int HR0.out 0 p139 q139; cases e139; have qi139 : (0 < l0.length) = True := eq_true (by omega); (try rw [show ((0 : Int)).toNat = 0 from rfl] at hx139_0); (try rw [Addr.add_zero'] at hx139_0); replace hx139_0 := (HB.out.cell (World.block_lt_of_cell? w _ hx139_0)).trans hx139_0; replace p139 := eq_true p139; replace q139 := eq_true q139)); try go_wp2_with (first | (go_at_call 17; (with_reducible refine (impl_ReadBits.calls _ _ l0 t124 t125 t126 _ ?side1 ?side2 A40.out).mono ?_); (case side1 => repeat (first | exact (Kd.C_below HR0.out HB.out) | (with_reducible refine Kd.C_alloc ?_ _) | (with_reducible refine Kd.C_drewN ?_ _) | (with_reducible refine Kd.C_drew ?_))); (case side2 => exact HC0.out); rintro e w50 ⟨v127, rfl, ho0, hb⟩; have n0_ := Aside0.mk (Kd.Q_lower ho0 (below_size (by repeat (first | (with_reducible first | exact HB.out | apply below_alloc | apply pw_below_drewN | apply below_drew1) | exact HB.out)))); have n1_ := Aside0.mk (below_step (by repeat (first | (with_reducible first | exact HB.out | apply below_alloc | apply pw_below_drewN | apply below_drew1) | exact HB.out)) hb); clear HB; have HO128 := n0_; have HB := n1_; clear n0_ n1_; (try clear hb); (try clear hb2); (try clear hk); (try clear hi); (try clear ho0)) | ((with_reducible refine gate_dst (N := 62) rfl ?_); (try (refine gate_guard (by rfl) ?_; dsimp only)); refine Kd.R_lit (Kd.int .u8) _ 5 ?hg (N := 62) ?hd (xs := ([2, 64] : List Int)) (inner := [.int .u8 2, .int .u8 64]) (ok := fun _ => True) (okp := fun _ => True) ?hr ?hp (fun _ hk => hk) trivial (Below.refl _ _) (Nat.le_refl _) (by simp) ?_; (case hd => rfl); (case hg => rfl); (case hr => first | (go_simp; done) | (go_simp; rfl)); (case hp => exact (Reps.one (show Kd.M (Kd.int .u8) _ _ _ 2 [.int .u8 2] from rfl) (Reps.one (show Kd.M (Kd.int .u8) _ _ _ 64 [.int .u8 64] from rfl) (Reps.none _ _)))); intro v130 w51 ho52 hb hg_ hnew_; clear hg_ hnew_; (first | rw [← Ny129.out] at ho52 | (simp only [Int.reduceToNat] at ho52; rw [← Ny129.out] at ho52)); have n0_ := Aside0.mk (Kd.Q_elder' (by (with_reducible repeat (first | apply Kd.Q_alloc | apply Kd.Q_drewN | apply Kd.Q_drew)); exact HO128.out) (Kd.R_base ho52) hb); have n1_ := Aside0.mk (Kd.R_lower (Kd.R_new' ho52 (Kd.Q_lt (by (with_reducible repeat (first | apply Kd.Q_alloc | apply Kd.Q_drewN | apply Kd.Q_drew)); exact HO128.out))) (below_size (by repeat (first | (with_reducible first | exact HB.out | apply below_alloc | apply pw_below_drewN | apply below_drew1) | exact HB.out)))); have n2_ := Aside0.mk (below_step (by repeat (first | (with_reducible first | exact HB.out | apply below_alloc | apply pw_below_drewN | apply below_drew1) | exact HB.out)) hb); clear HO128; clear HB; have HO128 := n0_; have HO131 := n1_; have HB := n2_; clear n0_ n1_ n2_; clear hb ho52; obtain ⟨Ao53, co53, eo53⟩ := Kd.R_slice HO131.out; subst eo53) | (go_at_call 17; (with_reducible refine (impl_ReadBits.calls _ _ y129 t132 t133 true _ ?side1 ?side2 A41.out).mono ?_); (case side1 => repeat (first | exact (Kd.R_reads' HO131.out).2.2 | (with_reducible refine Kd.C_alloc ?_ _) | (with_reducible refine Kd.C_drewN ?_ _) | (with_reducible refine Kd.C_drew ?_))); (case side2 => exact (Kd.R_reads' HO131.out).2.1); rintro e w54 ⟨v135, rfl, ho0, hb⟩; have n0_ := Aside0.mk (Kd.Q_elder' (by (with_reducible repeat (first | apply Kd.Q_alloc | apply Kd.Q_drewN | apply Kd.Q_drew)); exact HO128.out) (Kd.Q_base ho0) hb); have n1_ := Aside0.mk (Kd.R_elder' (by (with_reducible repeat (first | apply Kd.R_alloc | apply Kd.R_drewN | apply Kd.R_drew)); exact HO131.out) (Kd.Q_base ho0) hb); have n2_ := Aside0.mk (Kd.Q_lower (Kd.Q_new' (Kd.Q_new' ho0 (Kd.Q_lt (by (with_reducible repeat (first | apply Kd.Q_alloc | apply Kd.Q_drewN | apply Kd.Q_drew)); exact HO128.out))) (Kd.R_lt (by (with_reducible repeat (first | apply Kd.R_alloc | apply Kd.R_drewN | apply Kd.R_drew)); exact HO131.out))) (below_size (by repeat (first | (with_reducible first | exact HB.out | apply below_alloc | apply pw_below_drewN | apply below_drew1) | exact HB.out)))); have n3_ := Aside0.mk (below_step (by repeat (first | (with_reducible first | exact HB.out | apply below_alloc | apply pw_below_drewN | apply below_drew1) | exact HB.out)) hb); clear HO128; clear HO131; clear HB; have HO128 := n0_; have HO131 := n1_; have HO136 := n2_; have HB := n3_; clear n0_ n1_ n2_ n3_; (try clear hb); (try clear hb2); (try clear hk); (try clear hi); (try clear ho0); obtain ⟨i055, hi055, _, hsz55, _⟩ := info_parts info5; obtain ⟨A55, hcut55, hA55, hC55⟩ := print_drop_of (P := Try.prog) (Value.int .u8) 0 22 5 .i64 Try.underlying22 hi055 hsz55 A0 c0 l0 1 (by omega) (of_decide_eq_true (by first | (with_reducible assumption) | assumption)) HC0.out; have HR137 := Aside0.mk (Kd.C_of_reads (h1 := fun _ => rfl) (hA55 _ (Kd.reads_of_C HR0.out))); have HC137 := Aside0.mk hC55; clear hA55 hC55 hi055 hsz55; obtain ⟨Ao56, co56, eo56, _⟩ := Kd.Q_slice HO128.out; subst eo56) | (go_at_call 18; (rw [show l0.length - 1 = (l0.drop 1).length from (List.length_drop ..).symm]); (with_reducible refine (bytes_Equal.calls _ _ t124 _ _ (l0.drop 1) true _ ?side1 ?side2 ?side3 ?side4 A45.out).mono ?_); (case side1 => repeat (first | exact (Kd.Q_reads' HO128.out).2.2 | (with_reducible refine Kd.C_alloc ?_ _) | (with_reducible refine Kd.C_drewN ?_ _) | (with_reducible refine Kd.C_drew ?_))); (case side2 => exact (Kd.Q_reads' HO128.out).2.1); (case side3 => repeat (first | exact (Kd.C_below HR137.out HB.out) | (with_reducible refine Kd.C_alloc ?_ _) | (with_reducible refine Kd.C_drewN ?_ _) | (with_reducible refine Kd.C_drew ?_))); (case side4 => exact HC137.out); rintro e w' ⟨rfl, ⟨nd, rfl⟩⟩; (try first | exact ⟨rfl, _, World.drewN_drewN _ _ _⟩ | exact ⟨rfl, _, Eq.trans (World.drewN_drewN _ _ _) (congrArg (World.drewN _) (Nat.add_assoc _ _ _))⟩); have p139 : 0 ≤ (0 : Int) := (by omega); have q139 : 0 < (l0.length : Int) := of_decide_eq_true (by first | (with_reducible assumption) | assumption); obtain ⟨ad139, e139, hx139_0⟩ := Kd.at_int HR0.out 0 p139 q139; cases e139; have qi139 : (0 < l0.length) = True := eq_true (by omega); (try rw [show ((0 : Int)).toNat = 0 from rfl] at hx139_0); (try rw [Addr.add_zero'] at hx139_0); replace hx139_0 := (HB.out.cell (World.block_lt_of_cell? w _ hx139_0)).trans hx139_0; replace p139 := eq_true p139; replace q139 := eq_true q139)))
                              go_ret
                              exact ⟨by first | rfl | (simp [errW_none, errW_some] <;> rfl) | (simp [*, errW_none, errW_some] <;> rfl), by repeat (first | (with_reducible first | exact HB.out | apply below_alloc | apply pw_below_drewN | apply below_drew1) | exact HB.out)⟩
                            · replace c49 := Bool.eq_false_iff.mpr c49
                              subst c49
                              have H1 : (some false) = some r := by rw [if_neg (show ¬ (false = true) by decide)] at H; exact H
                              clear H
                              have H := H1
                              clear H1
                              exact absurd (Option.some.inj H) (by rw [HRT.out]; simp)
                          · rw [if_neg c48] at H
                            have c48b0 : (t125 == (wrap64 ((wrap64 (8 * (wrap64 ((l0.length : Int) - 1)))) - (wrap64 (rd l0 0))))) = false := beq_eq_false_iff_ne.mpr c48
                            have c48b1 : (t125 != (wrap64 ((wrap64 (8 * (wrap64 ((l0.length : Int) - 1)))) - (wrap64 (rd l0 0))))) = true := bne_iff_ne.mpr c48
                            exact absurd (Option.some.inj H) (by rw [HRT.out]; simp)
                        · rw [if_neg c47] at H
                          exact absurd H (by simp)
                      · replace c46 := Bool.eq_false_iff.mpr c46
                        subst c46
                        have H1 : (some false) = some r := by rw [if_neg (show ¬ (false = true) by decide)] at H; exact H
                        clear H
                        have H := H1
                        clear H1
                        exact absurd (Option.some.inj H) (by rw [HRT.out]; simp)
                    · rw [if_neg c44] at H
                      exact absurd H (by simp)
                  · replace c43 := Bool.eq_false_iff.mpr c43
                    subst c43
                    have H1 : (if t134 = true then (some (t133 == 6)) else (some false)) = some r := by rw [if_neg (show ¬ (false = true) by decide)] at H; exact H
                    clear H
                    have H := H1
                    clear H1
                    by_cases c57 : t134 = true
                    · subst c57
                      have H1 : (some (t133 == 6)) = some r := by rw [if_pos rfl] at H; exact H
                      clear H
                      have H := H1
                      clear H1
                      obtain rfl := Option.some.inj H
                      go_wp2_with (first | (go_at_call 17; (with_reducible refine (impl_ReadBits.calls _ _ l0 t124 t125 t126 _ ?side1 ?side2 A40.out).mono ?_); (case side1 => repeat (first | exact (Kd.C_below HR0.out HB.out) | (with_reducible refine Kd.C_alloc ?_ _) | (with_reducible refine Kd.C_drewN ?_ _) | (with_reducible refine Kd.C_drew ?_))); (case side2 => exact HC0.out); rintro e w58 ⟨v127, rfl, ho0, hb⟩; have n0_ := Aside0.mk (Kd.Q_lower ho0 (below_size (by repeat (first | (with_reducible first | exact HB.out | apply below_alloc | apply pw_below_drewN | apply below_drew1) | exact HB.out)))); have n1_ := Aside0.mk (below_step (by repeat (first | (with_reducible first | exact HB.out | apply below_alloc | apply pw_below_drewN | apply below_drew1) | exact HB.out)) hb); clear HB; have HO128 := n0_; have HB := n1_; clear n0_ n1_; (try clear hb); (try clear hb2); (try clear hk); (try clear hi); (try clear ho0)) | ((with_reducible refine gate_dst (N := 62) rfl ?_); (try (refine gate_guard (by rfl) ?_; dsimp only)); refine Kd.R_lit (Kd.int .u8) _ 5 ?hg (N := 62) ?hd (xs := ([2, 64] : List Int)) (inner := [.int .u8 2, .int .u8 64]) (ok := fun _ => True) (okp := fun _ => True) ?hr ?hp (fun _ hk => hk) trivial (Below.refl _ _) (Nat.le_refl _) (by simp) ?_; (case hd => rfl); (case hg => rfl); (case hr => first | (go_simp; done) | (go_simp; rfl)); (case hp => exact (Reps.one (show Kd.M (Kd.int .u8) _ _ _ 2 [.int .u8 2] from rfl) (Reps.one (show Kd.M (Kd.int .u8) _ _ _ 64 [.int .u8 64] from rfl) (Reps.none _ _)))); intro v130 w59 ho60 hb hg_ hnew_; clear hg_ hnew_; (first | rw [← Ny129.out] at ho60 | (simp only [Int.reduceToNat] at ho60; rw [← Ny129.out] at ho60)); have n0_ := Aside0.mk (Kd.Q_elder' (by (with_reducible repeat (first | apply Kd.Q_alloc | apply Kd.Q_drewN | apply Kd.Q_drew)); exact HO128.out) (Kd.R_base ho60) hb); have n1_ := Aside0.mk (Kd.R_lower (Kd.R_new' ho60 (Kd.Q_lt (by (with_reducible repeat (first | apply Kd.Q_alloc | apply Kd.Q_drewN | apply Kd.Q_drew)); exact HO128.out))) (below_size (by repeat (first | (with_reducible first | exact HB.out | apply below_alloc | apply pw_below_drewN | apply below_drew1) | exact HB.out)))); have n2_ := Aside0.mk (below_step (by repeat (first | (with_reducible first | exact HB.out | apply below_alloc | apply pw_below_drewN | apply below_drew1) | exact HB.out)) hb); clear HO128; clear HB; have HO128 := n0_; have HO131 := n1_; have HB := n2_; clear n0_ n1_ n2_; clear hb ho60; obtain ⟨Ao61, co61, eo61⟩ := Kd.R_slice HO131.out; subst eo61) | (go_at_call 17; (with_reducible refine (impl_ReadBits.calls _ _ y129 t132 t133 true _ ?side1 ?side2 A41.out).mono ?_); (case side1 => repeat (first | exact (Kd.R_reads' HO131.out).2.2 | (with_reducible refine Kd.C_alloc ?_ _) | (with_reducible refine Kd.C_drewN ?_ _) | (with_reducible refine Kd.C_drew ?_))); (case side2 => exact (Kd.R_reads' HO131.out).2.1); rintro e w62 ⟨v135, rfl, ho0, hb⟩; have n0_ := Aside0.mk (Kd.Q_elder' (by (with_reducible repeat (first | apply Kd.Q_alloc | apply Kd.Q_drewN | apply Kd.Q_drew)); exact HO128.out) (Kd.Q_base ho0) hb); have n1_ := Aside0.mk (Kd.R_elder' (by (with_reducible repeat (first | apply Kd.R_alloc | apply Kd.R_drewN | apply Kd.R_drew)); exact HO131.out) (Kd.Q_base ho0) hb); have n2_ := Aside0.mk (Kd.Q_lower (Kd.Q_new' (Kd.Q_new' ho0 (Kd.Q_lt (by (with_reducible repeat (first | apply Kd.Q_alloc | apply Kd.Q_drewN | apply Kd.Q_drew)); exact HO128.out))) (Kd.R_lt (by (with_reducible repeat (first | apply Kd.R_alloc | apply Kd.R_drewN | apply Kd.R_drew)); exact HO131.out))) (below_size (by repeat (first | (with_reducible first | exact HB.out | apply below_alloc | apply pw_below_drewN | apply below_drew1) | exact HB.out)))); have n3_ := Aside0.mk (below_step (by repeat (first | (with_reducible first | exact HB.out | apply below_alloc | apply pw_below_drewN | apply below_drew1) | exact HB.out)) hb); clear HO128; clear HO131; clear HB; have HO128 := n0_; have HO131 := n1_; have HO136 := n2_; have HB := n3_; clear n0_ n1_ n2_ n3_; (try clear hb); (try clear hb2); (try clear hk); (try clear hi); (try clear ho0)))
                      repeat (go_quiet (first | (go_at_call 17; (with_reducible refine (impl_ReadBits.calls _ _ l0 t124 t125 t126 _ ?side1 ?side2 A40.out).mono ?_); (case side1 => repeat (first | exact (Kd.C_below HR0.out HB.out) | (with_reducible refine Kd.C_alloc ?_ _) | (with_reducible refine Kd.C_drewN ?_ _) | (with_reducible refine Kd.C_drew ?_))); (case side2 => exact HC0.out); rintro e w58 ⟨v127, rfl, ho0, hb⟩; have n0_ := Aside0.mk (Kd.Q_lower ho0 (below_size (by repeat (first | (with_reducible first | exact HB.out | apply below_alloc | apply pw_below_drewN | apply below_drew1) | exact HB.out)))); have n1_ := Aside0.mk (below_step (by repeat (first | (with_reducible first | exact HB.out | apply below_alloc | apply pw_below_drewN | apply below_drew1) | exact HB.out)) hb); clear HB; have HO128 := n0_; have HB := n1_; clear n0_ n1_; (try clear hb); (try clear hb2); (try clear hk); (try clear hi); (try clear ho0)) | ((with_reducible refine gate_dst (N := 62) rfl ?_); (try (refine gate_guard (by rfl) ?_; dsimp only)); refine Kd.R_lit (Kd.int .u8) _ 5 ?hg (N := 62) ?hd (xs := ([2, 64] : List Int)) (inner := [.int .u8 2, .int .u8 64]) (ok := fun _ => True) (okp := fun _ => True) ?hr ?hp (fun _ hk => hk) trivial (Below.refl _ _) (Nat.le_refl _) (by simp) ?_; (case hd => rfl); (case hg => rfl); (case hr => first | (go_simp; done) | (go_simp; rfl)); (case hp => exact (Reps.one (show Kd.M (Kd.int .u8) _ _ _ 2 [.int .u8 2] from rfl) (Reps.one (show Kd.M (Kd.int .u8) _ _ _ 64 [.int .u8 64] from rfl) (Reps.none _ _)))); intro v130 w59 ho60 hb hg_ hnew_; clear hg_ hnew_; (first | rw [← Ny129.out] at ho60 | (simp only [Int.reduceToNat] at ho60; rw [← Ny129.out] at ho60)); have n0_ := Aside0.mk (Kd.Q_elder' (by (with_reducible repeat (first | apply Kd.Q_alloc | apply Kd.Q_drewN | apply Kd.Q_drew)); exact HO128.out) (Kd.R_base ho60) hb); have n1_ := Aside0.mk (Kd.R_lower (Kd.R_new' ho60 (Kd.Q_lt (by (with_reducible repeat (first | apply Kd.Q_alloc | apply Kd.Q_drewN | apply Kd.Q_drew)); exact HO128.out))) (below_size (by repeat (first | (with_reducible first | exact HB.out | apply below_alloc | apply pw_below_drewN | apply below_drew1) | exact HB.out)))); have n2_ := Aside0.mk (below_step (by repeat (first | (with_reducible first | exact HB.out | apply below_alloc | apply pw_below_drewN | apply below_drew1) | exact HB.out)) hb); clear HO128; clear HB; have HO128 := n0_; have HO131 := n1_; have HB := n2_; clear n0_ n1_ n2_; clear hb ho60; obtain ⟨Ao61, co61, eo61⟩ := Kd.R_slice HO131.out; subst eo61) | (go_at_call 17; (with_reducible refine (impl_ReadBits.calls _ _ y129 t132 t133 true _ ?side1 ?side2 A41.out).mono ?_); (case side1 => repeat (first | exact (Kd.R_reads' HO131.out).2.2 | (with_reducible refine Kd.C_alloc ?_ _) | (with_reducible refine Kd.C_drewN ?_ _) | (with_reducible refine Kd.C_drew ?_))); (case side2 => exact (Kd.R_reads' HO131.out).2.1); rintro e w62 ⟨v135, rfl, ho0, hb⟩; have n0_ := Aside0.mk (Kd.Q_elder' (by (with_reducible repeat (first | apply Kd.Q_alloc | apply Kd.Q_drewN | apply Kd.Q_drew)); exact HO128.out) (Kd.Q_base ho0) hb); have n1_ := Aside0.mk (Kd.R_elder' (by (with_reducible repeat (first | apply Kd.R_alloc | apply Kd.R_drewN | apply Kd.R_drew)); exact HO131.out) (Kd.Q_base ho0) hb); have n2_ := Aside0.mk (Kd.Q_lower (Kd.Q_new' (Kd.Q_new' ho0 (Kd.Q_lt (by (with_reducible repeat (first | apply Kd.Q_alloc | apply Kd.Q_drewN | apply Kd.Q_drew)); exact HO128.out))) (Kd.R_lt (by (with_reducible repeat (first | apply Kd.R_alloc | apply Kd.R_drewN | apply Kd.R_drew)); exact HO131.out))) (below_size (by repeat (first | (with_reducible first | exact HB.out | apply below_alloc | apply pw_below_drewN | apply below_drew1) | exact HB.out)))); have n3_ := Aside0.mk (below_step (by repeat (first | (with_reducible first | exact HB.out | apply below_alloc | apply pw_below_drewN | apply below_drew1) | exact HB.out)) hb); clear HO128; clear HO131; clear HB; have HO128 := n0_; have HO131 := n1_; have HO136 := n2_; have HB := n3_; clear n0_ n1_ n2_ n3_; (try clear hb); (try clear hb2); (try clear hk); (try clear hi); (try clear ho0))); try go_wp2_with (first | (go_at_call 17; (with_reducible refine (impl_ReadBits.calls _ _ l0 t124 t125 t126 _ ?side1 ?side2 A40.out).mono ?_); (case side1 => repeat (first | exact (Kd.C_below HR0.out HB.out) | (with_reducible refine Kd.C_alloc ?_ _) | (with_reducible refine Kd.C_drewN ?_ _) | (with_reducible refine Kd.C_drew ?_))); (case side2 => exact HC0.out); rintro e w58 ⟨v127, rfl, ho0, hb⟩; have n0_ := Aside0.mk (Kd.Q_lower ho0 (below_size (by repeat (first | (with_reducible first | exact HB.out | apply below_alloc | apply pw_below_drewN | apply below_drew1) | exact HB.out)))); have n1_ := Aside0.mk (below_step (by repeat (first | (with_reducible first | exact HB.out | apply below_alloc | apply pw_below_drewN | apply below_drew1) | exact HB.out)) hb); clear HB; have HO128 := n0_; have HB := n1_; clear n0_ n1_; (try clear hb); (try clear hb2); (try clear hk); (try clear hi); (try clear ho0)) | ((with_reducible refine gate_dst (N := 62) rfl ?_); (try (refine gate_guard (by rfl) ?_; dsimp only)); refine Kd.R_lit (Kd.int .u8) _ 5 ?hg (N := 62) ?hd (xs := ([2, 64] : List Int)) (inner := [.int .u8 2, .int .u8 64]) (ok := fun _ => True) (okp := fun _ => True) ?hr ?hp (fun _ hk => hk) trivial (Below.refl _ _) (Nat.le_refl _) (by simp) ?_; (case hd => rfl); (case hg => rfl); (case hr => first | (go_simp; done) | (go_simp; rfl)); (case hp => exact (Reps.one (show Kd.M (Kd.int .u8) _ _ _ 2 [.int .u8 2] from rfl) (Reps.one (show Kd.M (Kd.int .u8) _ _ _ 64 [.int .u8 64] from rfl) (Reps.none _ _)))); intro v130 w59 ho60 hb hg_ hnew_; clear hg_ hnew_; (first | rw [← Ny129.out] at ho60 | (simp only [Int.reduceToNat] at ho60; rw [← Ny129.out] at ho60)); have n0_ := Aside0.mk (Kd.Q_elder' (by (with_reducible repeat (first | apply Kd.Q_alloc | apply Kd.Q_drewN | apply Kd.Q_drew)); exact HO128.out) (Kd.R_base ho60) hb); have n1_ := Aside0.mk (Kd.R_lower (Kd.R_new' ho60 (Kd.Q_lt (by (with_reducible repeat (first | apply Kd.Q_alloc | apply Kd.Q_drewN | apply Kd.Q_drew)); exact HO128.out))) (below_size (by repeat (first | (with_reducible first | exact HB.out | apply below_alloc | apply pw_below_drewN | apply below_drew1) | exact HB.out)))); have n2_ := Aside0.mk (below_step (by repeat (first | (with_reducible first | exact HB.out | apply below_alloc | apply pw_below_drewN | apply below_drew1) | exact HB.out)) hb); clear HO128; clear HB; have HO128 := n0_; have HO131 := n1_; have HB := n2_; clear n0_ n1_ n2_; clear hb ho60; obtain ⟨Ao61, co61, eo61⟩ := Kd.R_slice HO131.out; subst eo61) | (go_at_call 17; (with_reducible refine (impl_ReadBits.calls _ _ y129 t132 t133 true _ ?side1 ?side2 A41.out).mono ?_); (case side1 => repeat (first | exact (Kd.R_reads' HO131.out).2.2 | (with_reducible refine Kd.C_alloc ?_ _) | (with_reducible refine Kd.C_drewN ?_ _) | (with_reducible refine Kd.C_drew ?_))); (case side2 => exact (Kd.R_reads' HO131.out).2.1); rintro e w62 ⟨v135, rfl, ho0, hb⟩; have n0_ := Aside0.mk (Kd.Q_elder' (by (with_reducible repeat (first | apply Kd.Q_alloc | apply Kd.Q_drewN | apply Kd.Q_drew)); exact HO128.out) (Kd.Q_base ho0) hb); have n1_ := Aside0.mk (Kd.R_elder' (by (with_reducible repeat (first | apply Kd.R_alloc | apply Kd.R_drewN | apply Kd.R_drew)); exact HO131.out) (Kd.Q_base ho0) hb); have n2_ := Aside0.mk (Kd.Q_lower (Kd.Q_new' (Kd.Q_new' ho0 (Kd.Q_lt (by (with_reducible repeat (first | apply Kd.Q_alloc | apply Kd.Q_drewN | apply Kd.Q_drew)); exact HO128.out))) (Kd.R_lt (by (with_reducible repeat (first | apply Kd.R_alloc | apply Kd.R_drewN | apply Kd.R_drew)); exact HO131.out))) (below_size (by repeat (first | (with_reducible first | exact HB.out | apply below_alloc | apply pw_below_drewN | apply below_drew1) | exact HB.out)))); have n3_ := Aside0.mk (below_step (by repeat (first | (with_reducible first | exact HB.out | apply below_alloc | apply pw_below_drewN | apply below_drew1) | exact HB.out)) hb); clear HO128; clear HO131; clear HB; have HO128 := n0_; have HO131 := n1_; have HO136 := n2_; have HB := n3_; clear n0_ n1_ n2_ n3_; (try clear hb); (try clear hb2); (try clear hk); (try clear hi); (try clear ho0))))
                      go_ret
                      exact ⟨by first | rfl | (simp [errW_none, errW_some] <;> rfl) | (simp [*, errW_none, errW_some] <;> rfl), by repeat (first | (with_reducible first | exact HB.out | apply below_alloc | apply pw_below_drewN | apply below_drew1) | exact HB.out)⟩
                    · replace c57 := Bool.eq_false_iff.mpr c57
                      subst c57
                      have H1 : (some false) = some r := by rw [if_neg (show ¬ (false = true) by decide)] at H; exact H
                      clear H
                      have H := H1
                      clear H1
                      exact absurd (Option.some.inj H) (by rw [HRT.out]; simp)
                · rw [if_neg c42] at H
                  have c42b0 : (t126 == x3_3) = false := by simpa using c42
                  (try (have c42b1 : t126 = !(x3_3) := bool_ne_of _ _ (by simpa using c42)))
                  (try (have c42b2 : decide (t126 = x3_3) = false := by simpa using c42))
                  (try (have c42b3 : (t126 == x3_3) = false := by simpa using c42))
                  (try (have c42b4 : ¬ (t126 = x3_3) := by simpa using c42))
                  clear c42
                  exact absurd (Option.some.inj H) (by rw [HRT.out]; simp)

/-- THE ONE PURE STATEMENT of laws_FnReadBits: yours. -/
def laws_FnReadBits.Pure : Prop := ∀ (l0 : List Int), l0.length ≤ maxLen → l0.length * 1 ≤ 140737488351232 → (∀ x ∈ l0, (Lit.int .u8 x).wf = true) → ∃ k, laws_FnReadBits.f k l0 = some true
theorem laws_FnReadBits.walk (P : laws_FnReadBits.Pure) (a0 : Option Addr) (len0 cap0 : Nat) (z0 : List Int) (w : World) (w0 : (a0 = none ∧ len0 = 0 ∧ cap0 = 0 ∧ z0 = []) ∨ ∃ x, a0 = some x ∧ len0 ≤ cap0 ∧ cap0 ≤ maxLen ∧ z0.length = cap0 ∧ (∀ i, i < z0.length → w.cell? (x.add i) = some (.int .u8 (z0.getD i 0))) ∧ ∀ n ∈ z0, (Lit.int .u8 n).wf = true) (y0 : len0 * 1 ≤ 140737488351232) :
    Calls Try.prog 5 #[.slice a0 len0 cap0] w fun e w' => e = .returned (.bool true) ∧ Below w.heap.size w w' := by
  obtain ⟨l0, rfl, hr0, hm0, hw0, hc0⟩ := ReadsInt.ofRowC w0
  obtain ⟨k, h⟩ := P l0 hm0 y0 hw0
  refine (laws_FnReadBits.calls k _ _ l0 true w (Kd.C_of_reads (d := (0 : Int)) (h1 := fun _ => rfl) hr0) hc0 h rfl).mono ?_
  rintro e w' ⟨rfl, hd⟩
  exact ⟨rfl, hd⟩

end Go.Proofs.Ytapnkngcnlomhaa.QB
