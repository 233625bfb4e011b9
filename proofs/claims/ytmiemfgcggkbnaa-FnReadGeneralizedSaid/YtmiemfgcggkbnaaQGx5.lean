-- Written by a program of this work (wip/patch_print.py) for this claim.
import Derived.Test.YtmiemfgcggkbnaaQGx0
import Derived.Test.YtmiemfgcggkbnaaQGx4
namespace Go.Proofs.Ytmiemfgcggkbnaa.QG
open Go.RowKit Go.Proofs.YtmiemfgcggkbnaaW.PrintWords Go.Proofs.YtmiemfgcggkbnaaW.PrintLast Go.Proofs.YtmiemfgcggkbnaaW.PrintMore
attribute [local go_sem] max2_int min2_int max_two min_two max_three min_three max_four min_four   -- for this text's walks alone
set_option linter.unusedVariables false
set_option linter.unusedSimpArgs false

/-! ### asn1_zzZone: function 100 -/
mutual
def asn1_zzZone.j0 : Nat → ByteArray → Bool → Option (Int × Bool)
  | 0, _, _ => none
  | k + 1, x0, x25 => if x25 = true then (some (0, false)) else (if 1 ≤ (x0.size : Int) then ((asn1_zzDigits.f k (x0.extract 1 x0.size) 2).bind fun bt109 => ((asn1_zzDigits.f k bt109.2.1 2).bind fun bt112 => (if bt109.2.2 = true then (if bt112.2.2 = true then (if bt109.1 > 24 then (asn1_zzZone.j1 k x0 (wrap64 ((wrap64 (bt109.1 * 60)) + bt112.1)) true) else (if bt112.1 > 59 then (asn1_zzZone.j1 k x0 (wrap64 ((wrap64 (bt109.1 * 60)) + bt112.1)) true) else (asn1_zzZone.j1 k x0 (wrap64 ((wrap64 (bt109.1 * 60)) + bt112.1)) ((wrap64 ((wrap64 (bt109.1 * 60)) + bt112.1)) == 0)))) else (asn1_zzZone.j1 k x0 (wrap64 ((wrap64 (bt109.1 * 60)) + bt112.1)) true)) else (asn1_zzZone.j1 k x0 (wrap64 ((wrap64 (bt109.1 * 60)) + bt112.1)) true)))) else (none))
def asn1_zzZone.j1 : Nat → ByteArray → Int → Bool → Option (Int × Bool)
  | 0, _, _, _ => none
  | k + 1, x0, x10, x60 => if x60 = true then (some (0, false)) else (if 0 < (x0.size : Int) then (if (bt x0 0) = 45 then (some (wrap64 (-x10), true)) else (some (x10, true))) else (none))
end
def asn1_zzZone.f (k : Nat) (a0 : ByteArray) : Option (Int × Bool) := if a0.toList = ([90] : List UInt8) then (some (0, true)) else (if (a0.size : Int) = 5 then (if 0 < (a0.size : Int) then (if (bt a0 0) = 43 then (asn1_zzZone.j0 k a0 false) else (asn1_zzZone.j0 k a0 ((bt a0 0) != 45))) else (none)) else (asn1_zzZone.j0 k a0 true))
theorem asn1_zzZone.mono_l : ∀ k, (∀ y0 y1, LeO (asn1_zzZone.j0 k y0 y1) (asn1_zzZone.j0 (k + 1) y0 y1)) ∧ (∀ y0 y1 y2, LeO (asn1_zzZone.j1 k y0 y1 y2) (asn1_zzZone.j1 (k + 1) y0 y1 y2))
  | 0 => ⟨fun _ _ r h => by simp [asn1_zzZone.j0] at h, fun _ _ _ r h => by simp [asn1_zzZone.j1] at h⟩
  | k + 1 => by
    obtain ⟨ih0, ih1⟩ := asn1_zzZone.mono_l k
    refine ⟨?_, ?_⟩
    · intro y0 y1
      unfold asn1_zzZone.j0
      repeat' first
      | (with_reducible exact ih0 _ _)
      | (with_reducible exact ih1 _ _ _)
      | (with_reducible exact asn1_zzDigits.mono _ _ _)
      | (with_reducible exact LeO.refl _)
      | (with_reducible exact LeO.none _)
      | (with_reducible refine LeO.ite ?_ ?_)
      | (with_reducible refine LeO.bind ?_ (fun _ => ?_))
      | exact ih0 _ _
      | exact ih1 _ _ _
      | exact asn1_zzDigits.mono _ _ _
      | exact LeO.none _
      | refine LeO.ite ?_ ?_
      | refine LeO.bind ?_ (fun _ => ?_)
    · intro y0 y1 y2
      unfold asn1_zzZone.j1
      repeat' first
      | (with_reducible exact ih0 _ _)
      | (with_reducible exact ih1 _ _ _)
      | (with_reducible exact asn1_zzDigits.mono _ _ _)
      | (with_reducible exact LeO.refl _)
      | (with_reducible exact LeO.none _)
      | (with_reducible refine LeO.ite ?_ ?_)
      | (with_reducible refine LeO.bind ?_ (fun _ => ?_))
      | exact ih0 _ _
      | exact ih1 _ _ _
      | exact asn1_zzDigits.mono _ _ _
      | exact LeO.none _
      | refine LeO.ite ?_ ?_
      | refine LeO.bind ?_ (fun _ => ?_)
theorem asn1_zzZone.mono : ∀ a0 k, LeO (asn1_zzZone.f k a0) (asn1_zzZone.f (k + 1) a0) := by
  intro a0 k
  obtain ⟨ih0, ih1⟩ := asn1_zzZone.mono_l k
  unfold asn1_zzZone.f
  repeat' first
      | (with_reducible exact ih0 _ _)
      | (with_reducible exact ih1 _ _ _)
      | (with_reducible exact asn1_zzDigits.mono _ _ _)
      | (with_reducible exact LeO.refl _)
      | (with_reducible exact LeO.none _)
      | (with_reducible refine LeO.ite ?_ ?_)
      | (with_reducible refine LeO.bind ?_ (fun _ => ?_))
      | exact ih0 _ _
      | exact ih1 _ _ _
      | exact asn1_zzDigits.mono _ _ _
      | exact LeO.none _
      | refine LeO.ite ?_ ?_
      | refine LeO.bind ?_ (fun _ => ?_)
set_option maxHeartbeats 8000000 in
set_option maxRecDepth 100000 in
theorem asn1_zzZone.calls (k : Nat) (a0 : ByteArray) (r1 : Int) (r2 : Bool) (w : World) (h : asn1_zzZone.f k a0 = some (r1, r2)) :
    Calls Try.prog 100 #[.string a0] w fun e w' => e = .returned (.tuple #[.int .i64 r1, .bool r2]) ∧ Drawn0 w w' := by
  have H : (if a0.toList = ([90] : List UInt8) then (some (0, true)) else (if (a0.size : Int) = 5 then (if 0 < (a0.size : Int) then (if (bt a0 0) = 43 then (asn1_zzZone.j0 k a0 false) else (asn1_zzZone.j0 k a0 ((bt a0 0) != 45))) else (none)) else (asn1_zzZone.j0 k a0 true))) = some (r1, r2) := h
  clear h
  by_cases c2 : a0.toList = ([90] : List UInt8)
  · rw [if_pos c2] at H
    have c2b0 : (a0.toList == ([90] : List UInt8)) = true := beq_iff_eq.mpr c2
    have c2b1 : (a0.toList != ([90] : List UInt8)) = false := bne_eq_false_iff_eq.mpr c2
    clear c2
    simp only [Option.some.injEq, Prod.mk.injEq] at H
    obtain ⟨rfl, rfl⟩ := H
    go_enter Try.func100, Try.ntmps100
    go_wp2
    go_ret2
    exact ⟨by first | rfl | (simp; done) | (simp [*]; done), by repeat (first | exact Drawn0.refl _ | apply Drawn0.step)⟩
  · rw [if_neg c2] at H
    have c2b0 : (a0.toList == ([90] : List UInt8)) = false := beq_eq_false_iff_ne.mpr c2
    have c2b1 : (a0.toList != ([90] : List UInt8)) = true := bne_iff_ne.mpr c2
    have HC3 := Aside0.mk H
    clear H
    go_enter Try.func100, Try.ntmps100
    go_upto_region 3 with (fail)
    go_cut [25] (fun v25 wc => ∃ (kq : Nat) (x25_2 : Bool), v25 = .bool x25_2 ∧ Aside0 (asn1_zzZone.j0 kq a0 x25_2 = some (r1, r2)) ∧ Aside0 (kq ≤ k) ∧ Drawn0 w wc)
    case first =>
      have H := HC3.out
      clear HC3
      by_cases c4 : (a0.size : Int) = 5
      · rw [if_pos c4] at H
        have c4b0 : ((a0.size : Int) == 5) = true := beq_iff_eq.mpr c4
        have c4b1 : ((a0.size : Int) != 5) = false := bne_eq_false_iff_eq.mpr c4
        clear c4
        (first | rw [c4b0] | (simp only [i64_w, i32_w]; rw [c4b0]) | skip)
        by_cases c5 : 0 < (a0.size : Int)
        · rw [if_pos c5] at H
          have c5b0 : decide (0 < (a0.size : Int)) = true := decide_eq_true c5
          have c5b1 : decide (0 < a0.size) = true := decide_eq_true (by omega)
          clear c5
          by_cases c7 : (bt a0 0) = 43
          · rw [if_pos c7] at H
            have c7b0 : ((bt a0 0) == 43) = true := beq_iff_eq.mpr c7
            have c7b1 : ((bt a0 0) != 43) = false := bne_eq_false_iff_eq.mpr c7
            clear c7
            have H' := Aside0.mk H
            clear H
            have p6 : 0 ≤ (0 : Int) := (by omega)
            have q6 : 0 < a0.size := (by have : (0 : Int) < (a0.size : Int) := of_decide_eq_true (by first | (with_reducible assumption) | assumption); omega)
            have hx6 : ∀ h : 0 < a0.size, ((a0[0]'h).toNat : Int) = bt a0 0 := bt_at a0 0
            clear p6
            have qi6 : (0 < (a0.size : Int)) = True := eq_true (of_decide_eq_true (by first | (with_reducible assumption) | assumption))
            replace q6 := eq_true q6
            go_wp2
            go_meet
            case rel => exact ⟨_, (false), (by first | rfl | (simp; done) | (simp [*]; done)), H', ⟨by first | omega | exact Nat.le_refl _⟩, by repeat (first | exact Drawn0.refl _ | apply Drawn0.step)⟩
          · rw [if_neg c7] at H
            have c7b0 : ((bt a0 0) == 43) = false := beq_eq_false_iff_ne.mpr c7
            have c7b1 : ((bt a0 0) != 43) = true := bne_iff_ne.mpr c7
            have H' := Aside0.mk H
            clear H
            have p6 : 0 ≤ (0 : Int) := (by omega)
            have q6 : 0 < a0.size := (by have : (0 : Int) < (a0.size : Int) := of_decide_eq_true (by first | (with_reducible assumption) | assumption); omega)
            have hx6 : ∀ h : 0 < a0.size, ((a0[0]'h).toNat : Int) = bt a0 0 := bt_at a0 0
            clear p6
            have qi6 : (0 < (a0.size : Int)) = True := eq_true (of_decide_eq_true (by first | (with_reducible assumption) | assumption))
            replace q6 := eq_true q6
            have p8 : 0 ≤ (0 : Int) := (by omega)
            have q8 : 0 < a0.size := (by have : (0 : Int) < (a0.size : Int) := of_decide_eq_true (by first | (with_reducible assumption) | assumption); omega)
            have hx8 : ∀ h : 0 < a0.size, ((a0[0]'h).toNat : Int) = bt a0 0 := bt_at a0 0
            clear p8
            have qi8 : (0 < (a0.size : Int)) = True := eq_true (of_decide_eq_true (by first | (with_reducible assumption) | assumption))
            replace q8 := eq_true q8
            go_wp2
            go_meet
            case rel => exact ⟨_, (((bt a0 0) != 45)), (by first | rfl | (simp; done) | (simp [*]; done)), H', ⟨by first | omega | exact Nat.le_refl _⟩, by repeat (first | exact Drawn0.refl _ | apply Drawn0.step)⟩
        · rw [if_neg c5] at H
          exact absurd H (by simp)
      · rw [if_neg c4] at H
        have c4b0 : ((a0.size : Int) == 5) = false := beq_eq_false_iff_ne.mpr c4
        have c4b1 : ((a0.size : Int) != 5) = true := bne_iff_ne.mpr c4
        (first | rw [c4b0] | (simp only [i64_w, i32_w]; rw [c4b0]) | skip)
        have H' := Aside0.mk H
        clear H
        go_wp2
        go_meet
        case rel => exact ⟨_, (true), (by first | rfl | (simp; done) | (simp [*]; done)), H', ⟨by first | omega | exact Nat.le_refl _⟩, by repeat (first | exact Drawn0.refl _ | apply Drawn0.step)⟩
    case rest =>
      clear HC3
      try clear c1
      try clear c2
      try clear c2b0
      try clear c2b1
      try clear p2
      try clear c4
      try clear c4b0
      try clear c4b1
      try clear c5
      try clear c5b0
      try clear c5b1
      try clear p6
      try clear q6
      try clear hx6
      try clear qi6
      try clear c7
      try clear c7b0
      try clear c7b1
      try clear p8
      try clear q8
      try clear hx8
      try clear qi8
      try clear p6
      try clear p8
      try clear q6
      try clear q8
      obtain ⟨kq, x25_2, rfl, HA, HJ2, ⟨mc2, rfl⟩⟩ := hcut
      cases kq with
      | zero => exact absurd HA.out (by simp [asn1_zzZone.j0])
      | succ kj2 =>
        have H := HA.out
        clear HA
        simp only [asn1_zzZone.j0] at H
        by_cases c9 : x25_2 = true
        · subst c9
          have H1 : (some (0, false)) = some (r1, r2) := by rw [if_pos rfl] at H; exact H
          clear H
          have H := H1
          clear H1
          simp only [Option.some.injEq, Prod.mk.injEq] at H
          obtain ⟨rfl, rfl⟩ := H
          go_wp2
          go_ret2
          exact ⟨by first | rfl | (simp; done) | (simp [*]; done), by repeat (first | exact Drawn0.refl _ | apply Drawn0.step)⟩
        · replace c9 := Bool.eq_false_iff.mpr c9
          subst c9
          have H1 : (if 1 ≤ (a0.size : Int) then ((asn1_zzDigits.f kj2 (a0.extract 1 a0.size) 2).bind fun bt109 => ((asn1_zzDigits.f kj2 bt109.2.1 2).bind fun bt112 => (if bt109.2.2 = true then (if bt112.2.2 = true then (if bt109.1 > 24 then (asn1_zzZone.j1 kj2 a0 (wrap64 ((wrap64 (bt109.1 * 60)) + bt112.1)) true) else (if bt112.1 > 59 then (asn1_zzZone.j1 kj2 a0 (wrap64 ((wrap64 (bt109.1 * 60)) + bt112.1)) true) else (asn1_zzZone.j1 kj2 a0 (wrap64 ((wrap64 (bt109.1 * 60)) + bt112.1)) ((wrap64 ((wrap64 (bt109.1 * 60)) + bt112.1)) == 0)))) else (asn1_zzZone.j1 kj2 a0 (wrap64 ((wrap64 (bt109.1 * 60)) + bt112.1)) true)) else (asn1_zzZone.j1 kj2 a0 (wrap64 ((wrap64 (bt109.1 * 60)) + bt112.1)) true)))) else (none)) = some (r1, r2) := by rw [if_neg (show ¬ (false = true) by decide)] at H; exact H
          clear H
          have H := H1
          clear H1
          by_cases c10 : 1 ≤ (a0.size : Int)
          · rw [if_pos c10] at H
            have c10b0 := eq_true c10
            have c10b1 : decide (1 ≤ (a0.size : Int)) = true := decide_eq_true c10
            clear c10
            replace H := Option.bind_eq_some_iff.mp H
            obtain ⟨⟨t109, t110, t111⟩, A110, H⟩ := H
            replace H : ((asn1_zzDigits.f kj2 t110 2).bind fun bt112 => (if t111 = true then (if bt112.2.2 = true then (if t109 > 24 then (asn1_zzZone.j1 kj2 a0 (wrap64 ((wrap64 (t109 * 60)) + bt112.1)) true) else (if bt112.1 > 59 then (asn1_zzZone.j1 kj2 a0 (wrap64 ((wrap64 (t109 * 60)) + bt112.1)) true) else (asn1_zzZone.j1 kj2 a0 (wrap64 ((wrap64 (t109 * 60)) + bt112.1)) ((wrap64 ((wrap64 (t109 * 60)) + bt112.1)) == 0)))) else (asn1_zzZone.j1 kj2 a0 (wrap64 ((wrap64 (t109 * 60)) + bt112.1)) true)) else (asn1_zzZone.j1 kj2 a0 (wrap64 ((wrap64 (t109 * 60)) + bt112.1)) true))) = some (r1, r2) := H
            have A11 := Aside0.mk A110
            clear A110
            replace H := Option.bind_eq_some_iff.mp H
            obtain ⟨⟨t112, t113, t114⟩, A120, H⟩ := H
            replace H : (if t111 = true then (if t114 = true then (if t109 > 24 then (asn1_zzZone.j1 kj2 a0 (wrap64 ((wrap64 (t109 * 60)) + t112)) true) else (if t112 > 59 then (asn1_zzZone.j1 kj2 a0 (wrap64 ((wrap64 (t109 * 60)) + t112)) true) else (asn1_zzZone.j1 kj2 a0 (wrap64 ((wrap64 (t109 * 60)) + t112)) ((wrap64 ((wrap64 (t109 * 60)) + t112)) == 0)))) else (asn1_zzZone.j1 kj2 a0 (wrap64 ((wrap64 (t109 * 60)) + t112)) true)) else (asn1_zzZone.j1 kj2 a0 (wrap64 ((wrap64 (t109 * 60)) + t112)) true)) = some (r1, r2) := H
            have A12 := Aside0.mk A120
            clear A120
            have HC13 := Aside0.mk H
            clear H
            go_upto_region 8 with (first | ((with_reducible refine gate_callee (f := 98) rfl ?_); refine goesL_ (some 29) rfl rfl Try.func98 (by kernel_rfl) rfl #[.string (a0.extract 1 a0.size), .int .i64 2] rfl (by (try simp only [List.map_toArray, List.map_cons, List.map_nil]); first | done | rfl | (simp only [List.length_drop, List.length_take]; rfl)) ?_; (with_reducible refine (asn1_zzDigits.calls kj2 (a0.extract 1 a0.size) 2 t109 t110 t111 _ A11.out).mono ?_); rintro e w' ⟨rfl, ⟨nd, rfl⟩⟩; refine ⟨_, rfl, ?_⟩) | ((with_reducible refine gate_callee (f := 98) rfl ?_); refine goesL_ (some 35) rfl rfl Try.func98 (by kernel_rfl) rfl #[.string t110, .int .i64 2] rfl (by (try simp only [List.map_toArray, List.map_cons, List.map_nil]); first | done | rfl | (simp only [List.length_drop, List.length_take]; rfl)) ?_; (with_reducible refine (asn1_zzDigits.calls kj2 t110 2 t112 t113 t114 _ A12.out).mono ?_); rintro e w' ⟨rfl, ⟨nd, rfl⟩⟩; refine ⟨_, rfl, ?_⟩))
            (try simp only [Act.put, List.setIfInBounds_toArray, List.set_cons_zero, List.set_cons_succ])
            go_cut [60] (fun v60 wc => ∃ (kq : Nat) (x60_12 : Bool), v60 = .bool x60_12 ∧ Aside0 (asn1_zzZone.j1 kq a0 (wrap64 ((wrap64 (t109 * 60)) + t112)) x60_12 = some (r1, r2)) ∧ Aside0 (kq ≤ kj2) ∧ Drawn0 w wc)
            case first =>
              have H := HC13.out
              clear HC13
              by_cases c14 : t111 = true
              · subst c14
                have H1 : (if t114 = true then (if t109 > 24 then (asn1_zzZone.j1 kj2 a0 (wrap64 ((wrap64 (t109 * 60)) + t112)) true) else (if t112 > 59 then (asn1_zzZone.j1 kj2 a0 (wrap64 ((wrap64 (t109 * 60)) + t112)) true) else (asn1_zzZone.j1 kj2 a0 (wrap64 ((wrap64 (t109 * 60)) + t112)) ((wrap64 ((wrap64 (t109 * 60)) + t112)) == 0)))) else (asn1_zzZone.j1 kj2 a0 (wrap64 ((wrap64 (t109 * 60)) + t112)) true)) = some (r1, r2) := by rw [if_pos rfl] at H; exact H
                clear H
                have H := H1
                clear H1
                by_cases c15 : t114 = true
                · subst c15
                  have H1 : (if t109 > 24 then (asn1_zzZone.j1 kj2 a0 (wrap64 ((wrap64 (t109 * 60)) + t112)) true) else (if t112 > 59 then (asn1_zzZone.j1 kj2 a0 (wrap64 ((wrap64 (t109 * 60)) + t112)) true) else (asn1_zzZone.j1 kj2 a0 (wrap64 ((wrap64 (t109 * 60)) + t112)) ((wrap64 ((wrap64 (t109 * 60)) + t112)) == 0)))) = some (r1, r2) := by rw [if_pos rfl] at H; exact H
                  clear H
                  have H := H1
                  clear H1
                  by_cases c16 : t109 > 24
                  · rw [if_pos c16] at H
                    have c16b0 : decide (24 < t109) = true := decide_eq_true c16
                    clear c16
                    (first | rw [c16b0] | (simp only [i64_w, i32_w]; rw [c16b0]) | skip)
                    have H' := Aside0.mk H
                    clear H
                    go_wp2
                    go_meet
                    case rel => exact ⟨_, (true), (by first | rfl | (simp; done) | (simp [*]; done)), H', ⟨by have := HJ2.out; first | omega | exact Nat.le_refl _⟩, by repeat (first | exact Drawn0.refl _ | apply Drawn0.step)⟩
                  · rw [if_neg c16] at H
                    have c16b0 : decide (24 < t109) = false := decide_eq_false c16
                    clear c16
                    (first | rw [c16b0] | (simp only [i64_w, i32_w]; rw [c16b0]) | skip)
                    by_cases c17 : t112 > 59
                    · rw [if_pos c17] at H
                      have c17b0 : decide (59 < t112) = true := decide_eq_true c17
                      clear c17
                      have H' := Aside0.mk H
                      clear H
                      go_wp2
                      go_meet
                      case rel => exact ⟨_, (true), (by first | rfl | (simp; done) | (simp [*]; done)), H', ⟨by have := HJ2.out; first | omega | exact Nat.le_refl _⟩, by repeat (first | exact Drawn0.refl _ | apply Drawn0.step)⟩
                    · rw [if_neg c17] at H
                      have c17b0 : decide (59 < t112) = false := decide_eq_false c17
                      clear c17
                      have H' := Aside0.mk H
                      clear H
                      go_wp2
                      go_meet
                      case rel => exact ⟨_, (((wrap64 ((wrap64 (t109 * 60)) + t112)) == 0)), (by first | rfl | (simp; done) | (simp [*]; done)), H', ⟨by have := HJ2.out; first | omega | exact Nat.le_refl _⟩, by repeat (first | exact Drawn0.refl _ | apply Drawn0.step)⟩
                · replace c15 := Bool.eq_false_iff.mpr c15
                  subst c15
                  have H1 : (asn1_zzZone.j1 kj2 a0 (wrap64 ((wrap64 (t109 * 60)) + t112)) true) = some (r1, r2) := by rw [if_neg (show ¬ (false = true) by decide)] at H; exact H
                  clear H
                  have H := H1
                  clear H1
                  have H' := Aside0.mk H
                  clear H
                  go_wp2
                  go_meet
                  case rel => exact ⟨_, (true), (by first | rfl | (simp; done) | (simp [*]; done)), H', ⟨by have := HJ2.out; first | omega | exact Nat.le_refl _⟩, by repeat (first | exact Drawn0.refl _ | apply Drawn0.step)⟩
              · replace c14 := Bool.eq_false_iff.mpr c14
                subst c14
                have H1 : (asn1_zzZone.j1 kj2 a0 (wrap64 ((wrap64 (t109 * 60)) + t112)) true) = some (r1, r2) := by rw [if_neg (show ¬ (false = true) by decide)] at H; exact H
                clear H
                have H := H1
                clear H1
                have H' := Aside0.mk H
                clear H
                go_wp2
                go_meet
                case rel => exact ⟨_, (true), (by first | rfl | (simp; done) | (simp [*]; done)), H', ⟨by have := HJ2.out; first | omega | exact Nat.le_refl _⟩, by repeat (first | exact Drawn0.refl _ | apply Drawn0.step)⟩
            case rest =>
              clear HC13
              try clear c1
              try clear c2
              try clear c2b0
              try clear c2b1
              try clear p2
              try clear c4
              try clear c4b0
              try clear c4b1
              try clear c5
              try clear c5b0
              try clear c5b1
              try clear p6
              try clear q6
              try clear hx6
              try clear qi6
              try clear c7
              try clear c7b0
              try clear c7b1
              try clear p8
              try clear q8
              try clear hx8
              try clear qi8
              try clear c9
              try clear c10
              try clear c10b0
              try clear c10b1
              try clear c14
              try clear c15
              try clear c16
              try clear c16b0
              try clear c17
              try clear c17b0
              try clear p2
              try clear p6
              try clear p8
              try clear q6
              try clear q8
              obtain ⟨kq, x60_12, rfl, HA, HJ12, ⟨mc12, rfl⟩⟩ := hcut
              cases kq with
              | zero => exact absurd HA.out (by simp [asn1_zzZone.j1])
              | succ kj12 =>
                have H := HA.out
                clear HA
                simp only [asn1_zzZone.j1] at H
                by_cases c18 : x60_12 = true
                · subst c18
                  have H1 : (some (0, false)) = some (r1, r2) := by rw [if_pos rfl] at H; exact H
                  clear H
                  have H := H1
                  clear H1
                  simp only [Option.some.injEq, Prod.mk.injEq] at H
                  obtain ⟨rfl, rfl⟩ := H
                  go_wp2
                  go_ret2
                  exact ⟨by first | rfl | (simp; done) | (simp [*]; done), by repeat (first | exact Drawn0.refl _ | apply Drawn0.step)⟩
                · replace c18 := Bool.eq_false_iff.mpr c18
                  subst c18
                  have H1 : (if 0 < (a0.size : Int) then (if (bt a0 0) = 45 then (some (wrap64 (-(wrap64 ((wrap64 (t109 * 60)) + t112))), true)) else (some ((wrap64 ((wrap64 (t109 * 60)) + t112)), true))) else (none)) = some (r1, r2) := by rw [if_neg (show ¬ (false = true) by decide)] at H; exact H
                  clear H
                  have H := H1
                  clear H1
                  by_cases c19 : 0 < (a0.size : Int)
                  · rw [if_pos c19] at H
                    have c19b0 : decide (0 < (a0.size : Int)) = true := decide_eq_true c19
                    have c19b1 : decide (0 < a0.size) = true := decide_eq_true (by omega)
                    clear c19
                    by_cases c21 : (bt a0 0) = 45
                    · rw [if_pos c21] at H
                      have c21b0 : ((bt a0 0) == 45) = true := beq_iff_eq.mpr c21
                      have c21b1 : ((bt a0 0) != 45) = false := bne_eq_false_iff_eq.mpr c21
                      clear c21
                      simp only [Option.some.injEq, Prod.mk.injEq] at H
                      obtain ⟨rfl, rfl⟩ := H
                      have p20 : 0 ≤ (0 : Int) := (by omega)
                      have q20 : 0 < a0.size := (by have : (0 : Int) < (a0.size : Int) := of_decide_eq_true (by first | (with_reducible assumption) | assumption); omega)
                      have hx20 : ∀ h : 0 < a0.size, ((a0[0]'h).toNat : Int) = bt a0 0 := bt_at a0 0
                      clear p20
                      have qi20 : (0 < (a0.size : Int)) = True := eq_true (of_decide_eq_true (by first | (with_reducible assumption) | assumption))
                      replace q20 := eq_true q20
                      go_wp2
                      go_ret2
                      exact ⟨by first | rfl | (simp; done) | (simp [*]; done), by repeat (first | exact Drawn0.refl _ | apply Drawn0.step)⟩
                    · rw [if_neg c21] at H
                      have c21b0 : ((bt a0 0) == 45) = false := beq_eq_false_iff_ne.mpr c21
                      have c21b1 : ((bt a0 0) != 45) = true := bne_iff_ne.mpr c21
                      simp only [Option.some.injEq, Prod.mk.injEq] at H
                      obtain ⟨rfl, rfl⟩ := H
                      have p20 : 0 ≤ (0 : Int) := (by omega)
                      have q20 : 0 < a0.size := (by have : (0 : Int) < (a0.size : Int) := of_decide_eq_true (by first | (with_reducible assumption) | assumption); omega)
                      have hx20 : ∀ h : 0 < a0.size, ((a0[0]'h).toNat : Int) = bt a0 0 := bt_at a0 0
                      clear p20
                      have qi20 : (0 < (a0.size : Int)) = True := eq_true (of_decide_eq_true (by first | (with_reducible assumption) | assumption))
                      replace q20 := eq_true q20
                      go_wp2
                      go_ret2
                      exact ⟨by first | rfl | (simp; done) | (simp [*]; done), by repeat (first | exact Drawn0.refl _ | apply Drawn0.step)⟩
                  · rw [if_neg c19] at H
                    exact absurd H (by simp)
          · rw [if_neg c10] at H
            exact absurd H (by simp)

section
open Go.BigFrame
set_option linter.unusedSimpArgs false
def zN (s : ByteArray) : Int := dv2 (s.extract 1 s.size) * 60 + dv2 (dr2 (s.extract 1 s.size))
def zO (s : ByteArray) : Bool := s.toList == ([90] : List UInt8) || (decide (s.size = 5) && (bt s 0 == 43 || bt s 0 == 45) && dg2 (s.extract 1 s.size) && dg2 (dr2 (s.extract 1 s.size)) && decide (dv2 (s.extract 1 s.size) ≤ 24) && decide (dv2 (dr2 (s.extract 1 s.size)) ≤ 59) && !(zN s == 0))
def zV (s : ByteArray) : Int := if s.toList = ([90] : List UInt8) then 0 else if zO s = true then (if bt s 0 = 45 then -(zN s) else zN s) else 0
theorem zone_j1 (k : Nat) (s : ByteArray) (n : Int) (b : Bool) (hs : 0 < (s.size : Int)) (hn : 0 ≤ n ∧ n ≤ 100000) : asn1_zzZone.j1 (k + 1) s n b = some (if b = true then (0, false) else ((if bt s 0 = 45 then -n else n), true)) := by
  cases b with
  | true => rfl
  | false =>
    simp only [asn1_zzZone.j1]
    rw [if_neg (show ¬ (false = true) by decide), if_pos hs]
    by_cases h : bt s 0 = 45
    · rw [if_pos h]
      simp only [h, if_true]
      rw [show wrap64 (-n) = -n by unfold wrap64; omega]
      rfl
    · rw [if_neg h]
      simp [h]
theorem zone_j1t (k : Nat) (s : ByteArray) (n : Int) : asn1_zzZone.j1 (k + 1) s n true = some (0, false) := by
  unfold asn1_zzZone.j1
  rfl
theorem zone2_eq (s : ByteArray) : asn1_zzZone.f 9 s = some (zV s, zO s) := by
  unfold asn1_zzZone.f zV
  by_cases hz : s.toList = ([90] : List UInt8)
  · rw [if_pos hz, if_pos hz]
    simp [zO, hz]
  rw [if_neg hz, if_neg hz]
  have hz' : (s.toList == ([90] : List UInt8)) = false := by simpa using hz
  by_cases h5 : s.size = 5
  · rw [if_pos (by omega), if_pos (by omega)]
    have hj : ∀ b : Bool, asn1_zzZone.j0 9 s b = some (if b = false ∧ dg2 (s.extract 1 s.size) = true ∧ dg2 (dr2 (s.extract 1 s.size)) = true ∧ dv2 (s.extract 1 s.size) ≤ 24 ∧ dv2 (dr2 (s.extract 1 s.size)) ≤ 59 ∧ zN s ≠ 0 then ((if bt s 0 = 45 then -(zN s) else zN s), true) else (0, false)) := by
      intro b
      show asn1_zzZone.j0 (8 + 1) s b = _
      simp only [asn1_zzZone.j0]
      cases b with
      | true => simp
      | false =>
        rw [if_neg (show ¬ (false = true) by decide), if_pos (show 1 ≤ (s.size : Int) by omega)]
        cases g1 : dg2 (s.extract 1 s.size) with
        | false =>
          rw [digits2_no 5 g1]
          simp only [Option.bind_some]
          rw [digits2_no 5 g1]
          simp only [Option.bind_some]
          rw [if_neg (show ¬ (false = true) by decide), zone_j1t]
          simp
        | true =>
          have r1 := dv2_range g1
          rw [digits2_yes 5 g1]
          simp only [Option.bind_some]
          cases g2 : dg2 (dr2 (s.extract 1 s.size)) with
          | false =>
            rw [digits2_no 5 g2]
            simp only [Option.bind_some]
            rw [if_pos trivial, if_neg (show ¬ (false = true) by decide), zone_j1t]
            simp
          | true =>
            have r2 := dv2_range g2
            rw [digits2_yes 5 g2]
            simp only [Option.bind_some]
            rw [if_pos trivial, if_pos trivial]
            rw [show wrap64 (wrap64 (dv2 (s.extract 1 s.size) * 60) + dv2 (dr2 (s.extract 1 s.size))) = zN s by unfold zN wrap64; omega]
            by_cases c1 : dv2 (s.extract 1 s.size) > 24
            · rw [if_pos c1, zone_j1t, if_neg (by intro h; omega)]
            · rw [if_neg c1]
              by_cases c2 : dv2 (dr2 (s.extract 1 s.size)) > 59
              · rw [if_pos c2, zone_j1t, if_neg (by intro h; omega)]
              · rw [if_neg c2, zone_j1 _ _ _ _ (by omega) (by unfold zN; omega)]
                by_cases c3 : zN s = 0
                · simp [c3]
                · rw [if_neg (show ¬ ((zN s == 0) = true) by simpa using c3), if_pos (show True ∧ True ∧ True ∧ dv2 (s.extract 1 s.size) ≤ 24 ∧ dv2 (dr2 (s.extract 1 s.size)) ≤ 59 ∧ zN s ≠ 0 from ⟨trivial, trivial, trivial, by omega, by omega, c3⟩)]
    by_cases h43 : bt s 0 = 43
    · rw [if_pos h43, hj]
      by_cases hc : dg2 (s.extract 1 s.size) = true ∧ dg2 (dr2 (s.extract 1 s.size)) = true ∧ dv2 (s.extract 1 s.size) ≤ 24 ∧ dv2 (dr2 (s.extract 1 s.size)) ≤ 59 ∧ zN s ≠ 0
      · obtain ⟨a1, a2, a3, a4, a5⟩ := hc
        have ho : zO s = true := by simp [zO, hz', h5, h43]; rw [h5] at a1 a2 a3 a4; simp [a1, a2, a3, a4, a5]
        rw [if_pos ⟨rfl, a1, a2, a3, a4, a5⟩, ho]
        rfl
      · have ho : zO s = false := by
          cases hh : zO s with
          | false => rfl
          | true =>
            exfalso
            apply hc
            simp only [zO, hz', Bool.false_or, Bool.and_eq_true, decide_eq_true_eq, Bool.not_eq_true', beq_eq_false_iff_ne] at hh
            exact ⟨hh.1.1.1.1.2, hh.1.1.1.2, hh.1.1.2, hh.1.2, hh.2⟩
        rw [if_neg (fun h => hc h.2), ho]
        rfl
    · rw [if_neg h43, hj]
      by_cases h45 : bt s 0 = 45
      · by_cases hc : dg2 (s.extract 1 s.size) = true ∧ dg2 (dr2 (s.extract 1 s.size)) = true ∧ dv2 (s.extract 1 s.size) ≤ 24 ∧ dv2 (dr2 (s.extract 1 s.size)) ≤ 59 ∧ zN s ≠ 0
        · obtain ⟨a1, a2, a3, a4, a5⟩ := hc
          have ho : zO s = true := by simp [zO, hz', h5, h45]; rw [h5] at a1 a2 a3 a4; simp [a1, a2, a3, a4, a5]
          rw [if_pos ⟨by simp [h45], a1, a2, a3, a4, a5⟩, ho]
          rfl
        · have ho : zO s = false := by
            cases hh : zO s with
            | false => rfl
            | true =>
              exfalso
              apply hc
              simp only [zO, hz', Bool.false_or, Bool.and_eq_true, decide_eq_true_eq, Bool.not_eq_true', beq_eq_false_iff_ne] at hh
              exact ⟨hh.1.1.1.1.2, hh.1.1.1.2, hh.1.1.2, hh.1.2, hh.2⟩
          rw [if_neg (fun h => hc h.2), ho]
          rfl
      · have ho : zO s = false := by simp [zO, hz', h43, h45]
        rw [if_neg (by simp [h45]), ho]
        rfl
  · rw [if_neg (by omega)]
    have ho : zO s = false := by simp [zO, hz', h5]
    rw [ho]
    unfold asn1_zzZone.j0
    rfl
theorem zone2_any (s : ByteArray) (w : World) : Calls Try.prog 100 #[.string s] w fun e w' => e = .returned (.tuple #[.int .i64 (zV s), .bool (zO s)]) ∧ Drawn0 w w' := asn1_zzZone.calls 9 s _ _ w (zone2_eq s)
end

end Go.Proofs.Ytmiemfgcggkbnaa.QG
