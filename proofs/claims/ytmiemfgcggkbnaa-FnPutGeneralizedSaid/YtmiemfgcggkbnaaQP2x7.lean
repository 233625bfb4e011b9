-- Written by a program of this work (wip/patch_print.py) for this claim.
import Derived.Test.YtmiemfgcggkbnaaQP2x0
import Derived.Test.YtmiemfgcggkbnaaQP2x2
import Derived.Test.YtmiemfgcggkbnaaQP2x6
namespace Go.Proofs.Ytmiemfgcggkbnaa.QP2
open Go.RowKit Go.Proofs.YtmiemfgcggkbnaaW.PrintWords Go.Proofs.YtmiemfgcggkbnaaW.PrintLast Go.Proofs.YtmiemfgcggkbnaaW.PrintMore
attribute [local go_sem] max2_int min2_int max_two min_two max_three min_three max_four min_four   -- for this text's walks alone
set_option linter.unusedVariables false
set_option linter.unusedSimpArgs false

/-! ### impl_days: function 86 -/
def impl_days.j0 : Nat → Int → Bool → Option (Int)
  | 0, _, _ => none
  | k + 1, x1, x5 => if x5 = true then (some 29) else (if x1 = 2 then (some 28) else (if x1 = 4 then (some 30) else (if x1 = 6 then (some 30) else (if x1 = 9 then (some 30) else (if x1 = 11 then (some 30) else (some 31))))))
def impl_days.f (k : Nat) (a0 : Int) (a1 : Int) : Option (Int) := if a1 = 2 then (if (Int.tmod a0 4) = 0 then (if (Int.tmod a0 100) = 0 then (impl_days.j0 k a1 ((Int.tmod a0 400) == 0)) else (impl_days.j0 k a1 true)) else (impl_days.j0 k a1 false)) else (impl_days.j0 k a1 false)
theorem impl_days.mono_l : ∀ k, (∀ y0 y1, LeO (impl_days.j0 k y0 y1) (impl_days.j0 (k + 1) y0 y1))
  | 0 => fun _ _ r h => by simp [impl_days.j0] at h
  | k + 1 => by
    have ih0 := impl_days.mono_l k
    · intro y0 y1
      unfold impl_days.j0
      repeat' first
      | (with_reducible exact ih0 _ _)
      | (with_reducible exact LeO.refl _)
      | (with_reducible exact LeO.none _)
      | (with_reducible refine LeO.ite ?_ ?_)
      | (with_reducible refine LeO.bind ?_ (fun _ => ?_))
      | exact ih0 _ _
      | exact LeO.none _
      | refine LeO.ite ?_ ?_
      | refine LeO.bind ?_ (fun _ => ?_)
theorem impl_days.mono : ∀ a0 a1 k, LeO (impl_days.f k a0 a1) (impl_days.f (k + 1) a0 a1) := by
  intro a0 a1 k
  have ih0 := impl_days.mono_l k
  unfold impl_days.f
  repeat' first
      | (with_reducible exact ih0 _ _)
      | (with_reducible exact LeO.refl _)
      | (with_reducible exact LeO.none _)
      | (with_reducible refine LeO.ite ?_ ?_)
      | (with_reducible refine LeO.bind ?_ (fun _ => ?_))
      | exact ih0 _ _
      | exact LeO.none _
      | refine LeO.ite ?_ ?_
      | refine LeO.bind ?_ (fun _ => ?_)
set_option maxHeartbeats 8000000 in
set_option maxRecDepth 100000 in
theorem impl_days.calls (k : Nat) (a0 : Int) (a1 : Int) (r : Int) (w : World) (h : impl_days.f k a0 a1 = some r) :
    Calls Try.prog 86 #[.int .i64 a0, .int .i64 a1] w fun e w' => e = .returned (.int .i64 r) ∧ Drawn0 w w' := by
  have H : (if a1 = 2 then (if (Int.tmod a0 4) = 0 then (if (Int.tmod a0 100) = 0 then (impl_days.j0 k a1 ((Int.tmod a0 400) == 0)) else (impl_days.j0 k a1 true)) else (impl_days.j0 k a1 false)) else (impl_days.j0 k a1 false)) = some r := h
  clear h
  have HC3 := Aside0.mk H
  clear H
  go_enter Try.func86, Try.ntmps86
  go_upto_region 1 with (fail)
  go_cut [5] (fun v5 wc => ∃ (kq : Nat) (x5_2 : Bool), v5 = .bool x5_2 ∧ Aside0 (impl_days.j0 kq a1 x5_2 = some r) ∧ Aside0 (kq ≤ k) ∧ Drawn0 w wc)
  case first =>
    have H := HC3.out
    clear HC3
    by_cases c4 : a1 = 2
    · rw [if_pos c4] at H
      have c4b0 : (a1 == 2) = true := beq_iff_eq.mpr c4
      have c4b1 : (a1 != 2) = false := bne_eq_false_iff_eq.mpr c4
      clear c4
      (first | rw [c4b0] | (simp only [i64_w, i32_w]; rw [c4b0]) | skip)
      by_cases c5 : (Int.tmod a0 4) = 0
      · rw [if_pos c5] at H
        have c5b0 : ((Int.tmod a0 4) == 0) = true := beq_iff_eq.mpr c5
        have c5b1 : ((Int.tmod a0 4) != 0) = false := bne_eq_false_iff_eq.mpr c5
        clear c5
        by_cases c6 : (Int.tmod a0 100) = 0
        · rw [if_pos c6] at H
          have c6b0 : ((Int.tmod a0 100) == 0) = true := beq_iff_eq.mpr c6
          have c6b1 : ((Int.tmod a0 100) != 0) = false := bne_eq_false_iff_eq.mpr c6
          clear c6
          have H' := Aside0.mk H
          clear H
          go_wp2
          go_meet
          case rel => exact ⟨_, (((Int.tmod a0 400) == 0)), (by first | rfl | (simp; done) | (simp [*]; done)), H', ⟨by first | omega | exact Nat.le_refl _⟩, by repeat (first | exact Drawn0.refl _ | apply Drawn0.step)⟩
        · rw [if_neg c6] at H
          have c6b0 : ((Int.tmod a0 100) == 0) = false := beq_eq_false_iff_ne.mpr c6
          have c6b1 : ((Int.tmod a0 100) != 0) = true := bne_iff_ne.mpr c6
          have H' := Aside0.mk H
          clear H
          go_wp2
          go_meet
          case rel => exact ⟨_, (true), (by first | rfl | (simp; done) | (simp [*]; done)), H', ⟨by first | omega | exact Nat.le_refl _⟩, by repeat (first | exact Drawn0.refl _ | apply Drawn0.step)⟩
      · rw [if_neg c5] at H
        have c5b0 : ((Int.tmod a0 4) == 0) = false := beq_eq_false_iff_ne.mpr c5
        have c5b1 : ((Int.tmod a0 4) != 0) = true := bne_iff_ne.mpr c5
        have H' := Aside0.mk H
        clear H
        go_wp2
        go_meet
        case rel => exact ⟨_, (false), (by first | rfl | (simp; done) | (simp [*]; done)), H', ⟨by first | omega | exact Nat.le_refl _⟩, by repeat (first | exact Drawn0.refl _ | apply Drawn0.step)⟩
    · rw [if_neg c4] at H
      have c4b0 : (a1 == 2) = false := beq_eq_false_iff_ne.mpr c4
      have c4b1 : (a1 != 2) = true := bne_iff_ne.mpr c4
      (first | rw [c4b0] | (simp only [i64_w, i32_w]; rw [c4b0]) | skip)
      have H' := Aside0.mk H
      clear H
      go_wp2
      go_meet
      case rel => exact ⟨_, (false), (by first | rfl | (simp; done) | (simp [*]; done)), H', ⟨by first | omega | exact Nat.le_refl _⟩, by repeat (first | exact Drawn0.refl _ | apply Drawn0.step)⟩
  case rest =>
    clear HC3
    try clear p2
    try clear c4
    try clear c4b0
    try clear c4b1
    try clear c5
    try clear c5b0
    try clear c5b1
    try clear c6
    try clear c6b0
    try clear c6b1
    obtain ⟨kq, x5_2, rfl, HA, HJ2, ⟨mc2, rfl⟩⟩ := hcut
    cases kq with
    | zero => exact absurd HA.out (by simp [impl_days.j0])
    | succ kj2 =>
      have H := HA.out
      clear HA
      simp only [impl_days.j0] at H
      by_cases c7 : x5_2 = true
      · subst c7
        have H1 : (some 29) = some r := by rw [if_pos rfl] at H; exact H
        clear H
        have H := H1
        clear H1
        obtain rfl := Option.some.inj H
        go_wp2
        go_ret
        exact ⟨by first | rfl | (simp; done) | (simp [*]; done), by repeat (first | exact Drawn0.refl _ | apply Drawn0.step)⟩
      · replace c7 := Bool.eq_false_iff.mpr c7
        subst c7
        have H1 : (if a1 = 2 then (some 28) else (if a1 = 4 then (some 30) else (if a1 = 6 then (some 30) else (if a1 = 9 then (some 30) else (if a1 = 11 then (some 30) else (some 31)))))) = some r := by rw [if_neg (show ¬ (false = true) by decide)] at H; exact H
        clear H
        have H := H1
        clear H1
        by_cases c8 : a1 = 2
        · rw [if_pos c8] at H
          have c8b0 : (a1 == 2) = true := beq_iff_eq.mpr c8
          have c8b1 : (a1 != 2) = false := bne_eq_false_iff_eq.mpr c8
          clear c8
          obtain rfl := Option.some.inj H
          go_wp2
          go_ret
          exact ⟨by first | rfl | (simp; done) | (simp [*]; done), by repeat (first | exact Drawn0.refl _ | apply Drawn0.step)⟩
        · rw [if_neg c8] at H
          have c8b0 : (a1 == 2) = false := beq_eq_false_iff_ne.mpr c8
          have c8b1 : (a1 != 2) = true := bne_iff_ne.mpr c8
          by_cases c9 : a1 = 4
          · rw [if_pos c9] at H
            have c9b0 : (a1 == 4) = true := beq_iff_eq.mpr c9
            have c9b1 : (a1 != 4) = false := bne_eq_false_iff_eq.mpr c9
            clear c9
            obtain rfl := Option.some.inj H
            go_wp2
            go_ret
            exact ⟨by first | rfl | (simp; done) | (simp [*]; done), by repeat (first | exact Drawn0.refl _ | apply Drawn0.step)⟩
          · rw [if_neg c9] at H
            have c9b0 : (a1 == 4) = false := beq_eq_false_iff_ne.mpr c9
            have c9b1 : (a1 != 4) = true := bne_iff_ne.mpr c9
            by_cases c10 : a1 = 6
            · rw [if_pos c10] at H
              have c10b0 : (a1 == 6) = true := beq_iff_eq.mpr c10
              have c10b1 : (a1 != 6) = false := bne_eq_false_iff_eq.mpr c10
              clear c10
              obtain rfl := Option.some.inj H
              go_wp2
              go_ret
              exact ⟨by first | rfl | (simp; done) | (simp [*]; done), by repeat (first | exact Drawn0.refl _ | apply Drawn0.step)⟩
            · rw [if_neg c10] at H
              have c10b0 : (a1 == 6) = false := beq_eq_false_iff_ne.mpr c10
              have c10b1 : (a1 != 6) = true := bne_iff_ne.mpr c10
              by_cases c11 : a1 = 9
              · rw [if_pos c11] at H
                have c11b0 : (a1 == 9) = true := beq_iff_eq.mpr c11
                have c11b1 : (a1 != 9) = false := bne_eq_false_iff_eq.mpr c11
                clear c11
                obtain rfl := Option.some.inj H
                go_wp2
                go_ret
                exact ⟨by first | rfl | (simp; done) | (simp [*]; done), by repeat (first | exact Drawn0.refl _ | apply Drawn0.step)⟩
              · rw [if_neg c11] at H
                have c11b0 : (a1 == 9) = false := beq_eq_false_iff_ne.mpr c11
                have c11b1 : (a1 != 9) = true := bne_iff_ne.mpr c11
                by_cases c12 : a1 = 11
                · rw [if_pos c12] at H
                  have c12b0 : (a1 == 11) = true := beq_iff_eq.mpr c12
                  have c12b1 : (a1 != 11) = false := bne_eq_false_iff_eq.mpr c12
                  clear c12
                  obtain rfl := Option.some.inj H
                  go_wp2
                  go_ret
                  exact ⟨by first | rfl | (simp; done) | (simp [*]; done), by repeat (first | exact Drawn0.refl _ | apply Drawn0.step)⟩
                · rw [if_neg c12] at H
                  have c12b0 : (a1 == 11) = false := beq_eq_false_iff_ne.mpr c12
                  have c12b1 : (a1 != 11) = true := bne_iff_ne.mpr c12
                  obtain rfl := Option.some.inj H
                  go_wp2
                  go_ret
                  exact ⟨by first | rfl | (simp; done) | (simp [*]; done), by repeat (first | exact Drawn0.refl _ | apply Drawn0.step)⟩

section
open Go.BigFrame
set_option linter.unusedSimpArgs false
theorem impl_days_eq (y m : Int) : impl_days.f 1 y m = some (daysI y m) := by
  unfold impl_days.f impl_days.j0 daysI
  by_cases h4 : m = 4
  · simp [h4]
  by_cases h6 : m = 6
  · simp [h6]
  by_cases h9 : m = 9
  · simp [h9]
  by_cases h11 : m = 11
  · simp [h11]
  by_cases h2 : m = 2
  · simp [h2]
    repeat' split
    all_goals first | rfl | simp_all
  · simp [h4, h6, h9, h11, h2]
theorem days2_any (y m : Int) (w : World) : Calls Try.prog 86 #[.int .i64 y, .int .i64 m] w fun e w' => e = .returned (.int .i64 (daysI y m)) ∧ Drawn0 w w' := impl_days.calls 1 y m _ w (impl_days_eq y m)
def datedB (y mo d h mi s na a : Int) : Bool := decide (0 ≤ y) && decide (y ≤ 9999) && decide (1 ≤ mo) && decide (mo ≤ 12) && decide (1 ≤ d) && decide (d ≤ daysI y mo) && decide (0 ≤ h) && decide (h ≤ 23) && decide (0 ≤ mi) && decide (mi ≤ 59) && decide (0 ≤ s) && decide (s ≤ 59) && decide (0 ≤ na) && decide (na ≤ 999999999) && decide (-1440 < a) && decide (a < 1440)
theorem lex58 : Region.lexB .any (opsOf Try.f58 1) = true := by kernel_rfl
set_option maxHeartbeats 8000000 in
set_option maxRecDepth 100000 in
theorem dated_0 (y mo d h mi s na a : Int) (w : World)  (h0 : ¬ (0 ≤ y)) :
    Calls Try.prog 58 #[.agg #[.int .i64 y, .int .i64 mo, .int .i64 d, .int .i64 h, .int .i64 mi, .int .i64 s, .int .i64 na, .int .i64 a]] w (RightTo w false) := by
  have HB := Aside0.mk (Below.refl w.heap.size w)
  have hu := Try.underlying47
  have q0 : decide (0 ≤ y) = false := decide_eq_false h0
  clear h0
  go_enter Try.func58, Try.ntmps58
  go_wp2_with (((with_reducible refine gate_dst (N := 1) rfl ?_); refine box_event ?hg (N := 1) ?hd (cs := #[.int .i64 y, .int .i64 mo, .int .i64 d, .int .i64 h, .int .i64 mi, .int .i64 s, .int .i64 na, .int .i64 a]) (t := 47) ?hr ?_; (case hd => rfl); (case hg => rfl); (case hr => first | (go_simp; done) | (go_simp; rfl)); intro gb hg w3 hbox hb; have c0 := (blk_cell hbox 0).trans (show _ = some (.int .i64 y) from rfl); have c1 := (blk_cell hbox 1).trans (show _ = some (.int .i64 mo) from rfl); have c2 := (blk_cell hbox 2).trans (show _ = some (.int .i64 d) from rfl); have c3 := (blk_cell hbox 3).trans (show _ = some (.int .i64 h) from rfl); have c4 := (blk_cell hbox 4).trans (show _ = some (.int .i64 mi) from rfl); have c5 := (blk_cell hbox 5).trans (show _ = some (.int .i64 s) from rfl); have c6 := (blk_cell hbox 6).trans (show _ = some (.int .i64 na) from rfl); have c7 := (blk_cell hbox 7).trans (show _ = some (.int .i64 a) from rfl); have HB2 := Aside0.mk (below_step HB.out hb); clear hbox hb; clear hg))
  refine wp_quiet_of (ops0 := opsOf Try.f58 1) (by kernel_rfl) (by kernel_rfl) lex58 ?_
  simp only [app_cons_, app_nil_]
  repeat (go_big_quiet_step ((go_at_call 86; exact Calls.quiet_of ((days2_any y mo _).mono fun _ _ ⟨he, ⟨h⟩⟩ => ⟨he, h⟩))))
  refine wpQuiet_nil ?_
  intro _ hw'
  obtain ⟨nq, hw''⟩ := hw'
  subst hw''
  go_wp2
  go_ret
  exact ⟨rfl, by repeat (first | exact HB2.out | apply pw_below_drewN)⟩
set_option maxHeartbeats 8000000 in
set_option maxRecDepth 100000 in
theorem dated_1 (y mo d h mi s na a : Int) (w : World) (h0 : 0 ≤ y) (h1 : ¬ (y ≤ 9999)) :
    Calls Try.prog 58 #[.agg #[.int .i64 y, .int .i64 mo, .int .i64 d, .int .i64 h, .int .i64 mi, .int .i64 s, .int .i64 na, .int .i64 a]] w (RightTo w false) := by
  have HB := Aside0.mk (Below.refl w.heap.size w)
  have hu := Try.underlying47
  have q0 : decide (0 ≤ y) = true := decide_eq_true h0
  have q1 : decide (y ≤ 9999) = false := decide_eq_false h1
  clear h0 h1
  go_enter Try.func58, Try.ntmps58
  go_wp2_with (((with_reducible refine gate_dst (N := 1) rfl ?_); refine box_event ?hg (N := 1) ?hd (cs := #[.int .i64 y, .int .i64 mo, .int .i64 d, .int .i64 h, .int .i64 mi, .int .i64 s, .int .i64 na, .int .i64 a]) (t := 47) ?hr ?_; (case hd => rfl); (case hg => rfl); (case hr => first | (go_simp; done) | (go_simp; rfl)); intro gb hg w3 hbox hb; have c0 := (blk_cell hbox 0).trans (show _ = some (.int .i64 y) from rfl); have c1 := (blk_cell hbox 1).trans (show _ = some (.int .i64 mo) from rfl); have c2 := (blk_cell hbox 2).trans (show _ = some (.int .i64 d) from rfl); have c3 := (blk_cell hbox 3).trans (show _ = some (.int .i64 h) from rfl); have c4 := (blk_cell hbox 4).trans (show _ = some (.int .i64 mi) from rfl); have c5 := (blk_cell hbox 5).trans (show _ = some (.int .i64 s) from rfl); have c6 := (blk_cell hbox 6).trans (show _ = some (.int .i64 na) from rfl); have c7 := (blk_cell hbox 7).trans (show _ = some (.int .i64 a) from rfl); have HB2 := Aside0.mk (below_step HB.out hb); clear hbox hb; clear hg))
  refine wp_quiet_of (ops0 := opsOf Try.f58 1) (by kernel_rfl) (by kernel_rfl) lex58 ?_
  simp only [app_cons_, app_nil_]
  repeat (go_big_quiet_step ((go_at_call 86; exact Calls.quiet_of ((days2_any y mo _).mono fun _ _ ⟨he, ⟨h⟩⟩ => ⟨he, h⟩))))
  refine wpQuiet_nil ?_
  intro _ hw'
  obtain ⟨nq, hw''⟩ := hw'
  subst hw''
  go_wp2
  go_ret
  exact ⟨rfl, by repeat (first | exact HB2.out | apply pw_below_drewN)⟩
set_option maxHeartbeats 8000000 in
set_option maxRecDepth 100000 in
theorem dated_2 (y mo d h mi s na a : Int) (w : World) (h0 : 0 ≤ y) (h1 : y ≤ 9999) (h2 : ¬ (1 ≤ mo)) :
    Calls Try.prog 58 #[.agg #[.int .i64 y, .int .i64 mo, .int .i64 d, .int .i64 h, .int .i64 mi, .int .i64 s, .int .i64 na, .int .i64 a]] w (RightTo w false) := by
  have HB := Aside0.mk (Below.refl w.heap.size w)
  have hu := Try.underlying47
  have q0 : decide (0 ≤ y) = true := decide_eq_true h0
  have q1 : decide (y ≤ 9999) = true := decide_eq_true h1
  have q2 : decide (1 ≤ mo) = false := decide_eq_false h2
  clear h0 h1 h2
  go_enter Try.func58, Try.ntmps58
  go_wp2_with (((with_reducible refine gate_dst (N := 1) rfl ?_); refine box_event ?hg (N := 1) ?hd (cs := #[.int .i64 y, .int .i64 mo, .int .i64 d, .int .i64 h, .int .i64 mi, .int .i64 s, .int .i64 na, .int .i64 a]) (t := 47) ?hr ?_; (case hd => rfl); (case hg => rfl); (case hr => first | (go_simp; done) | (go_simp; rfl)); intro gb hg w3 hbox hb; have c0 := (blk_cell hbox 0).trans (show _ = some (.int .i64 y) from rfl); have c1 := (blk_cell hbox 1).trans (show _ = some (.int .i64 mo) from rfl); have c2 := (blk_cell hbox 2).trans (show _ = some (.int .i64 d) from rfl); have c3 := (blk_cell hbox 3).trans (show _ = some (.int .i64 h) from rfl); have c4 := (blk_cell hbox 4).trans (show _ = some (.int .i64 mi) from rfl); have c5 := (blk_cell hbox 5).trans (show _ = some (.int .i64 s) from rfl); have c6 := (blk_cell hbox 6).trans (show _ = some (.int .i64 na) from rfl); have c7 := (blk_cell hbox 7).trans (show _ = some (.int .i64 a) from rfl); have HB2 := Aside0.mk (below_step HB.out hb); clear hbox hb; clear hg))
  refine wp_quiet_of (ops0 := opsOf Try.f58 1) (by kernel_rfl) (by kernel_rfl) lex58 ?_
  simp only [app_cons_, app_nil_]
  repeat (go_big_quiet_step ((go_at_call 86; exact Calls.quiet_of ((days2_any y mo _).mono fun _ _ ⟨he, ⟨h⟩⟩ => ⟨he, h⟩))))
  refine wpQuiet_nil ?_
  intro _ hw'
  obtain ⟨nq, hw''⟩ := hw'
  subst hw''
  go_wp2
  go_ret
  exact ⟨rfl, by repeat (first | exact HB2.out | apply pw_below_drewN)⟩
set_option maxHeartbeats 8000000 in
set_option maxRecDepth 100000 in
theorem dated_3 (y mo d h mi s na a : Int) (w : World) (h0 : 0 ≤ y) (h1 : y ≤ 9999) (h2 : 1 ≤ mo) (h3 : ¬ (mo ≤ 12)) :
    Calls Try.prog 58 #[.agg #[.int .i64 y, .int .i64 mo, .int .i64 d, .int .i64 h, .int .i64 mi, .int .i64 s, .int .i64 na, .int .i64 a]] w (RightTo w false) := by
  have HB := Aside0.mk (Below.refl w.heap.size w)
  have hu := Try.underlying47
  have q0 : decide (0 ≤ y) = true := decide_eq_true h0
  have q1 : decide (y ≤ 9999) = true := decide_eq_true h1
  have q2 : decide (1 ≤ mo) = true := decide_eq_true h2
  have q3 : decide (mo ≤ 12) = false := decide_eq_false h3
  clear h0 h1 h2 h3
  go_enter Try.func58, Try.ntmps58
  go_wp2_with (((with_reducible refine gate_dst (N := 1) rfl ?_); refine box_event ?hg (N := 1) ?hd (cs := #[.int .i64 y, .int .i64 mo, .int .i64 d, .int .i64 h, .int .i64 mi, .int .i64 s, .int .i64 na, .int .i64 a]) (t := 47) ?hr ?_; (case hd => rfl); (case hg => rfl); (case hr => first | (go_simp; done) | (go_simp; rfl)); intro gb hg w3 hbox hb; have c0 := (blk_cell hbox 0).trans (show _ = some (.int .i64 y) from rfl); have c1 := (blk_cell hbox 1).trans (show _ = some (.int .i64 mo) from rfl); have c2 := (blk_cell hbox 2).trans (show _ = some (.int .i64 d) from rfl); have c3 := (blk_cell hbox 3).trans (show _ = some (.int .i64 h) from rfl); have c4 := (blk_cell hbox 4).trans (show _ = some (.int .i64 mi) from rfl); have c5 := (blk_cell hbox 5).trans (show _ = some (.int .i64 s) from rfl); have c6 := (blk_cell hbox 6).trans (show _ = some (.int .i64 na) from rfl); have c7 := (blk_cell hbox 7).trans (show _ = some (.int .i64 a) from rfl); have HB2 := Aside0.mk (below_step HB.out hb); clear hbox hb; clear hg))
  refine wp_quiet_of (ops0 := opsOf Try.f58 1) (by kernel_rfl) (by kernel_rfl) lex58 ?_
  simp only [app_cons_, app_nil_]
  repeat (go_big_quiet_step ((go_at_call 86; exact Calls.quiet_of ((days2_any y mo _).mono fun _ _ ⟨he, ⟨h⟩⟩ => ⟨he, h⟩))))
  refine wpQuiet_nil ?_
  intro _ hw'
  obtain ⟨nq, hw''⟩ := hw'
  subst hw''
  go_wp2
  go_ret
  exact ⟨rfl, by repeat (first | exact HB2.out | apply pw_below_drewN)⟩
set_option maxHeartbeats 8000000 in
set_option maxRecDepth 100000 in
theorem dated_4 (y mo d h mi s na a : Int) (w : World) (h0 : 0 ≤ y) (h1 : y ≤ 9999) (h2 : 1 ≤ mo) (h3 : mo ≤ 12) (h4 : ¬ (1 ≤ d)) :
    Calls Try.prog 58 #[.agg #[.int .i64 y, .int .i64 mo, .int .i64 d, .int .i64 h, .int .i64 mi, .int .i64 s, .int .i64 na, .int .i64 a]] w (RightTo w false) := by
  have HB := Aside0.mk (Below.refl w.heap.size w)
  have hu := Try.underlying47
  have q0 : decide (0 ≤ y) = true := decide_eq_true h0
  have q1 : decide (y ≤ 9999) = true := decide_eq_true h1
  have q2 : decide (1 ≤ mo) = true := decide_eq_true h2
  have q3 : decide (mo ≤ 12) = true := decide_eq_true h3
  have q4 : decide (1 ≤ d) = false := decide_eq_false h4
  clear h0 h1 h2 h3 h4
  go_enter Try.func58, Try.ntmps58
  go_wp2_with (((with_reducible refine gate_dst (N := 1) rfl ?_); refine box_event ?hg (N := 1) ?hd (cs := #[.int .i64 y, .int .i64 mo, .int .i64 d, .int .i64 h, .int .i64 mi, .int .i64 s, .int .i64 na, .int .i64 a]) (t := 47) ?hr ?_; (case hd => rfl); (case hg => rfl); (case hr => first | (go_simp; done) | (go_simp; rfl)); intro gb hg w3 hbox hb; have c0 := (blk_cell hbox 0).trans (show _ = some (.int .i64 y) from rfl); have c1 := (blk_cell hbox 1).trans (show _ = some (.int .i64 mo) from rfl); have c2 := (blk_cell hbox 2).trans (show _ = some (.int .i64 d) from rfl); have c3 := (blk_cell hbox 3).trans (show _ = some (.int .i64 h) from rfl); have c4 := (blk_cell hbox 4).trans (show _ = some (.int .i64 mi) from rfl); have c5 := (blk_cell hbox 5).trans (show _ = some (.int .i64 s) from rfl); have c6 := (blk_cell hbox 6).trans (show _ = some (.int .i64 na) from rfl); have c7 := (blk_cell hbox 7).trans (show _ = some (.int .i64 a) from rfl); have HB2 := Aside0.mk (below_step HB.out hb); clear hbox hb; clear hg))
  refine wp_quiet_of (ops0 := opsOf Try.f58 1) (by kernel_rfl) (by kernel_rfl) lex58 ?_
  simp only [app_cons_, app_nil_]
  repeat (go_big_quiet_step ((go_at_call 86; exact Calls.quiet_of ((days2_any y mo _).mono fun _ _ ⟨he, ⟨h⟩⟩ => ⟨he, h⟩))))
  refine wpQuiet_nil ?_
  intro _ hw'
  obtain ⟨nq, hw''⟩ := hw'
  subst hw''
  go_wp2
  go_ret
  exact ⟨rfl, by repeat (first | exact HB2.out | apply pw_below_drewN)⟩
set_option maxHeartbeats 8000000 in
set_option maxRecDepth 100000 in
theorem dated_5 (y mo d h mi s na a : Int) (w : World) (h0 : 0 ≤ y) (h1 : y ≤ 9999) (h2 : 1 ≤ mo) (h3 : mo ≤ 12) (h4 : 1 ≤ d) (h5 : ¬ (d ≤ daysI y mo)) :
    Calls Try.prog 58 #[.agg #[.int .i64 y, .int .i64 mo, .int .i64 d, .int .i64 h, .int .i64 mi, .int .i64 s, .int .i64 na, .int .i64 a]] w (RightTo w false) := by
  have HB := Aside0.mk (Below.refl w.heap.size w)
  have hu := Try.underlying47
  have q0 : decide (0 ≤ y) = true := decide_eq_true h0
  have q1 : decide (y ≤ 9999) = true := decide_eq_true h1
  have q2 : decide (1 ≤ mo) = true := decide_eq_true h2
  have q3 : decide (mo ≤ 12) = true := decide_eq_true h3
  have q4 : decide (1 ≤ d) = true := decide_eq_true h4
  have q5 : decide (d ≤ daysI y mo) = false := decide_eq_false h5
  clear h0 h1 h2 h3 h4 h5
  go_enter Try.func58, Try.ntmps58
  go_wp2_with (((with_reducible refine gate_dst (N := 1) rfl ?_); refine box_event ?hg (N := 1) ?hd (cs := #[.int .i64 y, .int .i64 mo, .int .i64 d, .int .i64 h, .int .i64 mi, .int .i64 s, .int .i64 na, .int .i64 a]) (t := 47) ?hr ?_; (case hd => rfl); (case hg => rfl); (case hr => first | (go_simp; done) | (go_simp; rfl)); intro gb hg w3 hbox hb; have c0 := (blk_cell hbox 0).trans (show _ = some (.int .i64 y) from rfl); have c1 := (blk_cell hbox 1).trans (show _ = some (.int .i64 mo) from rfl); have c2 := (blk_cell hbox 2).trans (show _ = some (.int .i64 d) from rfl); have c3 := (blk_cell hbox 3).trans (show _ = some (.int .i64 h) from rfl); have c4 := (blk_cell hbox 4).trans (show _ = some (.int .i64 mi) from rfl); have c5 := (blk_cell hbox 5).trans (show _ = some (.int .i64 s) from rfl); have c6 := (blk_cell hbox 6).trans (show _ = some (.int .i64 na) from rfl); have c7 := (blk_cell hbox 7).trans (show _ = some (.int .i64 a) from rfl); have HB2 := Aside0.mk (below_step HB.out hb); clear hbox hb; clear hg))
  refine wp_quiet_of (ops0 := opsOf Try.f58 1) (by kernel_rfl) (by kernel_rfl) lex58 ?_
  simp only [app_cons_, app_nil_]
  repeat (go_big_quiet_step ((go_at_call 86; exact Calls.quiet_of ((days2_any y mo _).mono fun _ _ ⟨he, ⟨h⟩⟩ => ⟨he, h⟩))))
  refine wpQuiet_nil ?_
  intro _ hw'
  obtain ⟨nq, hw''⟩ := hw'
  subst hw''
  go_wp2
  go_ret
  exact ⟨rfl, by repeat (first | exact HB2.out | apply pw_below_drewN)⟩
set_option maxHeartbeats 8000000 in
set_option maxRecDepth 100000 in
theorem dated_6 (y mo d h mi s na a : Int) (w : World) (h0 : 0 ≤ y) (h1 : y ≤ 9999) (h2 : 1 ≤ mo) (h3 : mo ≤ 12) (h4 : 1 ≤ d) (h5 : d ≤ daysI y mo) (h6 : ¬ (0 ≤ h)) :
    Calls Try.prog 58 #[.agg #[.int .i64 y, .int .i64 mo, .int .i64 d, .int .i64 h, .int .i64 mi, .int .i64 s, .int .i64 na, .int .i64 a]] w (RightTo w false) := by
  have HB := Aside0.mk (Below.refl w.heap.size w)
  have hu := Try.underlying47
  have q0 : decide (0 ≤ y) = true := decide_eq_true h0
  have q1 : decide (y ≤ 9999) = true := decide_eq_true h1
  have q2 : decide (1 ≤ mo) = true := decide_eq_true h2
  have q3 : decide (mo ≤ 12) = true := decide_eq_true h3
  have q4 : decide (1 ≤ d) = true := decide_eq_true h4
  have q5 : decide (d ≤ daysI y mo) = true := decide_eq_true h5
  have q6 : decide (0 ≤ h) = false := decide_eq_false h6
  clear h0 h1 h2 h3 h4 h5 h6
  go_enter Try.func58, Try.ntmps58
  go_wp2_with (((with_reducible refine gate_dst (N := 1) rfl ?_); refine box_event ?hg (N := 1) ?hd (cs := #[.int .i64 y, .int .i64 mo, .int .i64 d, .int .i64 h, .int .i64 mi, .int .i64 s, .int .i64 na, .int .i64 a]) (t := 47) ?hr ?_; (case hd => rfl); (case hg => rfl); (case hr => first | (go_simp; done) | (go_simp; rfl)); intro gb hg w3 hbox hb; have c0 := (blk_cell hbox 0).trans (show _ = some (.int .i64 y) from rfl); have c1 := (blk_cell hbox 1).trans (show _ = some (.int .i64 mo) from rfl); have c2 := (blk_cell hbox 2).trans (show _ = some (.int .i64 d) from rfl); have c3 := (blk_cell hbox 3).trans (show _ = some (.int .i64 h) from rfl); have c4 := (blk_cell hbox 4).trans (show _ = some (.int .i64 mi) from rfl); have c5 := (blk_cell hbox 5).trans (show _ = some (.int .i64 s) from rfl); have c6 := (blk_cell hbox 6).trans (show _ = some (.int .i64 na) from rfl); have c7 := (blk_cell hbox 7).trans (show _ = some (.int .i64 a) from rfl); have HB2 := Aside0.mk (below_step HB.out hb); clear hbox hb; clear hg))
  refine wp_quiet_of (ops0 := opsOf Try.f58 1) (by kernel_rfl) (by kernel_rfl) lex58 ?_
  simp only [app_cons_, app_nil_]
  repeat (go_big_quiet_step ((go_at_call 86; exact Calls.quiet_of ((days2_any y mo _).mono fun _ _ ⟨he, ⟨h⟩⟩ => ⟨he, h⟩))))
  refine wpQuiet_nil ?_
  intro _ hw'
  obtain ⟨nq, hw''⟩ := hw'
  subst hw''
  go_wp2
  go_ret
  exact ⟨rfl, by repeat (first | exact HB2.out | apply pw_below_drewN)⟩
set_option maxHeartbeats 8000000 in
set_option maxRecDepth 100000 in
theorem dated_7 (y mo d h mi s na a : Int) (w : World) (h0 : 0 ≤ y) (h1 : y ≤ 9999) (h2 : 1 ≤ mo) (h3 : mo ≤ 12) (h4 : 1 ≤ d) (h5 : d ≤ daysI y mo) (h6 : 0 ≤ h) (h7 : ¬ (h ≤ 23)) :
    Calls Try.prog 58 #[.agg #[.int .i64 y, .int .i64 mo, .int .i64 d, .int .i64 h, .int .i64 mi, .int .i64 s, .int .i64 na, .int .i64 a]] w (RightTo w false) := by
  have HB := Aside0.mk (Below.refl w.heap.size w)
  have hu := Try.underlying47
  have q0 : decide (0 ≤ y) = true := decide_eq_true h0
  have q1 : decide (y ≤ 9999) = true := decide_eq_true h1
  have q2 : decide (1 ≤ mo) = true := decide_eq_true h2
  have q3 : decide (mo ≤ 12) = true := decide_eq_true h3
  have q4 : decide (1 ≤ d) = true := decide_eq_true h4
  have q5 : decide (d ≤ daysI y mo) = true := decide_eq_true h5
  have q6 : decide (0 ≤ h) = true := decide_eq_true h6
  have q7 : decide (h ≤ 23) = false := decide_eq_false h7
  clear h0 h1 h2 h3 h4 h5 h6 h7
  go_enter Try.func58, Try.ntmps58
  go_wp2_with (((with_reducible refine gate_dst (N := 1) rfl ?_); refine box_event ?hg (N := 1) ?hd (cs := #[.int .i64 y, .int .i64 mo, .int .i64 d, .int .i64 h, .int .i64 mi, .int .i64 s, .int .i64 na, .int .i64 a]) (t := 47) ?hr ?_; (case hd => rfl); (case hg => rfl); (case hr => first | (go_simp; done) | (go_simp; rfl)); intro gb hg w3 hbox hb; have c0 := (blk_cell hbox 0).trans (show _ = some (.int .i64 y) from rfl); have c1 := (blk_cell hbox 1).trans (show _ = some (.int .i64 mo) from rfl); have c2 := (blk_cell hbox 2).trans (show _ = some (.int .i64 d) from rfl); have c3 := (blk_cell hbox 3).trans (show _ = some (.int .i64 h) from rfl); have c4 := (blk_cell hbox 4).trans (show _ = some (.int .i64 mi) from rfl); have c5 := (blk_cell hbox 5).trans (show _ = some (.int .i64 s) from rfl); have c6 := (blk_cell hbox 6).trans (show _ = some (.int .i64 na) from rfl); have c7 := (blk_cell hbox 7).trans (show _ = some (.int .i64 a) from rfl); have HB2 := Aside0.mk (below_step HB.out hb); clear hbox hb; clear hg))
  refine wp_quiet_of (ops0 := opsOf Try.f58 1) (by kernel_rfl) (by kernel_rfl) lex58 ?_
  simp only [app_cons_, app_nil_]
  repeat (go_big_quiet_step ((go_at_call 86; exact Calls.quiet_of ((days2_any y mo _).mono fun _ _ ⟨he, ⟨h⟩⟩ => ⟨he, h⟩))))
  refine wpQuiet_nil ?_
  intro _ hw'
  obtain ⟨nq, hw''⟩ := hw'
  subst hw''
  go_wp2
  go_ret
  exact ⟨rfl, by repeat (first | exact HB2.out | apply pw_below_drewN)⟩
set_option maxHeartbeats 8000000 in
set_option maxRecDepth 100000 in
theorem dated_8 (y mo d h mi s na a : Int) (w : World) (h0 : 0 ≤ y) (h1 : y ≤ 9999) (h2 : 1 ≤ mo) (h3 : mo ≤ 12) (h4 : 1 ≤ d) (h5 : d ≤ daysI y mo) (h6 : 0 ≤ h) (h7 : h ≤ 23) (h8 : ¬ (0 ≤ mi)) :
    Calls Try.prog 58 #[.agg #[.int .i64 y, .int .i64 mo, .int .i64 d, .int .i64 h, .int .i64 mi, .int .i64 s, .int .i64 na, .int .i64 a]] w (RightTo w false) := by
  have HB := Aside0.mk (Below.refl w.heap.size w)
  have hu := Try.underlying47
  have q0 : decide (0 ≤ y) = true := decide_eq_true h0
  have q1 : decide (y ≤ 9999) = true := decide_eq_true h1
  have q2 : decide (1 ≤ mo) = true := decide_eq_true h2
  have q3 : decide (mo ≤ 12) = true := decide_eq_true h3
  have q4 : decide (1 ≤ d) = true := decide_eq_true h4
  have q5 : decide (d ≤ daysI y mo) = true := decide_eq_true h5
  have q6 : decide (0 ≤ h) = true := decide_eq_true h6
  have q7 : decide (h ≤ 23) = true := decide_eq_true h7
  have q8 : decide (0 ≤ mi) = false := decide_eq_false h8
  clear h0 h1 h2 h3 h4 h5 h6 h7 h8
  go_enter Try.func58, Try.ntmps58
  go_wp2_with (((with_reducible refine gate_dst (N := 1) rfl ?_); refine box_event ?hg (N := 1) ?hd (cs := #[.int .i64 y, .int .i64 mo, .int .i64 d, .int .i64 h, .int .i64 mi, .int .i64 s, .int .i64 na, .int .i64 a]) (t := 47) ?hr ?_; (case hd => rfl); (case hg => rfl); (case hr => first | (go_simp; done) | (go_simp; rfl)); intro gb hg w3 hbox hb; have c0 := (blk_cell hbox 0).trans (show _ = some (.int .i64 y) from rfl); have c1 := (blk_cell hbox 1).trans (show _ = some (.int .i64 mo) from rfl); have c2 := (blk_cell hbox 2).trans (show _ = some (.int .i64 d) from rfl); have c3 := (blk_cell hbox 3).trans (show _ = some (.int .i64 h) from rfl); have c4 := (blk_cell hbox 4).trans (show _ = some (.int .i64 mi) from rfl); have c5 := (blk_cell hbox 5).trans (show _ = some (.int .i64 s) from rfl); have c6 := (blk_cell hbox 6).trans (show _ = some (.int .i64 na) from rfl); have c7 := (blk_cell hbox 7).trans (show _ = some (.int .i64 a) from rfl); have HB2 := Aside0.mk (below_step HB.out hb); clear hbox hb; clear hg))
  refine wp_quiet_of (ops0 := opsOf Try.f58 1) (by kernel_rfl) (by kernel_rfl) lex58 ?_
  simp only [app_cons_, app_nil_]
  repeat (go_big_quiet_step ((go_at_call 86; exact Calls.quiet_of ((days2_any y mo _).mono fun _ _ ⟨he, ⟨h⟩⟩ => ⟨he, h⟩))))
  refine wpQuiet_nil ?_
  intro _ hw'
  obtain ⟨nq, hw''⟩ := hw'
  subst hw''
  go_wp2
  go_ret
  exact ⟨rfl, by repeat (first | exact HB2.out | apply pw_below_drewN)⟩
set_option maxHeartbeats 8000000 in
set_option maxRecDepth 100000 in
theorem dated_9 (y mo d h mi s na a : Int) (w : World) (h0 : 0 ≤ y) (h1 : y ≤ 9999) (h2 : 1 ≤ mo) (h3 : mo ≤ 12) (h4 : 1 ≤ d) (h5 : d ≤ daysI y mo) (h6 : 0 ≤ h) (h7 : h ≤ 23) (h8 : 0 ≤ mi) (h9 : ¬ (mi ≤ 59)) :
    Calls Try.prog 58 #[.agg #[.int .i64 y, .int .i64 mo, .int .i64 d, .int .i64 h, .int .i64 mi, .int .i64 s, .int .i64 na, .int .i64 a]] w (RightTo w false) := by
  have HB := Aside0.mk (Below.refl w.heap.size w)
  have hu := Try.underlying47
  have q0 : decide (0 ≤ y) = true := decide_eq_true h0
  have q1 : decide (y ≤ 9999) = true := decide_eq_true h1
  have q2 : decide (1 ≤ mo) = true := decide_eq_true h2
  have q3 : decide (mo ≤ 12) = true := decide_eq_true h3
  have q4 : decide (1 ≤ d) = true := decide_eq_true h4
  have q5 : decide (d ≤ daysI y mo) = true := decide_eq_true h5
  have q6 : decide (0 ≤ h) = true := decide_eq_true h6
  have q7 : decide (h ≤ 23) = true := decide_eq_true h7
  have q8 : decide (0 ≤ mi) = true := decide_eq_true h8
  have q9 : decide (mi ≤ 59) = false := decide_eq_false h9
  clear h0 h1 h2 h3 h4 h5 h6 h7 h8 h9
  go_enter Try.func58, Try.ntmps58
  go_wp2_with (((with_reducible refine gate_dst (N := 1) rfl ?_); refine box_event ?hg (N := 1) ?hd (cs := #[.int .i64 y, .int .i64 mo, .int .i64 d, .int .i64 h, .int .i64 mi, .int .i64 s, .int .i64 na, .int .i64 a]) (t := 47) ?hr ?_; (case hd => rfl); (case hg => rfl); (case hr => first | (go_simp; done) | (go_simp; rfl)); intro gb hg w3 hbox hb; have c0 := (blk_cell hbox 0).trans (show _ = some (.int .i64 y) from rfl); have c1 := (blk_cell hbox 1).trans (show _ = some (.int .i64 mo) from rfl); have c2 := (blk_cell hbox 2).trans (show _ = some (.int .i64 d) from rfl); have c3 := (blk_cell hbox 3).trans (show _ = some (.int .i64 h) from rfl); have c4 := (blk_cell hbox 4).trans (show _ = some (.int .i64 mi) from rfl); have c5 := (blk_cell hbox 5).trans (show _ = some (.int .i64 s) from rfl); have c6 := (blk_cell hbox 6).trans (show _ = some (.int .i64 na) from rfl); have c7 := (blk_cell hbox 7).trans (show _ = some (.int .i64 a) from rfl); have HB2 := Aside0.mk (below_step HB.out hb); clear hbox hb; clear hg))
  refine wp_quiet_of (ops0 := opsOf Try.f58 1) (by kernel_rfl) (by kernel_rfl) lex58 ?_
  simp only [app_cons_, app_nil_]
  repeat (go_big_quiet_step ((go_at_call 86; exact Calls.quiet_of ((days2_any y mo _).mono fun _ _ ⟨he, ⟨h⟩⟩ => ⟨he, h⟩))))
  refine wpQuiet_nil ?_
  intro _ hw'
  obtain ⟨nq, hw''⟩ := hw'
  subst hw''
  go_wp2
  go_ret
  exact ⟨rfl, by repeat (first | exact HB2.out | apply pw_below_drewN)⟩
set_option maxHeartbeats 8000000 in
set_option maxRecDepth 100000 in
theorem dated_10 (y mo d h mi s na a : Int) (w : World) (h0 : 0 ≤ y) (h1 : y ≤ 9999) (h2 : 1 ≤ mo) (h3 : mo ≤ 12) (h4 : 1 ≤ d) (h5 : d ≤ daysI y mo) (h6 : 0 ≤ h) (h7 : h ≤ 23) (h8 : 0 ≤ mi) (h9 : mi ≤ 59) (h10 : ¬ (0 ≤ s)) :
    Calls Try.prog 58 #[.agg #[.int .i64 y, .int .i64 mo, .int .i64 d, .int .i64 h, .int .i64 mi, .int .i64 s, .int .i64 na, .int .i64 a]] w (RightTo w false) := by
  have HB := Aside0.mk (Below.refl w.heap.size w)
  have hu := Try.underlying47
  have q0 : decide (0 ≤ y) = true := decide_eq_true h0
  have q1 : decide (y ≤ 9999) = true := decide_eq_true h1
  have q2 : decide (1 ≤ mo) = true := decide_eq_true h2
  have q3 : decide (mo ≤ 12) = true := decide_eq_true h3
  have q4 : decide (1 ≤ d) = true := decide_eq_true h4
  have q5 : decide (d ≤ daysI y mo) = true := decide_eq_true h5
  have q6 : decide (0 ≤ h) = true := decide_eq_true h6
  have q7 : decide (h ≤ 23) = true := decide_eq_true h7
  have q8 : decide (0 ≤ mi) = true := decide_eq_true h8
  have q9 : decide (mi ≤ 59) = true := decide_eq_true h9
  have q10 : decide (0 ≤ s) = false := decide_eq_false h10
  clear h0 h1 h2 h3 h4 h5 h6 h7 h8 h9 h10
  go_enter Try.func58, Try.ntmps58
  go_wp2_with (((with_reducible refine gate_dst (N := 1) rfl ?_); refine box_event ?hg (N := 1) ?hd (cs := #[.int .i64 y, .int .i64 mo, .int .i64 d, .int .i64 h, .int .i64 mi, .int .i64 s, .int .i64 na, .int .i64 a]) (t := 47) ?hr ?_; (case hd => rfl); (case hg => rfl); (case hr => first | (go_simp; done) | (go_simp; rfl)); intro gb hg w3 hbox hb; have c0 := (blk_cell hbox 0).trans (show _ = some (.int .i64 y) from rfl); have c1 := (blk_cell hbox 1).trans (show _ = some (.int .i64 mo) from rfl); have c2 := (blk_cell hbox 2).trans (show _ = some (.int .i64 d) from rfl); have c3 := (blk_cell hbox 3).trans (show _ = some (.int .i64 h) from rfl); have c4 := (blk_cell hbox 4).trans (show _ = some (.int .i64 mi) from rfl); have c5 := (blk_cell hbox 5).trans (show _ = some (.int .i64 s) from rfl); have c6 := (blk_cell hbox 6).trans (show _ = some (.int .i64 na) from rfl); have c7 := (blk_cell hbox 7).trans (show _ = some (.int .i64 a) from rfl); have HB2 := Aside0.mk (below_step HB.out hb); clear hbox hb; clear hg))
  refine wp_quiet_of (ops0 := opsOf Try.f58 1) (by kernel_rfl) (by kernel_rfl) lex58 ?_
  simp only [app_cons_, app_nil_]
  repeat (go_big_quiet_step ((go_at_call 86; exact Calls.quiet_of ((days2_any y mo _).mono fun _ _ ⟨he, ⟨h⟩⟩ => ⟨he, h⟩))))
  refine wpQuiet_nil ?_
  intro _ hw'
  obtain ⟨nq, hw''⟩ := hw'
  subst hw''
  go_wp2
  go_ret
  exact ⟨rfl, by repeat (first | exact HB2.out | apply pw_below_drewN)⟩
set_option maxHeartbeats 8000000 in
set_option maxRecDepth 100000 in
theorem dated_11 (y mo d h mi s na a : Int) (w : World) (h0 : 0 ≤ y) (h1 : y ≤ 9999) (h2 : 1 ≤ mo) (h3 : mo ≤ 12) (h4 : 1 ≤ d) (h5 : d ≤ daysI y mo) (h6 : 0 ≤ h) (h7 : h ≤ 23) (h8 : 0 ≤ mi) (h9 : mi ≤ 59) (h10 : 0 ≤ s) (h11 : ¬ (s ≤ 59)) :
    Calls Try.prog 58 #[.agg #[.int .i64 y, .int .i64 mo, .int .i64 d, .int .i64 h, .int .i64 mi, .int .i64 s, .int .i64 na, .int .i64 a]] w (RightTo w false) := by
  have HB := Aside0.mk (Below.refl w.heap.size w)
  have hu := Try.underlying47
  have q0 : decide (0 ≤ y) = true := decide_eq_true h0
  have q1 : decide (y ≤ 9999) = true := decide_eq_true h1
  have q2 : decide (1 ≤ mo) = true := decide_eq_true h2
  have q3 : decide (mo ≤ 12) = true := decide_eq_true h3
  have q4 : decide (1 ≤ d) = true := decide_eq_true h4
  have q5 : decide (d ≤ daysI y mo) = true := decide_eq_true h5
  have q6 : decide (0 ≤ h) = true := decide_eq_true h6
  have q7 : decide (h ≤ 23) = true := decide_eq_true h7
  have q8 : decide (0 ≤ mi) = true := decide_eq_true h8
  have q9 : decide (mi ≤ 59) = true := decide_eq_true h9
  have q10 : decide (0 ≤ s) = true := decide_eq_true h10
  have q11 : decide (s ≤ 59) = false := decide_eq_false h11
  clear h0 h1 h2 h3 h4 h5 h6 h7 h8 h9 h10 h11
  go_enter Try.func58, Try.ntmps58
  go_wp2_with (((with_reducible refine gate_dst (N := 1) rfl ?_); refine box_event ?hg (N := 1) ?hd (cs := #[.int .i64 y, .int .i64 mo, .int .i64 d, .int .i64 h, .int .i64 mi, .int .i64 s, .int .i64 na, .int .i64 a]) (t := 47) ?hr ?_; (case hd => rfl); (case hg => rfl); (case hr => first | (go_simp; done) | (go_simp; rfl)); intro gb hg w3 hbox hb; have c0 := (blk_cell hbox 0).trans (show _ = some (.int .i64 y) from rfl); have c1 := (blk_cell hbox 1).trans (show _ = some (.int .i64 mo) from rfl); have c2 := (blk_cell hbox 2).trans (show _ = some (.int .i64 d) from rfl); have c3 := (blk_cell hbox 3).trans (show _ = some (.int .i64 h) from rfl); have c4 := (blk_cell hbox 4).trans (show _ = some (.int .i64 mi) from rfl); have c5 := (blk_cell hbox 5).trans (show _ = some (.int .i64 s) from rfl); have c6 := (blk_cell hbox 6).trans (show _ = some (.int .i64 na) from rfl); have c7 := (blk_cell hbox 7).trans (show _ = some (.int .i64 a) from rfl); have HB2 := Aside0.mk (below_step HB.out hb); clear hbox hb; clear hg))
  refine wp_quiet_of (ops0 := opsOf Try.f58 1) (by kernel_rfl) (by kernel_rfl) lex58 ?_
  simp only [app_cons_, app_nil_]
  repeat (go_big_quiet_step ((go_at_call 86; exact Calls.quiet_of ((days2_any y mo _).mono fun _ _ ⟨he, ⟨h⟩⟩ => ⟨he, h⟩))))
  refine wpQuiet_nil ?_
  intro _ hw'
  obtain ⟨nq, hw''⟩ := hw'
  subst hw''
  go_wp2
  go_ret
  exact ⟨rfl, by repeat (first | exact HB2.out | apply pw_below_drewN)⟩
set_option maxHeartbeats 8000000 in
set_option maxRecDepth 100000 in
theorem dated_12 (y mo d h mi s na a : Int) (w : World) (h0 : 0 ≤ y) (h1 : y ≤ 9999) (h2 : 1 ≤ mo) (h3 : mo ≤ 12) (h4 : 1 ≤ d) (h5 : d ≤ daysI y mo) (h6 : 0 ≤ h) (h7 : h ≤ 23) (h8 : 0 ≤ mi) (h9 : mi ≤ 59) (h10 : 0 ≤ s) (h11 : s ≤ 59) (h12 : ¬ (0 ≤ na)) :
    Calls Try.prog 58 #[.agg #[.int .i64 y, .int .i64 mo, .int .i64 d, .int .i64 h, .int .i64 mi, .int .i64 s, .int .i64 na, .int .i64 a]] w (RightTo w false) := by
  have HB := Aside0.mk (Below.refl w.heap.size w)
  have hu := Try.underlying47
  have q0 : decide (0 ≤ y) = true := decide_eq_true h0
  have q1 : decide (y ≤ 9999) = true := decide_eq_true h1
  have q2 : decide (1 ≤ mo) = true := decide_eq_true h2
  have q3 : decide (mo ≤ 12) = true := decide_eq_true h3
  have q4 : decide (1 ≤ d) = true := decide_eq_true h4
  have q5 : decide (d ≤ daysI y mo) = true := decide_eq_true h5
  have q6 : decide (0 ≤ h) = true := decide_eq_true h6
  have q7 : decide (h ≤ 23) = true := decide_eq_true h7
  have q8 : decide (0 ≤ mi) = true := decide_eq_true h8
  have q9 : decide (mi ≤ 59) = true := decide_eq_true h9
  have q10 : decide (0 ≤ s) = true := decide_eq_true h10
  have q11 : decide (s ≤ 59) = true := decide_eq_true h11
  have q12 : decide (0 ≤ na) = false := decide_eq_false h12
  clear h0 h1 h2 h3 h4 h5 h6 h7 h8 h9 h10 h11 h12
  go_enter Try.func58, Try.ntmps58
  go_wp2_with (((with_reducible refine gate_dst (N := 1) rfl ?_); refine box_event ?hg (N := 1) ?hd (cs := #[.int .i64 y, .int .i64 mo, .int .i64 d, .int .i64 h, .int .i64 mi, .int .i64 s, .int .i64 na, .int .i64 a]) (t := 47) ?hr ?_; (case hd => rfl); (case hg => rfl); (case hr => first | (go_simp; done) | (go_simp; rfl)); intro gb hg w3 hbox hb; have c0 := (blk_cell hbox 0).trans (show _ = some (.int .i64 y) from rfl); have c1 := (blk_cell hbox 1).trans (show _ = some (.int .i64 mo) from rfl); have c2 := (blk_cell hbox 2).trans (show _ = some (.int .i64 d) from rfl); have c3 := (blk_cell hbox 3).trans (show _ = some (.int .i64 h) from rfl); have c4 := (blk_cell hbox 4).trans (show _ = some (.int .i64 mi) from rfl); have c5 := (blk_cell hbox 5).trans (show _ = some (.int .i64 s) from rfl); have c6 := (blk_cell hbox 6).trans (show _ = some (.int .i64 na) from rfl); have c7 := (blk_cell hbox 7).trans (show _ = some (.int .i64 a) from rfl); have HB2 := Aside0.mk (below_step HB.out hb); clear hbox hb; clear hg))
  refine wp_quiet_of (ops0 := opsOf Try.f58 1) (by kernel_rfl) (by kernel_rfl) lex58 ?_
  simp only [app_cons_, app_nil_]
  repeat (go_big_quiet_step ((go_at_call 86; exact Calls.quiet_of ((days2_any y mo _).mono fun _ _ ⟨he, ⟨h⟩⟩ => ⟨he, h⟩))))
  refine wpQuiet_nil ?_
  intro _ hw'
  obtain ⟨nq, hw''⟩ := hw'
  subst hw''
  go_wp2
  go_ret
  exact ⟨rfl, by repeat (first | exact HB2.out | apply pw_below_drewN)⟩
set_option maxHeartbeats 8000000 in
set_option maxRecDepth 100000 in
theorem dated_13 (y mo d h mi s na a : Int) (w : World) (h0 : 0 ≤ y) (h1 : y ≤ 9999) (h2 : 1 ≤ mo) (h3 : mo ≤ 12) (h4 : 1 ≤ d) (h5 : d ≤ daysI y mo) (h6 : 0 ≤ h) (h7 : h ≤ 23) (h8 : 0 ≤ mi) (h9 : mi ≤ 59) (h10 : 0 ≤ s) (h11 : s ≤ 59) (h12 : 0 ≤ na) (h13 : ¬ (na ≤ 999999999)) :
    Calls Try.prog 58 #[.agg #[.int .i64 y, .int .i64 mo, .int .i64 d, .int .i64 h, .int .i64 mi, .int .i64 s, .int .i64 na, .int .i64 a]] w (RightTo w false) := by
  have HB := Aside0.mk (Below.refl w.heap.size w)
  have hu := Try.underlying47
  have q0 : decide (0 ≤ y) = true := decide_eq_true h0
  have q1 : decide (y ≤ 9999) = true := decide_eq_true h1
  have q2 : decide (1 ≤ mo) = true := decide_eq_true h2
  have q3 : decide (mo ≤ 12) = true := decide_eq_true h3
  have q4 : decide (1 ≤ d) = true := decide_eq_true h4
  have q5 : decide (d ≤ daysI y mo) = true := decide_eq_true h5
  have q6 : decide (0 ≤ h) = true := decide_eq_true h6
  have q7 : decide (h ≤ 23) = true := decide_eq_true h7
  have q8 : decide (0 ≤ mi) = true := decide_eq_true h8
  have q9 : decide (mi ≤ 59) = true := decide_eq_true h9
  have q10 : decide (0 ≤ s) = true := decide_eq_true h10
  have q11 : decide (s ≤ 59) = true := decide_eq_true h11
  have q12 : decide (0 ≤ na) = true := decide_eq_true h12
  have q13 : decide (na ≤ 999999999) = false := decide_eq_false h13
  clear h0 h1 h2 h3 h4 h5 h6 h7 h8 h9 h10 h11 h12 h13
  go_enter Try.func58, Try.ntmps58
  go_wp2_with (((with_reducible refine gate_dst (N := 1) rfl ?_); refine box_event ?hg (N := 1) ?hd (cs := #[.int .i64 y, .int .i64 mo, .int .i64 d, .int .i64 h, .int .i64 mi, .int .i64 s, .int .i64 na, .int .i64 a]) (t := 47) ?hr ?_; (case hd => rfl); (case hg => rfl); (case hr => first | (go_simp; done) | (go_simp; rfl)); intro gb hg w3 hbox hb; have c0 := (blk_cell hbox 0).trans (show _ = some (.int .i64 y) from rfl); have c1 := (blk_cell hbox 1).trans (show _ = some (.int .i64 mo) from rfl); have c2 := (blk_cell hbox 2).trans (show _ = some (.int .i64 d) from rfl); have c3 := (blk_cell hbox 3).trans (show _ = some (.int .i64 h) from rfl); have c4 := (blk_cell hbox 4).trans (show _ = some (.int .i64 mi) from rfl); have c5 := (blk_cell hbox 5).trans (show _ = some (.int .i64 s) from rfl); have c6 := (blk_cell hbox 6).trans (show _ = some (.int .i64 na) from rfl); have c7 := (blk_cell hbox 7).trans (show _ = some (.int .i64 a) from rfl); have HB2 := Aside0.mk (below_step HB.out hb); clear hbox hb; clear hg))
  refine wp_quiet_of (ops0 := opsOf Try.f58 1) (by kernel_rfl) (by kernel_rfl) lex58 ?_
  simp only [app_cons_, app_nil_]
  repeat (go_big_quiet_step ((go_at_call 86; exact Calls.quiet_of ((days2_any y mo _).mono fun _ _ ⟨he, ⟨h⟩⟩ => ⟨he, h⟩))))
  refine wpQuiet_nil ?_
  intro _ hw'
  obtain ⟨nq, hw''⟩ := hw'
  subst hw''
  go_wp2
  go_ret
  exact ⟨rfl, by repeat (first | exact HB2.out | apply pw_below_drewN)⟩
set_option maxHeartbeats 8000000 in
set_option maxRecDepth 100000 in
theorem dated_14 (y mo d h mi s na a : Int) (w : World) (h0 : 0 ≤ y) (h1 : y ≤ 9999) (h2 : 1 ≤ mo) (h3 : mo ≤ 12) (h4 : 1 ≤ d) (h5 : d ≤ daysI y mo) (h6 : 0 ≤ h) (h7 : h ≤ 23) (h8 : 0 ≤ mi) (h9 : mi ≤ 59) (h10 : 0 ≤ s) (h11 : s ≤ 59) (h12 : 0 ≤ na) (h13 : na ≤ 999999999) (h14 : ¬ (-1440 < a)) :
    Calls Try.prog 58 #[.agg #[.int .i64 y, .int .i64 mo, .int .i64 d, .int .i64 h, .int .i64 mi, .int .i64 s, .int .i64 na, .int .i64 a]] w (RightTo w false) := by
  have HB := Aside0.mk (Below.refl w.heap.size w)
  have hu := Try.underlying47
  have q0 : decide (0 ≤ y) = true := decide_eq_true h0
  have q1 : decide (y ≤ 9999) = true := decide_eq_true h1
  have q2 : decide (1 ≤ mo) = true := decide_eq_true h2
  have q3 : decide (mo ≤ 12) = true := decide_eq_true h3
  have q4 : decide (1 ≤ d) = true := decide_eq_true h4
  have q5 : decide (d ≤ daysI y mo) = true := decide_eq_true h5
  have q6 : decide (0 ≤ h) = true := decide_eq_true h6
  have q7 : decide (h ≤ 23) = true := decide_eq_true h7
  have q8 : decide (0 ≤ mi) = true := decide_eq_true h8
  have q9 : decide (mi ≤ 59) = true := decide_eq_true h9
  have q10 : decide (0 ≤ s) = true := decide_eq_true h10
  have q11 : decide (s ≤ 59) = true := decide_eq_true h11
  have q12 : decide (0 ≤ na) = true := decide_eq_true h12
  have q13 : decide (na ≤ 999999999) = true := decide_eq_true h13
  have q14 : decide (-1440 < a) = false := decide_eq_false h14
  clear h0 h1 h2 h3 h4 h5 h6 h7 h8 h9 h10 h11 h12 h13 h14
  go_enter Try.func58, Try.ntmps58
  go_wp2_with (((with_reducible refine gate_dst (N := 1) rfl ?_); refine box_event ?hg (N := 1) ?hd (cs := #[.int .i64 y, .int .i64 mo, .int .i64 d, .int .i64 h, .int .i64 mi, .int .i64 s, .int .i64 na, .int .i64 a]) (t := 47) ?hr ?_; (case hd => rfl); (case hg => rfl); (case hr => first | (go_simp; done) | (go_simp; rfl)); intro gb hg w3 hbox hb; have c0 := (blk_cell hbox 0).trans (show _ = some (.int .i64 y) from rfl); have c1 := (blk_cell hbox 1).trans (show _ = some (.int .i64 mo) from rfl); have c2 := (blk_cell hbox 2).trans (show _ = some (.int .i64 d) from rfl); have c3 := (blk_cell hbox 3).trans (show _ = some (.int .i64 h) from rfl); have c4 := (blk_cell hbox 4).trans (show _ = some (.int .i64 mi) from rfl); have c5 := (blk_cell hbox 5).trans (show _ = some (.int .i64 s) from rfl); have c6 := (blk_cell hbox 6).trans (show _ = some (.int .i64 na) from rfl); have c7 := (blk_cell hbox 7).trans (show _ = some (.int .i64 a) from rfl); have HB2 := Aside0.mk (below_step HB.out hb); clear hbox hb; clear hg))
  refine wp_quiet_of (ops0 := opsOf Try.f58 1) (by kernel_rfl) (by kernel_rfl) lex58 ?_
  simp only [app_cons_, app_nil_]
  repeat (go_big_quiet_step ((go_at_call 86; exact Calls.quiet_of ((days2_any y mo _).mono fun _ _ ⟨he, ⟨h⟩⟩ => ⟨he, h⟩))))
  refine wpQuiet_nil ?_
  intro _ hw'
  obtain ⟨nq, hw''⟩ := hw'
  subst hw''
  go_wp2
  go_ret
  exact ⟨rfl, by repeat (first | exact HB2.out | apply pw_below_drewN)⟩
set_option maxHeartbeats 8000000 in
set_option maxRecDepth 100000 in
theorem dated_15 (y mo d h mi s na a : Int) (w : World) (h0 : 0 ≤ y) (h1 : y ≤ 9999) (h2 : 1 ≤ mo) (h3 : mo ≤ 12) (h4 : 1 ≤ d) (h5 : d ≤ daysI y mo) (h6 : 0 ≤ h) (h7 : h ≤ 23) (h8 : 0 ≤ mi) (h9 : mi ≤ 59) (h10 : 0 ≤ s) (h11 : s ≤ 59) (h12 : 0 ≤ na) (h13 : na ≤ 999999999) (h14 : -1440 < a) (h15 : ¬ (a < 1440)) :
    Calls Try.prog 58 #[.agg #[.int .i64 y, .int .i64 mo, .int .i64 d, .int .i64 h, .int .i64 mi, .int .i64 s, .int .i64 na, .int .i64 a]] w (RightTo w false) := by
  have HB := Aside0.mk (Below.refl w.heap.size w)
  have hu := Try.underlying47
  have q0 : decide (0 ≤ y) = true := decide_eq_true h0
  have q1 : decide (y ≤ 9999) = true := decide_eq_true h1
  have q2 : decide (1 ≤ mo) = true := decide_eq_true h2
  have q3 : decide (mo ≤ 12) = true := decide_eq_true h3
  have q4 : decide (1 ≤ d) = true := decide_eq_true h4
  have q5 : decide (d ≤ daysI y mo) = true := decide_eq_true h5
  have q6 : decide (0 ≤ h) = true := decide_eq_true h6
  have q7 : decide (h ≤ 23) = true := decide_eq_true h7
  have q8 : decide (0 ≤ mi) = true := decide_eq_true h8
  have q9 : decide (mi ≤ 59) = true := decide_eq_true h9
  have q10 : decide (0 ≤ s) = true := decide_eq_true h10
  have q11 : decide (s ≤ 59) = true := decide_eq_true h11
  have q12 : decide (0 ≤ na) = true := decide_eq_true h12
  have q13 : decide (na ≤ 999999999) = true := decide_eq_true h13
  have q14 : decide (-1440 < a) = true := decide_eq_true h14
  have q15 : decide (a < 1440) = false := decide_eq_false h15
  clear h0 h1 h2 h3 h4 h5 h6 h7 h8 h9 h10 h11 h12 h13 h14 h15
  go_enter Try.func58, Try.ntmps58
  go_wp2_with (((with_reducible refine gate_dst (N := 1) rfl ?_); refine box_event ?hg (N := 1) ?hd (cs := #[.int .i64 y, .int .i64 mo, .int .i64 d, .int .i64 h, .int .i64 mi, .int .i64 s, .int .i64 na, .int .i64 a]) (t := 47) ?hr ?_; (case hd => rfl); (case hg => rfl); (case hr => first | (go_simp; done) | (go_simp; rfl)); intro gb hg w3 hbox hb; have c0 := (blk_cell hbox 0).trans (show _ = some (.int .i64 y) from rfl); have c1 := (blk_cell hbox 1).trans (show _ = some (.int .i64 mo) from rfl); have c2 := (blk_cell hbox 2).trans (show _ = some (.int .i64 d) from rfl); have c3 := (blk_cell hbox 3).trans (show _ = some (.int .i64 h) from rfl); have c4 := (blk_cell hbox 4).trans (show _ = some (.int .i64 mi) from rfl); have c5 := (blk_cell hbox 5).trans (show _ = some (.int .i64 s) from rfl); have c6 := (blk_cell hbox 6).trans (show _ = some (.int .i64 na) from rfl); have c7 := (blk_cell hbox 7).trans (show _ = some (.int .i64 a) from rfl); have HB2 := Aside0.mk (below_step HB.out hb); clear hbox hb; clear hg))
  refine wp_quiet_of (ops0 := opsOf Try.f58 1) (by kernel_rfl) (by kernel_rfl) lex58 ?_
  simp only [app_cons_, app_nil_]
  repeat (go_big_quiet_step ((go_at_call 86; exact Calls.quiet_of ((days2_any y mo _).mono fun _ _ ⟨he, ⟨h⟩⟩ => ⟨he, h⟩))))
  refine wpQuiet_nil ?_
  intro _ hw'
  obtain ⟨nq, hw''⟩ := hw'
  subst hw''
  go_wp2
  go_ret
  exact ⟨rfl, by repeat (first | exact HB2.out | apply pw_below_drewN)⟩
set_option maxHeartbeats 8000000 in
set_option maxRecDepth 100000 in
theorem dated_16 (y mo d h mi s na a : Int) (w : World) (h0 : 0 ≤ y) (h1 : y ≤ 9999) (h2 : 1 ≤ mo) (h3 : mo ≤ 12) (h4 : 1 ≤ d) (h5 : d ≤ daysI y mo) (h6 : 0 ≤ h) (h7 : h ≤ 23) (h8 : 0 ≤ mi) (h9 : mi ≤ 59) (h10 : 0 ≤ s) (h11 : s ≤ 59) (h12 : 0 ≤ na) (h13 : na ≤ 999999999) (h14 : -1440 < a) (h15 : a < 1440) :
    Calls Try.prog 58 #[.agg #[.int .i64 y, .int .i64 mo, .int .i64 d, .int .i64 h, .int .i64 mi, .int .i64 s, .int .i64 na, .int .i64 a]] w (RightTo w true) := by
  have HB := Aside0.mk (Below.refl w.heap.size w)
  have hu := Try.underlying47
  have q0 : decide (0 ≤ y) = true := decide_eq_true h0
  have q1 : decide (y ≤ 9999) = true := decide_eq_true h1
  have q2 : decide (1 ≤ mo) = true := decide_eq_true h2
  have q3 : decide (mo ≤ 12) = true := decide_eq_true h3
  have q4 : decide (1 ≤ d) = true := decide_eq_true h4
  have q5 : decide (d ≤ daysI y mo) = true := decide_eq_true h5
  have q6 : decide (0 ≤ h) = true := decide_eq_true h6
  have q7 : decide (h ≤ 23) = true := decide_eq_true h7
  have q8 : decide (0 ≤ mi) = true := decide_eq_true h8
  have q9 : decide (mi ≤ 59) = true := decide_eq_true h9
  have q10 : decide (0 ≤ s) = true := decide_eq_true h10
  have q11 : decide (s ≤ 59) = true := decide_eq_true h11
  have q12 : decide (0 ≤ na) = true := decide_eq_true h12
  have q13 : decide (na ≤ 999999999) = true := decide_eq_true h13
  have q14 : decide (-1440 < a) = true := decide_eq_true h14
  have q15 : decide (a < 1440) = true := decide_eq_true h15
  clear h0 h1 h2 h3 h4 h5 h6 h7 h8 h9 h10 h11 h12 h13 h14 h15
  go_enter Try.func58, Try.ntmps58
  go_wp2_with (((with_reducible refine gate_dst (N := 1) rfl ?_); refine box_event ?hg (N := 1) ?hd (cs := #[.int .i64 y, .int .i64 mo, .int .i64 d, .int .i64 h, .int .i64 mi, .int .i64 s, .int .i64 na, .int .i64 a]) (t := 47) ?hr ?_; (case hd => rfl); (case hg => rfl); (case hr => first | (go_simp; done) | (go_simp; rfl)); intro gb hg w3 hbox hb; have c0 := (blk_cell hbox 0).trans (show _ = some (.int .i64 y) from rfl); have c1 := (blk_cell hbox 1).trans (show _ = some (.int .i64 mo) from rfl); have c2 := (blk_cell hbox 2).trans (show _ = some (.int .i64 d) from rfl); have c3 := (blk_cell hbox 3).trans (show _ = some (.int .i64 h) from rfl); have c4 := (blk_cell hbox 4).trans (show _ = some (.int .i64 mi) from rfl); have c5 := (blk_cell hbox 5).trans (show _ = some (.int .i64 s) from rfl); have c6 := (blk_cell hbox 6).trans (show _ = some (.int .i64 na) from rfl); have c7 := (blk_cell hbox 7).trans (show _ = some (.int .i64 a) from rfl); have HB2 := Aside0.mk (below_step HB.out hb); clear hbox hb; clear hg))
  refine wp_quiet_of (ops0 := opsOf Try.f58 1) (by kernel_rfl) (by kernel_rfl) lex58 ?_
  simp only [app_cons_, app_nil_]
  repeat (go_big_quiet_step ((go_at_call 86; exact Calls.quiet_of ((days2_any y mo _).mono fun _ _ ⟨he, ⟨h⟩⟩ => ⟨he, h⟩))))
  refine wpQuiet_nil ?_
  intro _ hw'
  obtain ⟨nq, hw''⟩ := hw'
  subst hw''
  go_wp2
  go_ret
  exact ⟨rfl, by repeat (first | exact HB2.out | apply pw_below_drewN)⟩
theorem dated_any (y mo d h mi s na a : Int) (w : World) : Calls Try.prog 58 #[.agg #[.int .i64 y, .int .i64 mo, .int .i64 d, .int .i64 h, .int .i64 mi, .int .i64 s, .int .i64 na, .int .i64 a]] w (RightTo w (datedB y mo d h mi s na a)) := by
  by_cases h0 : 0 ≤ y
  case neg =>
    have hb : datedB y mo d h mi s na a = false := by
      unfold datedB
      rw [decide_eq_false h0]
      simp
    rw [hb]; exact dated_0 y mo d h mi s na a w h0
  by_cases h1 : y ≤ 9999
  case neg =>
    have hb : datedB y mo d h mi s na a = false := by
      unfold datedB
      rw [decide_eq_false h1]
      simp
    rw [hb]; exact dated_1 y mo d h mi s na a w h0 h1
  by_cases h2 : 1 ≤ mo
  case neg =>
    have hb : datedB y mo d h mi s na a = false := by
      unfold datedB
      rw [decide_eq_false h2]
      simp
    rw [hb]; exact dated_2 y mo d h mi s na a w h0 h1 h2
  by_cases h3 : mo ≤ 12
  case neg =>
    have hb : datedB y mo d h mi s na a = false := by
      unfold datedB
      rw [decide_eq_false h3]
      simp
    rw [hb]; exact dated_3 y mo d h mi s na a w h0 h1 h2 h3
  by_cases h4 : 1 ≤ d
  case neg =>
    have hb : datedB y mo d h mi s na a = false := by
      unfold datedB
      rw [decide_eq_false h4]
      simp
    rw [hb]; exact dated_4 y mo d h mi s na a w h0 h1 h2 h3 h4
  by_cases h5 : d ≤ daysI y mo
  case neg =>
    have hb : datedB y mo d h mi s na a = false := by
      unfold datedB
      rw [decide_eq_false h5]
      simp
    rw [hb]; exact dated_5 y mo d h mi s na a w h0 h1 h2 h3 h4 h5
  by_cases h6 : 0 ≤ h
  case neg =>
    have hb : datedB y mo d h mi s na a = false := by
      unfold datedB
      rw [decide_eq_false h6]
      simp
    rw [hb]; exact dated_6 y mo d h mi s na a w h0 h1 h2 h3 h4 h5 h6
  by_cases h7 : h ≤ 23
  case neg =>
    have hb : datedB y mo d h mi s na a = false := by
      unfold datedB
      rw [decide_eq_false h7]
      simp
    rw [hb]; exact dated_7 y mo d h mi s na a w h0 h1 h2 h3 h4 h5 h6 h7
  by_cases h8 : 0 ≤ mi
  case neg =>
    have hb : datedB y mo d h mi s na a = false := by
      unfold datedB
      rw [decide_eq_false h8]
      simp
    rw [hb]; exact dated_8 y mo d h mi s na a w h0 h1 h2 h3 h4 h5 h6 h7 h8
  by_cases h9 : mi ≤ 59
  case neg =>
    have hb : datedB y mo d h mi s na a = false := by
      unfold datedB
      rw [decide_eq_false h9]
      simp
    rw [hb]; exact dated_9 y mo d h mi s na a w h0 h1 h2 h3 h4 h5 h6 h7 h8 h9
  by_cases h10 : 0 ≤ s
  case neg =>
    have hb : datedB y mo d h mi s na a = false := by
      unfold datedB
      rw [decide_eq_false h10]
      simp
    rw [hb]; exact dated_10 y mo d h mi s na a w h0 h1 h2 h3 h4 h5 h6 h7 h8 h9 h10
  by_cases h11 : s ≤ 59
  case neg =>
    have hb : datedB y mo d h mi s na a = false := by
      unfold datedB
      rw [decide_eq_false h11]
      simp
    rw [hb]; exact dated_11 y mo d h mi s na a w h0 h1 h2 h3 h4 h5 h6 h7 h8 h9 h10 h11
  by_cases h12 : 0 ≤ na
  case neg =>
    have hb : datedB y mo d h mi s na a = false := by
      unfold datedB
      rw [decide_eq_false h12]
      simp
    rw [hb]; exact dated_12 y mo d h mi s na a w h0 h1 h2 h3 h4 h5 h6 h7 h8 h9 h10 h11 h12
  by_cases h13 : na ≤ 999999999
  case neg =>
    have hb : datedB y mo d h mi s na a = false := by
      unfold datedB
      rw [decide_eq_false h13]
      simp
    rw [hb]; exact dated_13 y mo d h mi s na a w h0 h1 h2 h3 h4 h5 h6 h7 h8 h9 h10 h11 h12 h13
  by_cases h14 : -1440 < a
  case neg =>
    have hb : datedB y mo d h mi s na a = false := by
      unfold datedB
      rw [decide_eq_false h14]
      simp
    rw [hb]; exact dated_14 y mo d h mi s na a w h0 h1 h2 h3 h4 h5 h6 h7 h8 h9 h10 h11 h12 h13 h14
  by_cases h15 : a < 1440
  case neg =>
    have hb : datedB y mo d h mi s na a = false := by
      unfold datedB
      rw [decide_eq_false h15]
      simp
    rw [hb]; exact dated_15 y mo d h mi s na a w h0 h1 h2 h3 h4 h5 h6 h7 h8 h9 h10 h11 h12 h13 h14 h15
  have hb : datedB y mo d h mi s na a = true := by
    unfold datedB
    simp only [decide_eq_true h0, decide_eq_true h1, decide_eq_true h2, decide_eq_true h3, decide_eq_true h4, decide_eq_true h5, decide_eq_true h6, decide_eq_true h7, decide_eq_true h8, decide_eq_true h9, decide_eq_true h10, decide_eq_true h11, decide_eq_true h12, decide_eq_true h13, decide_eq_true h14, decide_eq_true h15, Bool.and_self]
  rw [hb]; exact dated_16 y mo d h mi s na a w h0 h1 h2 h3 h4 h5 h6 h7 h8 h9 h10 h11 h12 h13 h14 h15
end

def impl_dated.f (a0_0 : Int) (a0_1 : Int) (a0_2 : Int) (a0_3 : Int) (a0_4 : Int) (a0_5 : Int) (a0_6 : Int) (a0_7 : Int) : Option Bool := some (datedB a0_0 a0_1 a0_2 a0_3 a0_4 a0_5 a0_6 a0_7)
theorem impl_dated.calls (a0_0 : Int) (a0_1 : Int) (a0_2 : Int) (a0_3 : Int) (a0_4 : Int) (a0_5 : Int) (a0_6 : Int) (a0_7 : Int) (r : Bool) (w : World) (h : impl_dated.f a0_0 a0_1 a0_2 a0_3 a0_4 a0_5 a0_6 a0_7 = some r) :
    Calls Try.prog 58 #[.agg #[.int .i64 a0_0, .int .i64 a0_1, .int .i64 a0_2, .int .i64 a0_3, .int .i64 a0_4, .int .i64 a0_5, .int .i64 a0_6, .int .i64 a0_7]] w fun e w' => e = .returned (.bool r) ∧ Below w.heap.size w w' := by
  obtain rfl := Option.some.inj h
  exact dated_any a0_0 a0_1 a0_2 a0_3 a0_4 a0_5 a0_6 a0_7 w

/-! ### impl_written: function 59 -/
def impl_written.f (l0 : List Int) (a1 : Option Int) : Option (List Int × Bool) := if a1.isNone = true then (some (l0, true)) else (some (([] : List Int), false))
set_option maxHeartbeats 8000000 in
set_option maxRecDepth 100000 in
theorem impl_written.calls (P0_ : Nat → Prop) (u9000_ : Value) (l0 : List Int) (a1 : Option Int) (r1 : List Int) (r2 : Bool) (w0 w : World) (hB : Below w0.heap.size w0 w) (ho0 : Kd.R (Kd.int .u8) 5 w w0.heap.size P0_ u9000_ l0) (h : impl_written.f l0 a1 = some (r1, r2)) :
    Calls Try.prog 59 #[u9000_, errW a1] w fun e w' => ∃ v0_ : Value, e = .returned (.tuple #[v0_, .bool r2]) ∧ Kd.R (Kd.int .u8) 5 w' w0.heap.size (fun k_ => (P0_ k_ ∨ w.heap.size ≤ k_)) v0_ r1 ∧ Below w0.heap.size w0 w' ∧ Kept w w' (fun k_ => P0_ k_) := by
  have hu72 := Try.underlying72
  have HO0 := Aside0.mk (show Kd.R (Kd.int .u8) 5 w w0.heap.size (fun k_ => (P0_ k_ ∨ w.heap.size ≤ k_)) u9000_ l0 from Kd.R_mono ho0 (fun k_ hk => (.inl hk)))
  have HK := Aside0.mk (Kept.refl w (fun k_ => P0_ k_))
  have HW0 := Aside0.mk hB.size
  have HB := Aside0.mk hB
  clear hB
  have H : (if a1.isNone = true then (some (l0, true)) else (some (([] : List Int), false))) = some (r1, r2) := h
  clear h
  rcases a1 with _ | q117
  · have H1 : (some (l0, true)) = some (r1, r2) := by rw [if_pos (show (none : Option Int).isNone = true by rfl)] at H; exact H
    clear H
    have H := H1
    clear H1
    simp only [errW_none, errW_some]
    simp only [Option.some.injEq, Prod.mk.injEq] at H
    obtain ⟨rfl, rfl⟩ := H
    go_enter Try.func59, Try.ntmps59
    go_wp2
    go_ret2
    exact ⟨_, by first | rfl | (simp [errW_none, errW_some] <;> rfl) | (simp [*, errW_none, errW_some] <;> rfl), by (with_reducible repeat (first | apply Kd.R_alloc | apply Kd.R_drewN | apply Kd.R_drew)); exact HO0.out, by repeat (first | (with_reducible first | exact HB.out | apply below_alloc | apply pw_below_drewN | apply below_drew1) | exact HB.out), by repeat (first | (with_reducible first | exact HK.out | apply Kept.alloc | apply Kept.drewN | apply Kept.drew) | exact HK.out)⟩
  · have H1 : (some (([] : List Int), false)) = some (r1, r2) := by rw [if_neg (show ¬ (some q117).isNone = true by simp)] at H; exact H
    clear H
    have H := H1
    clear H1
    simp only [errW_none, errW_some]
    simp only [Option.some.injEq, Prod.mk.injEq] at H
    obtain ⟨rfl, rfl⟩ := H
    go_enter Try.func59, Try.ntmps59
    go_wp2
    go_ret2
    exact ⟨_, by first | rfl | (simp [errW_none, errW_some] <;> rfl) | (simp [*, errW_none, errW_some] <;> rfl), by first | exact Kd.R_nil _ _ _ _ _ | exact Kd.N_nil _ _ _ _ _ | exact Kd.V_nil _ _ _ _ _ | exact Kd.Q_nil _ _ _ _ _ | exact Kd.S_nil _ _ _ _ _, by repeat (first | (with_reducible first | exact HB.out | apply below_alloc | apply pw_below_drewN | apply below_drew1) | exact HB.out), by repeat (first | (with_reducible first | exact HK.out | apply Kept.alloc | apply Kept.drewN | apply Kept.drew) | exact HK.out)⟩

/-! ### impl_timeOf: function 61 -/
def impl_timeOf.f (a0_0 : Int) (a0_1 : Int) (a0_2 : Int) (a0_3 : Int) (a0_4 : Int) (a0_5 : Int) (a0_6 : Int) (a0_7 : Int) : Option (Int × Int × Int × Int × Int × Int × Int × Int) := some (a0_0, a0_1, a0_2, a0_3, a0_4, a0_5, a0_6, a0_7)
set_option maxHeartbeats 8000000 in
set_option maxRecDepth 100000 in
theorem impl_timeOf.calls (a0_0 : Int) (a0_1 : Int) (a0_2 : Int) (a0_3 : Int) (a0_4 : Int) (a0_5 : Int) (a0_6 : Int) (a0_7 : Int) (r1 : Int) (r2 : Int) (r3 : Int) (r4 : Int) (r5 : Int) (r6 : Int) (r7 : Int) (r8 : Int) (w : World) (h : impl_timeOf.f a0_0 a0_1 a0_2 a0_3 a0_4 a0_5 a0_6 a0_7 = some (r1, r2, r3, r4, r5, r6, r7, r8)) :
    Calls Try.prog 61 #[.agg #[.int .i64 a0_0, .int .i64 a0_1, .int .i64 a0_2, .int .i64 a0_3, .int .i64 a0_4, .int .i64 a0_5, .int .i64 a0_6, .int .i64 a0_7]] w fun e w' => e = .returned (.agg #[.int .i64 r1, .int .i64 r2, .int .i64 r3, .int .i64 r4, .int .i64 r5, .int .i64 r6, .int .i64 r7, .int .i64 r8]) ∧ Below w.heap.size w w' := by
  have hu47 := Try.underlying47
  have hu87 := Try.underlying87
  have HB := Aside0.mk (Below.refl w.heap.size w)
  have H : (some (a0_0, a0_1, a0_2, a0_3, a0_4, a0_5, a0_6, a0_7)) = some (r1, r2, r3, r4, r5, r6, r7, r8) := h
  clear h
  simp only [Option.some.injEq, Prod.mk.injEq] at H
  obtain ⟨rfl, rfl, rfl, rfl, rfl, rfl, rfl, rfl⟩ := H
  go_enter Try.func61, Try.ntmps61
  go_wp2_with (first | ((with_reducible refine gate_dst (N := 1) rfl ?_); refine box_event ?hg (N := 1) ?hd (cs := #[.int .i64 a0_0, .int .i64 a0_1, .int .i64 a0_2, .int .i64 a0_3, .int .i64 a0_4, .int .i64 a0_5, .int .i64 a0_6, .int .i64 a0_7]) (t := 47) ?hr ?_; (case hd => rfl); (case hg => rfl); (case hr => first | (go_simp; done) | (go_simp; rfl)); intro gb118 hg w2 hbox hb; have n0_ := Aside0.mk (below_step (by repeat (first | (with_reducible first | exact HB.out | apply below_alloc | apply pw_below_drewN | apply below_drew1) | exact HB.out)) hb); have n1_ := Aside0.mk (hbox); have n2_ := Aside0.mk ((by rw [hg]; exact (below_size (by repeat (first | (with_reducible first | exact HB.out | apply below_alloc | apply pw_below_drewN | apply below_drew1) | exact HB.out))) : w.heap.size ≤ gb118)); have n3_ := Aside0.mk ((by rw [hg]; exact (below_size (by repeat (first | (with_reducible first | exact HB.out | apply below_alloc | apply pw_below_drewN | apply below_drew1) | exact HB.out))) : w.heap.size ≤ gb118)); clear HB; have HB := n0_; have BK118 := n1_; have GW118 := n2_; have GE118 := n3_; clear n0_ n1_ n2_ n3_; clear hb hbox hg) | ((with_reducible refine gate_dst (N := 2) rfl ?_); refine box_event ?hg (N := 2) ?hd (cs := #[.int .i64 0, .int .i64 0, .int .i64 0, .int .i64 0, .int .i64 0, .int .i64 0, .int .i64 0, .int .i64 0]) (t := 87) ?hr ?_; (case hd => rfl); (case hg => rfl); (case hr => first | (go_simp; done) | (go_simp; rfl)); intro gb119 hg w3 hbox hb; have n0_ := Aside0.mk (blk_below (g := gb118) (o := .cells #[.int .i64 a0_0, .int .i64 a0_1, .int .i64 a0_2, .int .i64 a0_3, .int .i64 a0_4, .int .i64 a0_5, .int .i64 a0_6, .int .i64 a0_7] 47 (0, 0)) (by (with_reducible repeat (first | refine blk_drewN ?_ _ | refine blk_drew ?_ | refine blk_alloc ?_ _)); exact BK118.out) hb); have n1_ := Aside0.mk (below_step (by repeat (first | (with_reducible first | exact HB.out | apply below_alloc | apply pw_below_drewN | apply below_drew1 | refine below_set ?_ GE118.out) | exact HB.out)) hb); have n2_ := Aside0.mk (hbox); have n3_ := Aside0.mk ((by rw [hg]; exact (below_size (by repeat (first | (with_reducible first | exact HB.out | apply below_alloc | apply pw_below_drewN | apply below_drew1 | refine below_set ?_ GE118.out) | exact HB.out))) : w.heap.size ≤ gb119)); have n4_ := Aside0.mk ((by rw [hg]; exact (below_size (by repeat (first | (with_reducible first | exact HB.out | apply below_alloc | apply pw_below_drewN | apply below_drew1 | refine below_set ?_ GE118.out) | exact HB.out))) : w.heap.size ≤ gb119)); have n5_ := Aside0.mk ((by rw [hg]; exact Nat.ne_of_lt (blk_lt (g := gb118) (o := .cells #[.int .i64 a0_0, .int .i64 a0_1, .int .i64 a0_2, .int .i64 a0_3, .int .i64 a0_4, .int .i64 a0_5, .int .i64 a0_6, .int .i64 a0_7] 47 (0, 0)) (by (with_reducible repeat (first | refine blk_drewN ?_ _ | refine blk_drew ?_ | refine blk_alloc ?_ _)); exact BK118.out)) : gb118 ≠ gb119)); have n6_ := Aside0.mk ((by rw [hg]; exact Nat.ne_of_gt (blk_lt (g := gb118) (o := .cells #[.int .i64 a0_0, .int .i64 a0_1, .int .i64 a0_2, .int .i64 a0_3, .int .i64 a0_4, .int .i64 a0_5, .int .i64 a0_6, .int .i64 a0_7] 47 (0, 0)) (by (with_reducible repeat (first | refine blk_drewN ?_ _ | refine blk_drew ?_ | refine blk_alloc ?_ _)); exact BK118.out)) : gb119 ≠ gb118)); clear BK118; clear HB; have BK118 := n0_; have HB := n1_; have BK119 := n2_; have GW119 := n3_; have GE119 := n4_; have NB118_119 := n5_; have NB119_118 := n6_; clear n0_ n1_ n2_ n3_ n4_ n5_ n6_; clear hb hbox hg; have hnb4 := NB118_119.out; have hnc4 := NB119_118.out; have hcz5_0 : w3.cell? ⟨gb118, 0, none⟩ = some (.int .i64 a0_0) := (blk_cell BK118.out 0).trans rfl; have hcz5_1 : w3.cell? ⟨gb118, 1, none⟩ = some (.int .i64 a0_1) := (blk_cell BK118.out 1).trans rfl; have hcz5_2 : w3.cell? ⟨gb118, 2, none⟩ = some (.int .i64 a0_2) := (blk_cell BK118.out 2).trans rfl; have hcz5_3 : w3.cell? ⟨gb118, 3, none⟩ = some (.int .i64 a0_3) := (blk_cell BK118.out 3).trans rfl; have hcz5_4 : w3.cell? ⟨gb118, 4, none⟩ = some (.int .i64 a0_4) := (blk_cell BK118.out 4).trans rfl; have hcz5_5 : w3.cell? ⟨gb118, 5, none⟩ = some (.int .i64 a0_5) := (blk_cell BK118.out 5).trans rfl; have hcz5_6 : w3.cell? ⟨gb118, 6, none⟩ = some (.int .i64 a0_6) := (blk_cell BK118.out 6).trans rfl; have hcz5_7 : w3.cell? ⟨gb118, 7, none⟩ = some (.int .i64 a0_7) := (blk_cell BK118.out 7).trans rfl; have hfz5_0 := blk_frozen BK118.out 0; have hfz5_1 := blk_frozen BK118.out 1; have hfz5_2 := blk_frozen BK118.out 2; have hfz5_3 := blk_frozen BK118.out 3; have hfz5_4 := blk_frozen BK118.out 4; have hfz5_5 := blk_frozen BK118.out 5; have hfz5_6 := blk_frozen BK118.out 6; have hfz5_7 := blk_frozen BK118.out 7; have hcz6_0 : w3.cell? ⟨gb119, 0, none⟩ = some (.int .i64 0) := (blk_cell BK119.out 0).trans rfl; have hcz6_1 : w3.cell? ⟨gb119, 1, none⟩ = some (.int .i64 0) := (blk_cell BK119.out 1).trans rfl; have hcz6_2 : w3.cell? ⟨gb119, 2, none⟩ = some (.int .i64 0) := (blk_cell BK119.out 2).trans rfl; have hcz6_3 : w3.cell? ⟨gb119, 3, none⟩ = some (.int .i64 0) := (blk_cell BK119.out 3).trans rfl; have hcz6_4 : w3.cell? ⟨gb119, 4, none⟩ = some (.int .i64 0) := (blk_cell BK119.out 4).trans rfl; have hcz6_5 : w3.cell? ⟨gb119, 5, none⟩ = some (.int .i64 0) := (blk_cell BK119.out 5).trans rfl; have hcz6_6 : w3.cell? ⟨gb119, 6, none⟩ = some (.int .i64 0) := (blk_cell BK119.out 6).trans rfl; have hcz6_7 : w3.cell? ⟨gb119, 7, none⟩ = some (.int .i64 0) := (blk_cell BK119.out 7).trans rfl; have hfz6_0 := blk_frozen BK119.out 0; have hfz6_1 := blk_frozen BK119.out 1; have hfz6_2 := blk_frozen BK119.out 2; have hfz6_3 := blk_frozen BK119.out 3; have hfz6_4 := blk_frozen BK119.out 4; have hfz6_5 := blk_frozen BK119.out 5; have hfz6_6 := blk_frozen BK119.out 6; have hfz6_7 := blk_frozen BK119.out 7))
  refine bodyPost_ret (results_cell_row rfl _ _ gb119 87 #[.int .i64 a0_0, .int .i64 a0_1, .int .i64 a0_2, .int .i64 a0_3, .int .i64 a0_4, .int .i64 a0_5, .int .i64 a0_6, .int .i64 a0_7] (0, 0) _ rfl (by (with_reducible repeat (first | refine blk_drewN ?_ _ | refine blk_drew ?_ | refine blk_alloc ?_ _)); refine blk_put (cs := #[.int .i64 a0_0, .int .i64 a0_1, .int .i64 a0_2, .int .i64 a0_3, .int .i64 a0_4, .int .i64 a0_5, .int .i64 a0_6, .int .i64 0]) ?_ 7 _ rfl; (with_reducible repeat (first | refine blk_drewN ?_ _ | refine blk_drew ?_ | refine blk_alloc ?_ _)); refine blk_put (cs := #[.int .i64 a0_0, .int .i64 a0_1, .int .i64 a0_2, .int .i64 a0_3, .int .i64 a0_4, .int .i64 a0_5, .int .i64 0, .int .i64 0]) ?_ 6 _ rfl; (with_reducible repeat (first | refine blk_drewN ?_ _ | refine blk_drew ?_ | refine blk_alloc ?_ _)); refine blk_put (cs := #[.int .i64 a0_0, .int .i64 a0_1, .int .i64 a0_2, .int .i64 a0_3, .int .i64 a0_4, .int .i64 0, .int .i64 0, .int .i64 0]) ?_ 5 _ rfl; (with_reducible repeat (first | refine blk_drewN ?_ _ | refine blk_drew ?_ | refine blk_alloc ?_ _)); refine blk_put (cs := #[.int .i64 a0_0, .int .i64 a0_1, .int .i64 a0_2, .int .i64 a0_3, .int .i64 0, .int .i64 0, .int .i64 0, .int .i64 0]) ?_ 4 _ rfl; (with_reducible repeat (first | refine blk_drewN ?_ _ | refine blk_drew ?_ | refine blk_alloc ?_ _)); refine blk_put (cs := #[.int .i64 a0_0, .int .i64 a0_1, .int .i64 a0_2, .int .i64 0, .int .i64 0, .int .i64 0, .int .i64 0, .int .i64 0]) ?_ 3 _ rfl; (with_reducible repeat (first | refine blk_drewN ?_ _ | refine blk_drew ?_ | refine blk_alloc ?_ _)); refine blk_put (cs := #[.int .i64 a0_0, .int .i64 a0_1, .int .i64 0, .int .i64 0, .int .i64 0, .int .i64 0, .int .i64 0, .int .i64 0]) ?_ 2 _ rfl; (with_reducible repeat (first | refine blk_drewN ?_ _ | refine blk_drew ?_ | refine blk_alloc ?_ _)); refine blk_put (cs := #[.int .i64 a0_0, .int .i64 0, .int .i64 0, .int .i64 0, .int .i64 0, .int .i64 0, .int .i64 0, .int .i64 0]) ?_ 1 _ rfl; (with_reducible repeat (first | refine blk_drewN ?_ _ | refine blk_drew ?_ | refine blk_alloc ?_ _)); refine blk_put (cs := #[.int .i64 0, .int .i64 0, .int .i64 0, .int .i64 0, .int .i64 0, .int .i64 0, .int .i64 0, .int .i64 0]) ?_ 0 _ rfl; (with_reducible repeat (first | refine blk_drewN ?_ _ | refine blk_drew ?_ | refine blk_alloc ?_ _)); exact BK119.out) Try.underlying87 rfl (by kernel_rfl)) rfl ?_
  exact ⟨by first | rfl | (simp [errW_none, errW_some] <;> rfl) | (simp [*, errW_none, errW_some] <;> rfl), by repeat (first | (with_reducible first | exact HB.out | apply below_alloc | apply pw_below_drewN | apply below_drew1 | refine below_set ?_ GE118.out | refine below_set ?_ GE119.out) | exact HB.out)⟩

/-! ### asn1_appendTwoDigits: function 101 -/
def asn1_appendTwoDigits.f (l0 : List Int) (a1 : Int) : Option (List Int) := (some (([(wrap64 (48 + (Int.tmod (wrap64 (Int.tdiv a1 10)) 10))) % 256, (wrap64 (48 + (Int.tmod a1 10))) % 256] : List Int) : List Int)).bind fun y120 => (if l0.length + y120.length < 140737488355328 then (some (l0 ++ y120)) else (none))
set_option maxHeartbeats 8000000 in
set_option maxRecDepth 100000 in
theorem asn1_appendTwoDigits.calls (P0_ : Nat → Prop) (u9000_ : Value) (l0 : List Int) (a1 : Int) (r : List Int) (w0 w : World) (hB : Below w0.heap.size w0 w) (ho0 : Kd.R (Kd.int .u8) 5 w w0.heap.size P0_ u9000_ l0) (h : asn1_appendTwoDigits.f l0 a1 = some r) :
    Calls Try.prog 101 #[u9000_, .int .i64 a1] w fun e w' => ∃ v0_ : Value, e = .returned (v0_) ∧ Kd.R (Kd.int .u8) 5 w' w0.heap.size (fun k_ => (P0_ k_ ∨ w.heap.size ≤ k_)) v0_ r ∧ Below w0.heap.size w0 w' ∧ Kept w w' (fun k_ => P0_ k_) := by
  have HO0 := Aside0.mk (show Kd.R (Kd.int .u8) 5 w w0.heap.size (fun k_ => (P0_ k_ ∨ w.heap.size ≤ k_)) u9000_ l0 from Kd.R_mono ho0 (fun k_ hk => (.inl hk)))
  have HK := Aside0.mk (Kept.refl w (fun k_ => P0_ k_))
  have HW0 := Aside0.mk hB.size
  have HB := Aside0.mk hB
  clear hB
  have H : ((some (([(wrap64 (48 + (Int.tmod (wrap64 (Int.tdiv a1 10)) 10))) % 256, (wrap64 (48 + (Int.tmod a1 10))) % 256] : List Int) : List Int)).bind fun y120 => (if l0.length + y120.length < 140737488355328 then (some (l0 ++ y120)) else (none))) = some r := h
  clear h
  obtain ⟨y120, hy120⟩ : ∃ y_ : List Int, y_ = (([(wrap64 (48 + (Int.tmod (wrap64 (Int.tdiv a1 10)) 10))) % 256, (wrap64 (48 + (Int.tmod a1 10))) % 256] : List Int)) := ⟨_, rfl⟩
  replace H : (if l0.length + y120.length < 140737488355328 then (some (l0 ++ y120)) else (none)) = some r := by first | (rw [hy120]; with_reducible exact H) | (have H2_ := (Option.bind_some _ _).symm.trans H; rw [hy120]; with_reducible exact H2_) | (have H2_ := (Option.bind_some _ _).symm.trans H; with_reducible exact H2_) | with_reducible exact H | (rw [hy120]; exact H) | exact H
  have Ny120 := Aside0.mk hy120
  clear hy120
  by_cases c3 : l0.length + y120.length < 140737488355328
  · rw [if_pos c3] at H
    have LMc3 := Aside0.mk c3
    clear c3
    obtain ⟨y123, hy123⟩ : ∃ y_ : List Int, y_ = (l0 ++ y120) := ⟨_, rfl⟩
    replace H : (some y123) = some r := by first | (rw [hy123]; with_reducible exact H) | (have H2_ := (Option.bind_some _ _).symm.trans H; rw [hy123]; with_reducible exact H2_) | (have H2_ := (Option.bind_some _ _).symm.trans H; with_reducible exact H2_) | with_reducible exact H | (rw [hy123]; exact H) | exact H
    have Ny123 := Aside0.mk hy123
    clear hy123
    obtain rfl := Option.some.inj H
    go_enter Try.func101, Try.ntmps101
    go_wp2_with (first | ((with_reducible refine gate_dst (N := 15) rfl ?_); refine Kd.R_lit (Kd.int .u8) _ 5 ?hg (N := 15) ?hd (xs := ([(wrap64 (48 + (Int.tmod (wrap64 (Int.tdiv a1 10)) 10))) % 256, (wrap64 (48 + (Int.tmod a1 10))) % 256] : List Int)) (inner := [.int .u8 ((wrap64 (48 + (Int.tmod (wrap64 (Int.tdiv a1 10)) 10))) % 256), .int .u8 ((wrap64 (48 + (Int.tmod a1 10))) % 256)]) (ok := fun _ => True) (okp := fun _ => True) ?hr ?hp (fun _ hk => hk) trivial (Below.refl _ _) (Nat.le_refl _) (by simp) ?_; (case hd => rfl); (case hg => rfl); (case hr => first | (go_simp; done) | (go_simp; rfl)); (case hp => exact (Reps.one (show Kd.M (Kd.int .u8) _ _ _ ((wrap64 (48 + (Int.tmod (wrap64 (Int.tdiv a1 10)) 10))) % 256) [.int .u8 ((wrap64 (48 + (Int.tmod (wrap64 (Int.tdiv a1 10)) 10))) % 256)] from rfl) (Reps.one (show Kd.M (Kd.int .u8) _ _ _ ((wrap64 (48 + (Int.tmod a1 10))) % 256) [.int .u8 ((wrap64 (48 + (Int.tmod a1 10))) % 256)] from rfl) (Reps.none _ _)))); intro v121 w4 ho5 hb hg_ hnew_; clear hg_ hnew_; (first | rw [← Ny120.out] at ho5 | (simp only [Int.reduceToNat] at ho5; rw [← Ny120.out] at ho5)); have n0_ := Aside0.mk (Kd.R_elder' (by (with_reducible repeat (first | apply Kd.R_alloc | apply Kd.R_drewN | apply Kd.R_drew)); exact HO0.out) (Kd.R_base ho5) hb); have n1_ := Aside0.mk (Kd.R_lower (Kd.R_new' (Kd.R_newM (M := fun k_ => (P0_ k_ ∨ w.heap.size ≤ k_)) ho5 (by first | exact HK.out.1 | exact (show Kept w _ (fun k_ => P0_ k_) from by repeat (first | (with_reducible first | exact HK.out | apply Kept.alloc | apply Kept.drewN | apply Kept.drew) | exact HK.out)).1) (fun k_ h_ => .inr h_)) (Kd.R_lt (by (with_reducible repeat (first | apply Kd.R_alloc | apply Kd.R_drewN | apply Kd.R_drew)); exact HO0.out))) (below_size (by repeat (first | (with_reducible first | exact HB.out | apply below_alloc | apply pw_below_drewN | apply below_drew1) | exact HB.out)))); have n2_ := Aside0.mk (Kept.below (S := (fun k_ => P0_ k_)) (by repeat (first | (with_reducible first | exact HK.out | apply Kept.alloc | apply Kept.drewN | apply Kept.drew) | exact HK.out)) hb); have n3_ := Aside0.mk (below_step (by repeat (first | (with_reducible first | exact HB.out | apply below_alloc | apply pw_below_drewN | apply below_drew1) | exact HB.out)) hb); clear HO0; clear HK; clear HB; have HO0 := n0_; have HO122 := n1_; have HK := n2_; have HB := n3_; clear n0_ n1_ n2_ n3_; clear hb ho5; obtain ⟨Ao7, co7, eo7⟩ := Kd.R_slice HO122.out; subst eo7) | ((with_reducible refine gate_builtin (b := .append) (xs := #[.tmp 5, .tmp 15]) rfl ?_); at_builtin; refine Kd.R_append_rows (Kd.int .u8) (w0 := w0) w0.heap.size rfl (.tmp 5) (.tmp 15) 25 5 (.int .u8 0) 1 rfl Try.underlying25 info5 rfl (by decide) (by omega) u9000_ l0 y120 _ _ _ (fun k_ => (P0_ k_ ∨ w.heap.size ≤ k_) ∧ some k_ ≠ (.slice Ao7 y120.length co7 : Value).ownBlock) (fun _ => False) rfl rfl ?aO ?aR (fun _ _ h => h) (fun _ h => h.elim) ?aF ?aB ?aS ?aL ?_; (case aR => repeat (first | exact (Kd.R_reads' HO122.out).2.2 | (with_reducible refine Kd.C_alloc ?_ _) | (with_reducible refine Kd.C_drewN ?_ _) | (with_reducible refine Kd.C_drew ?_))); (case aB => exact (by repeat (first | (with_reducible first | exact HB.out | apply below_alloc | apply pw_below_drewN | apply below_drew1) | exact HB.out))); (case aF => exact (fun k_ hk => ⟨(.inr (Nat.le_trans (by first | exact HK.out.1 | exact (show Kept w _ (fun k_ => P0_ k_) from by repeat (first | (with_reducible first | exact HK.out | apply Kept.alloc | apply Kept.drewN | apply Kept.drew) | exact HK.out)).1) hk)), Kd.fresh' (Kd.R_lt (by (with_reducible repeat (first | apply Kd.R_alloc | apply Kd.R_drewN | apply Kd.R_drew)); exact HO122.out)) k_ hk⟩)); (case aO => exact (by (with_reducible repeat (first | apply Kd.R_alloc | apply Kd.R_drewN | apply Kd.R_drew)); exact HO0.out)); (case aS => exact (below_size (by repeat (first | (with_reducible first | exact HB.out | apply below_alloc | apply pw_below_drewN | apply below_drew1) | exact HB.out)))); (case aL => have := LMc3.out; omega); intro v124 w6 ho hb hg hat; rw [← Ny123.out] at ho; have n0_ := Aside0.mk (Kd.R_after (ok := (fun k_ => (P0_ k_ ∨ w.heap.size ≤ k_))) (by (with_reducible repeat (first | apply Kd.R_alloc | apply Kd.R_drewN | apply Kd.R_drew)); exact Kd.R_mono HO122.out (fun _ hk => ⟨hk.1.1, hk.2⟩)) hg hat); have n1_ := Aside0.mk (hb); have n2_ := Aside0.mk (Kept.of_grown (S := (fun k_ => P0_ k_)) hg (by repeat (first | (with_reducible first | exact HK.out | apply Kept.alloc | apply Kept.drewN | apply Kept.drew) | exact HK.out)) (fun k_ e_ => (HO0.out.1 k_ e_).1)); have n3_ := Aside0.mk (ho); clear HO122; clear HB; clear HK; clear HO0; have HO122 := n0_; have HB := n1_; have HK := n2_; have HO125 := n3_; clear n0_ n1_ n2_ n3_; clear ho hb hg hat))
    go_ret
    exact ⟨_, by first | rfl | (simp [errW_none, errW_some] <;> rfl) | (simp [*, errW_none, errW_some] <;> rfl), by (with_reducible repeat (first | apply Kd.R_alloc | apply Kd.R_drewN | apply Kd.R_drew)); exact Kd.R_mono HO125.out (fun _ hk => hk.1), by repeat (first | (with_reducible first | exact HB.out | apply below_alloc | apply pw_below_drewN | apply below_drew1) | exact HB.out), by repeat (first | (with_reducible first | exact HK.out | apply Kept.alloc | apply Kept.drewN | apply Kept.drew) | exact HK.out)⟩
  · rw [if_neg c3] at H
    exact absurd H (by simp)

end Go.Proofs.Ytmiemfgcggkbnaa.QP2
