-- Written by a program of this work (wip/patch_print.py) for this claim.
import Derived.Test.YtapnkngcnlomhaaQAx0
import Derived.Test.YtapnkngcnlomhaaQAx2
import Derived.Test.YtapnkngcnlomhaaQAx3
import Derived.Test.YtapnkngcnlomhaaQAx6
import Derived.Test.YtapnkngcnlomhaaQAx7
namespace Go.Proofs.Ytapnkngcnlomhaa.QA
open Go.RowKit Go.Proofs.YtapnkngcnlomhaaW.PrintWords Go.Proofs.YtapnkngcnlomhaaW.PrintLast Go.Proofs.YtapnkngcnlomhaaW.PrintMore
attribute [local go_sem] max2_int min2_int max_two min_two max_three min_three max_four min_four   -- for this text's walks alone
set_option linter.unusedVariables false
set_option linter.unusedSimpArgs false

/-! ### laws_FnPutHeader: function 10 -/
def laws_FnPutHeader.j0 : Nat → Bool → Int → Int → Int → Bool → Option (Bool)
  | 0, _, _, _, _, _ => none
  | k + 1, x30, x368000, x368001, x368002, x368003 => if x30 = true then (some true) else ((impl_PutHeader.f k x368000 x368001 x368002 x368003).bind fun t368 => ((spec_PutHeader.f k x368000 x368001 x368002 x368003).bind fun t371 => ((bytes_Equal.f t368 t371).bind fun t374 => (some t374))))
def laws_FnPutHeader.f (k : Nat) (a0_0 : Int) (a0_1 : Int) (a0_2 : Int) (a0_3 : Bool) : Option (Bool) := if a0_0 < 0 then (laws_FnPutHeader.j0 k true a0_0 a0_1 a0_2 a0_3) else (if a0_0 > 3 then (laws_FnPutHeader.j0 k true a0_0 a0_1 a0_2 a0_3) else (if a0_1 < 0 then (laws_FnPutHeader.j0 k true a0_0 a0_1 a0_2 a0_3) else (if a0_1 > 2147483647 then (laws_FnPutHeader.j0 k true a0_0 a0_1 a0_2 a0_3) else (if a0_2 < 0 then (laws_FnPutHeader.j0 k true a0_0 a0_1 a0_2 a0_3) else (laws_FnPutHeader.j0 k (decide (a0_2 > 2147483647)) a0_0 a0_1 a0_2 a0_3)))))
theorem laws_FnPutHeader.mono_l : ∀ k, (∀ y0 y1 y2 y3 y4, LeO (laws_FnPutHeader.j0 k y0 y1 y2 y3 y4) (laws_FnPutHeader.j0 (k + 1) y0 y1 y2 y3 y4))
  | 0 => fun _ _ _ _ _ r h => by simp [laws_FnPutHeader.j0] at h
  | k + 1 => by
    have ih0 := laws_FnPutHeader.mono_l k
    · intro y0 y1 y2 y3 y4
      unfold laws_FnPutHeader.j0
      repeat' first
      | (with_reducible exact ih0 _ _ _ _ _)
      | (with_reducible exact impl_PutHeader.mono _ _ _ _ _)
      | (with_reducible exact spec_PutHeader.mono _ _ _ _ _)
      | (with_reducible exact LeO.refl _)
      | (with_reducible exact LeO.none _)
      | (with_reducible refine LeO.ite ?_ ?_)
      | (with_reducible refine LeO.bind ?_ (fun _ => ?_))
      | exact ih0 _ _ _ _ _
      | exact impl_PutHeader.mono _ _ _ _ _
      | exact spec_PutHeader.mono _ _ _ _ _
      | exact LeO.none _
      | refine LeO.ite ?_ ?_
      | refine LeO.bind ?_ (fun _ => ?_)
theorem laws_FnPutHeader.mono : ∀ a0 a1 a2 a3 k, LeO (laws_FnPutHeader.f k a0 a1 a2 a3) (laws_FnPutHeader.f (k + 1) a0 a1 a2 a3) := by
  intro a0 a1 a2 a3 k
  have ih0 := laws_FnPutHeader.mono_l k
  unfold laws_FnPutHeader.f
  repeat' first
      | (with_reducible exact ih0 _ _ _ _ _)
      | (with_reducible exact impl_PutHeader.mono _ _ _ _ _)
      | (with_reducible exact spec_PutHeader.mono _ _ _ _ _)
      | (with_reducible exact LeO.refl _)
      | (with_reducible exact LeO.none _)
      | (with_reducible refine LeO.ite ?_ ?_)
      | (with_reducible refine LeO.bind ?_ (fun _ => ?_))
      | exact ih0 _ _ _ _ _
      | exact impl_PutHeader.mono _ _ _ _ _
      | exact spec_PutHeader.mono _ _ _ _ _
      | exact LeO.none _
      | refine LeO.ite ?_ ?_
      | refine LeO.bind ?_ (fun _ => ?_)
def laws_FnPutHeader.T3 : Bool × List (List Nat × List Nat) := (true, [([], []), ([0], [0]), ([], []), ([2], [2]), ([], []), ([4], [4]), ([], []), ([6], [6]), ([], []), ([8], [8]), ([3, 5, 7, 9], [3, 5, 7, 9]), ([10, 1], [10]), ([1, 11, 11], [1, 11]), ([12, 12, 0, 1, 2, 3, 4, 5, 6, 7, 8, 9, 10, 11, 12], [12])])
def laws_FnPutHeader.B3 : List Nat := [0, 1, 0, 4, 0, 16, 0, 64, 0, 256, 1020, 2047, 4095, 8191]
theorem laws_FnPutHeader.tab3 : rtab .any (opsOf Try.f10 3) = laws_FnPutHeader.T3 := by kernel_rfl
theorem laws_FnPutHeader.bits3 : waitsOk laws_FnPutHeader.T3.2 laws_FnPutHeader.B3 = true := by kernel_rfl
set_option maxHeartbeats 8000000 in
set_option maxRecDepth 100000 in
theorem laws_FnPutHeader.calls (k : Nat) (a0_0 : Int) (a0_1 : Int) (a0_2 : Int) (a0_3 : Bool) (r : Bool) (w : World) (h : laws_FnPutHeader.f k a0_0 a0_1 a0_2 a0_3 = some r) :
    Calls Try.prog 10 #[.agg #[.int .i64 a0_0, .int .i64 a0_1, .int .i64 a0_2, .bool a0_3]] w fun e w' => e = .returned (.bool r) ∧ Below w.heap.size w w' := by
  have hu41 := Try.underlying41
  have hu44 := Try.underlying44
  have HB := Aside0.mk (Below.refl w.heap.size w)
  have H : (if a0_0 < 0 then (laws_FnPutHeader.j0 k true a0_0 a0_1 a0_2 a0_3) else (if a0_0 > 3 then (laws_FnPutHeader.j0 k true a0_0 a0_1 a0_2 a0_3) else (if a0_1 < 0 then (laws_FnPutHeader.j0 k true a0_0 a0_1 a0_2 a0_3) else (if a0_1 > 2147483647 then (laws_FnPutHeader.j0 k true a0_0 a0_1 a0_2 a0_3) else (if a0_2 < 0 then (laws_FnPutHeader.j0 k true a0_0 a0_1 a0_2 a0_3) else (laws_FnPutHeader.j0 k (decide (a0_2 > 2147483647)) a0_0 a0_1 a0_2 a0_3)))))) = some r := h
  clear h
  have HC2 := Aside0.mk H
  clear H
  go_enter Try.func10, Try.ntmps10
  go_upto_region 1 with (first | ((with_reducible refine gate_dst (N := 1) rfl ?_); refine box_event ?hg (N := 1) ?hd (cs := #[.int .i64 a0_0, .int .i64 a0_1, .int .i64 a0_2, .bool a0_3]) (t := 41) ?hr ?_; (case hd => rfl); (case hg => rfl); (case hr => first | (go_simp; done) | (go_simp; rfl)); intro gb367 hg w3 hbox hb; have n0_ := Aside0.mk (below_step (by repeat (first | (with_reducible first | exact HB.out | apply below_alloc | apply pw_below_drewN | apply below_drew1) | exact HB.out)) hb); have n1_ := Aside0.mk (hbox); have n2_ := Aside0.mk ((by rw [hg]; exact (below_size (by repeat (first | (with_reducible first | exact HB.out | apply below_alloc | apply pw_below_drewN | apply below_drew1) | exact HB.out))) : w.heap.size ≤ gb367)); have n3_ := Aside0.mk ((by rw [hg]; exact (below_size (by repeat (first | (with_reducible first | exact HB.out | apply below_alloc | apply pw_below_drewN | apply below_drew1) | exact HB.out))) : w.heap.size ≤ gb367)); clear HB; have HB := n0_; have BK367 := n1_; have GW367 := n2_; have GE367 := n3_; clear n0_ n1_ n2_ n3_; clear hb hbox hg))
  (try simp only [Act.put, List.setIfInBounds_toArray, List.set_cons_zero, List.set_cons_succ])
  go_cut [30] (fun v30 wc => ∃ (kq : Nat) (x30_1 : Bool), v30 = .bool x30_1 ∧ Aside0 (laws_FnPutHeader.j0 kq x30_1 a0_0 a0_1 a0_2 a0_3 = some r) ∧ Aside0 (kq ≤ k) ∧ Aside0 (wc.heap[gb367]? = some (.cells #[.int .i64 a0_0, .int .i64 a0_1, .int .i64 a0_2, .bool a0_3] 41 (0, 0))) ∧ Aside0 (Below w.heap.size w wc))
  case first =>
    have H := HC2.out
    clear HC2
    by_cases c4 : a0_0 < 0
    · rw [if_pos c4] at H
      have c4b0 : decide (a0_0 < 0) = true := decide_eq_true c4
      clear c4
      (first | rw [c4b0] | (simp only [i64_w, i32_w]; rw [c4b0]) | skip)
      have H' := Aside0.mk H
      clear H
      have hcz5_0 : w3.cell? ⟨gb367, 0, none⟩ = some (.int .i64 a0_0) := (blk_cell BK367.out 0).trans rfl
      have hcz5_1 : w3.cell? ⟨gb367, 1, none⟩ = some (.int .i64 a0_1) := (blk_cell BK367.out 1).trans rfl
      have hcz5_2 : w3.cell? ⟨gb367, 2, none⟩ = some (.int .i64 a0_2) := (blk_cell BK367.out 2).trans rfl
      have hcz5_3 : w3.cell? ⟨gb367, 3, none⟩ = some (.bool a0_3) := (blk_cell BK367.out 3).trans rfl
      have hfz5_0 := blk_frozen BK367.out 0
      have hfz5_1 := blk_frozen BK367.out 1
      have hfz5_2 := blk_frozen BK367.out 2
      have hfz5_3 := blk_frozen BK367.out 3
      go_wp2
      go_meet
      case rel => exact ⟨_, (true), (by first | rfl | (simp; done) | (simp [*]; done)), H', ⟨by first | omega | exact Nat.le_refl _⟩, ⟨by (with_reducible repeat (first | refine blk_drewN ?_ _ | refine blk_drew ?_ | refine blk_alloc ?_ _)); exact BK367.out⟩, ⟨by repeat (first | (with_reducible first | exact HB.out | apply below_alloc | apply pw_below_drewN | apply below_drew1 | refine below_set ?_ GE367.out) | exact HB.out)⟩⟩
    · rw [if_neg c4] at H
      have c4b0 : decide (a0_0 < 0) = false := decide_eq_false c4
      clear c4
      (first | rw [c4b0] | (simp only [i64_w, i32_w]; rw [c4b0]) | skip)
      by_cases c6 : a0_0 > 3
      · rw [if_pos c6] at H
        have c6b0 : decide (3 < a0_0) = true := decide_eq_true c6
        clear c6
        have H' := Aside0.mk H
        clear H
        have hcz7_0 : w3.cell? ⟨gb367, 0, none⟩ = some (.int .i64 a0_0) := (blk_cell BK367.out 0).trans rfl
        have hcz7_1 : w3.cell? ⟨gb367, 1, none⟩ = some (.int .i64 a0_1) := (blk_cell BK367.out 1).trans rfl
        have hcz7_2 : w3.cell? ⟨gb367, 2, none⟩ = some (.int .i64 a0_2) := (blk_cell BK367.out 2).trans rfl
        have hcz7_3 : w3.cell? ⟨gb367, 3, none⟩ = some (.bool a0_3) := (blk_cell BK367.out 3).trans rfl
        have hfz7_0 := blk_frozen BK367.out 0
        have hfz7_1 := blk_frozen BK367.out 1
        have hfz7_2 := blk_frozen BK367.out 2
        have hfz7_3 := blk_frozen BK367.out 3
        go_wp2
        go_meet
        case rel => exact ⟨_, (true), (by first | rfl | (simp; done) | (simp [*]; done)), H', ⟨by first | omega | exact Nat.le_refl _⟩, ⟨by (with_reducible repeat (first | refine blk_drewN ?_ _ | refine blk_drew ?_ | refine blk_alloc ?_ _)); exact BK367.out⟩, ⟨by repeat (first | (with_reducible first | exact HB.out | apply below_alloc | apply pw_below_drewN | apply below_drew1 | refine below_set ?_ GE367.out) | exact HB.out)⟩⟩
      · rw [if_neg c6] at H
        have c6b0 : decide (3 < a0_0) = false := decide_eq_false c6
        clear c6
        by_cases c8 : a0_1 < 0
        · rw [if_pos c8] at H
          have c8b0 : decide (a0_1 < 0) = true := decide_eq_true c8
          clear c8
          have H' := Aside0.mk H
          clear H
          have hcz9_0 : w3.cell? ⟨gb367, 0, none⟩ = some (.int .i64 a0_0) := (blk_cell BK367.out 0).trans rfl
          have hcz9_1 : w3.cell? ⟨gb367, 1, none⟩ = some (.int .i64 a0_1) := (blk_cell BK367.out 1).trans rfl
          have hcz9_2 : w3.cell? ⟨gb367, 2, none⟩ = some (.int .i64 a0_2) := (blk_cell BK367.out 2).trans rfl
          have hcz9_3 : w3.cell? ⟨gb367, 3, none⟩ = some (.bool a0_3) := (blk_cell BK367.out 3).trans rfl
          have hfz9_0 := blk_frozen BK367.out 0
          have hfz9_1 := blk_frozen BK367.out 1
          have hfz9_2 := blk_frozen BK367.out 2
          have hfz9_3 := blk_frozen BK367.out 3
          go_wp2
          go_meet
          case rel => exact ⟨_, (true), (by first | rfl | (simp; done) | (simp [*]; done)), H', ⟨by first | omega | exact Nat.le_refl _⟩, ⟨by (with_reducible repeat (first | refine blk_drewN ?_ _ | refine blk_drew ?_ | refine blk_alloc ?_ _)); exact BK367.out⟩, ⟨by repeat (first | (with_reducible first | exact HB.out | apply below_alloc | apply pw_below_drewN | apply below_drew1 | refine below_set ?_ GE367.out) | exact HB.out)⟩⟩
        · rw [if_neg c8] at H
          have c8b0 : decide (a0_1 < 0) = false := decide_eq_false c8
          clear c8
          by_cases c10 : a0_1 > 2147483647
          · rw [if_pos c10] at H
            have c10b0 : decide (2147483647 < a0_1) = true := decide_eq_true c10
            clear c10
            have H' := Aside0.mk H
            clear H
            have hcz11_0 : w3.cell? ⟨gb367, 0, none⟩ = some (.int .i64 a0_0) := (blk_cell BK367.out 0).trans rfl
            have hcz11_1 : w3.cell? ⟨gb367, 1, none⟩ = some (.int .i64 a0_1) := (blk_cell BK367.out 1).trans rfl
            have hcz11_2 : w3.cell? ⟨gb367, 2, none⟩ = some (.int .i64 a0_2) := (blk_cell BK367.out 2).trans rfl
            have hcz11_3 : w3.cell? ⟨gb367, 3, none⟩ = some (.bool a0_3) := (blk_cell BK367.out 3).trans rfl
            have hfz11_0 := blk_frozen BK367.out 0
            have hfz11_1 := blk_frozen BK367.out 1
            have hfz11_2 := blk_frozen BK367.out 2
            have hfz11_3 := blk_frozen BK367.out 3
            go_wp2
            go_meet
            case rel => exact ⟨_, (true), (by first | rfl | (simp; done) | (simp [*]; done)), H', ⟨by first | omega | exact Nat.le_refl _⟩, ⟨by (with_reducible repeat (first | refine blk_drewN ?_ _ | refine blk_drew ?_ | refine blk_alloc ?_ _)); exact BK367.out⟩, ⟨by repeat (first | (with_reducible first | exact HB.out | apply below_alloc | apply pw_below_drewN | apply below_drew1 | refine below_set ?_ GE367.out) | exact HB.out)⟩⟩
          · rw [if_neg c10] at H
            have c10b0 : decide (2147483647 < a0_1) = false := decide_eq_false c10
            clear c10
            by_cases c12 : a0_2 < 0
            · rw [if_pos c12] at H
              have c12b0 : decide (a0_2 < 0) = true := decide_eq_true c12
              clear c12
              have H' := Aside0.mk H
              clear H
              have hcz13_0 : w3.cell? ⟨gb367, 0, none⟩ = some (.int .i64 a0_0) := (blk_cell BK367.out 0).trans rfl
              have hcz13_1 : w3.cell? ⟨gb367, 1, none⟩ = some (.int .i64 a0_1) := (blk_cell BK367.out 1).trans rfl
              have hcz13_2 : w3.cell? ⟨gb367, 2, none⟩ = some (.int .i64 a0_2) := (blk_cell BK367.out 2).trans rfl
              have hcz13_3 : w3.cell? ⟨gb367, 3, none⟩ = some (.bool a0_3) := (blk_cell BK367.out 3).trans rfl
              have hfz13_0 := blk_frozen BK367.out 0
              have hfz13_1 := blk_frozen BK367.out 1
              have hfz13_2 := blk_frozen BK367.out 2
              have hfz13_3 := blk_frozen BK367.out 3
              go_wp2
              go_meet
              case rel => exact ⟨_, (true), (by first | rfl | (simp; done) | (simp [*]; done)), H', ⟨by first | omega | exact Nat.le_refl _⟩, ⟨by (with_reducible repeat (first | refine blk_drewN ?_ _ | refine blk_drew ?_ | refine blk_alloc ?_ _)); exact BK367.out⟩, ⟨by repeat (first | (with_reducible first | exact HB.out | apply below_alloc | apply pw_below_drewN | apply below_drew1 | refine below_set ?_ GE367.out) | exact HB.out)⟩⟩
            · rw [if_neg c12] at H
              have c12b0 : decide (a0_2 < 0) = false := decide_eq_false c12
              clear c12
              have H' := Aside0.mk H
              clear H
              have hcz14_0 : w3.cell? ⟨gb367, 0, none⟩ = some (.int .i64 a0_0) := (blk_cell BK367.out 0).trans rfl
              have hcz14_1 : w3.cell? ⟨gb367, 1, none⟩ = some (.int .i64 a0_1) := (blk_cell BK367.out 1).trans rfl
              have hcz14_2 : w3.cell? ⟨gb367, 2, none⟩ = some (.int .i64 a0_2) := (blk_cell BK367.out 2).trans rfl
              have hcz14_3 : w3.cell? ⟨gb367, 3, none⟩ = some (.bool a0_3) := (blk_cell BK367.out 3).trans rfl
              have hfz14_0 := blk_frozen BK367.out 0
              have hfz14_1 := blk_frozen BK367.out 1
              have hfz14_2 := blk_frozen BK367.out 2
              have hfz14_3 := blk_frozen BK367.out 3
              go_wp2
              go_meet
              case rel => exact ⟨_, (decide (a0_2 > 2147483647)), (by first | rfl | (simp; done) | (simp [*]; done)), H', ⟨by first | omega | exact Nat.le_refl _⟩, ⟨by (with_reducible repeat (first | refine blk_drewN ?_ _ | refine blk_drew ?_ | refine blk_alloc ?_ _)); exact BK367.out⟩, ⟨by repeat (first | (with_reducible first | exact HB.out | apply below_alloc | apply pw_below_drewN | apply below_drew1 | refine below_set ?_ GE367.out) | exact HB.out)⟩⟩
  case rest =>
    clear HC2
    try clear c1
    try clear p2
    try clear c4
    try clear c4b0
    try clear c6
    try clear c6b0
    try clear c8
    try clear c8b0
    try clear c10
    try clear c10b0
    try clear c12
    try clear c12b0
    try clear hcz11_0
    try clear hcz11_1
    try clear hcz11_2
    try clear hcz11_3
    try clear hcz13_0
    try clear hcz13_1
    try clear hcz13_2
    try clear hcz13_3
    try clear hcz14_0
    try clear hcz14_1
    try clear hcz14_2
    try clear hcz14_3
    try clear hcz5_0
    try clear hcz5_1
    try clear hcz5_2
    try clear hcz5_3
    try clear hcz7_0
    try clear hcz7_1
    try clear hcz7_2
    try clear hcz7_3
    try clear hcz9_0
    try clear hcz9_1
    try clear hcz9_2
    try clear hcz9_3
    try clear hfz11_0
    try clear hfz11_1
    try clear hfz11_2
    try clear hfz11_3
    try clear hfz13_0
    try clear hfz13_1
    try clear hfz13_2
    try clear hfz13_3
    try clear hfz14_0
    try clear hfz14_1
    try clear hfz14_2
    try clear hfz14_3
    try clear hfz5_0
    try clear hfz5_1
    try clear hfz5_2
    try clear hfz5_3
    try clear hfz7_0
    try clear hfz7_1
    try clear hfz7_2
    try clear hfz7_3
    try clear hfz9_0
    try clear hfz9_1
    try clear hfz9_2
    try clear hfz9_3
    obtain ⟨kq, x30_1, rfl, HA, HJ1, BK367, HB⟩ := hcut
    cases kq with
    | zero => exact absurd HA.out (by simp [laws_FnPutHeader.j0])
    | succ kj1 =>
      have H := HA.out
      clear HA
      simp only [laws_FnPutHeader.j0] at H
      by_cases c15 : x30_1 = true
      · subst c15
        have H1 : (some true) = some r := by rw [if_pos rfl] at H; exact H
        clear H
        have H := H1
        clear H1
        obtain rfl := Option.some.inj H
        go_wp2
        go_ret
        exact ⟨by first | rfl | (simp [errW_none, errW_some] <;> rfl) | (simp [*, errW_none, errW_some] <;> rfl), by repeat (first | (with_reducible first | exact HB.out | apply below_alloc | apply pw_below_drewN | apply below_drew1 | refine below_set ?_ GE367.out) | exact HB.out)⟩
      · replace c15 := Bool.eq_false_iff.mpr c15
        subst c15
        have H1 : ((impl_PutHeader.f kj1 a0_0 a0_1 a0_2 a0_3).bind fun t368 => ((spec_PutHeader.f kj1 a0_0 a0_1 a0_2 a0_3).bind fun t371 => ((bytes_Equal.f t368 t371).bind fun t374 => (some t374)))) = some r := by rw [if_neg (show ¬ (false = true) by decide)] at H; exact H
        clear H
        have H := H1
        clear H1
        replace H := Option.bind_eq_some_iff.mp H
        obtain ⟨t368, A160, H⟩ := H
        replace H : ((spec_PutHeader.f kj1 a0_0 a0_1 a0_2 a0_3).bind fun t371 => ((bytes_Equal.f t368 t371).bind fun t374 => (some t374))) = some r := H
        have A16 := Aside0.mk A160
        clear A160
        replace H := Option.bind_eq_some_iff.mp H
        obtain ⟨t371, A170, H⟩ := H
        replace H : ((bytes_Equal.f t368 t371).bind fun t374 => (some t374)) = some r := H
        have A17 := Aside0.mk A170
        clear A170
        replace H := Option.bind_eq_some_iff.mp H
        obtain ⟨t374, A180, H⟩ := H
        replace H : (some t374) = some r := H
        have A18 := Aside0.mk A180
        clear A180
        obtain rfl := Option.some.inj H
        try go_wp2
        have n0_ := Aside0.mk (blk_drew BK367.out)
        have n1_ := Aside0.mk (below_drew1 HB.out)
        clear BK367
        clear HB
        have BK367 := n0_
        have HB := n1_
        clear n0_ n1_
        refine start_ (n := 14) (S := fun w' => w'.cell? ⟨gb367, 0, none⟩ = some (.int .i64 a0_0) ∧ w'.cell? ⟨gb367, 1, none⟩ = some (.int .i64 a0_1) ∧ w'.cell? ⟨gb367, 2, none⟩ = some (.int .i64 a0_2) ∧ w'.cell? ⟨gb367, 3, none⟩ = some (.bool a0_3)) (ds := []) #[false, false, false, false, false, false, false, false, false, false, false, false, false, false] (by kernel_rfl) rfl rfl ⟨(blk_cell BK367.out 0).trans rfl, (blk_cell BK367.out 1).trans rfl, (blk_cell BK367.out 2).trans rfl, (blk_cell BK367.out 3).trans rfl⟩ (fun hHeld => ?_); refine with_tabW laws_FnPutHeader.tab3 laws_FnPutHeader.bits3 (fun HT_ HW_ => ?_)
        generalize wc.drew = w19 at BK367 HB hHeld ⊢
        refine pure_ (i := 2) (N := some 33) (v := ?_) (a' := ?_) #[false, false, true, false, false, false, false, false, false, false, false, false, false, false] rfl rfl (any_of HT_.out (by kernel_rfl)) (fun _ _ _ h => h) (Or.inl ⟨by rfl, ?_⟩) ?_ ?_
        rotate_left
        · intro w'
          go_simp
          with_reducible rfl
        rotate_left
        · simp only [Act.put, List.setIfInBounds_toArray, List.set_cons_zero, List.set_cons_succ, i64_w, i32_w]
          rfl
        refine pure_ (i := 4) (N := some 35) (v := ?_) (a' := ?_) #[false, false, true, false, true, false, false, false, false, false, false, false, false, false] rfl rfl (any_of HT_.out (by kernel_rfl)) (fun _ _ _ h => h) (Or.inl ⟨by rfl, ?_⟩) ?_ ?_
        rotate_left
        · intro w'
          go_simp
          with_reducible rfl
        rotate_left
        · simp only [Act.put, List.setIfInBounds_toArray, List.set_cons_zero, List.set_cons_succ, i64_w, i32_w]
          rfl
        refine pure_ (i := 6) (N := some 37) (v := ?_) (a' := ?_) #[false, false, true, false, true, false, true, false, false, false, false, false, false, false] rfl rfl (any_of HT_.out (by kernel_rfl)) (fun _ _ _ h => h) (Or.inl ⟨by rfl, ?_⟩) ?_ ?_
        rotate_left
        · intro w'
          go_simp
          with_reducible rfl
        rotate_left
        · simp only [Act.put, List.setIfInBounds_toArray, List.set_cons_zero, List.set_cons_succ, i64_w, i32_w]
          rfl
        refine pure_ (i := 8) (N := some 39) (v := ?_) (a' := ?_) #[false, false, true, false, true, false, true, false, true, false, false, false, false, false] rfl rfl (any_of HT_.out (by kernel_rfl)) (fun _ _ _ h => h) (Or.inl ⟨by rfl, ?_⟩) ?_ ?_
        rotate_left
        · intro w'
          go_simp
          with_reducible rfl
        rotate_left
        · simp only [Act.put, List.setIfInBounds_toArray, List.set_cons_zero, List.set_cons_succ, i64_w, i32_w]
          rfl
        refine take_ (i := 0) (N := some 31) (v := ?_) (a' := ?_) #[true, false, true, false, true, false, true, false, true, false, false, false, false, false] rfl rfl (take_ofW HT_.out HW_.out (by kernel_rfl)) (fun _ _ _ h => h) (Or.inl ⟨by rfl, ?_⟩) hHeld ?_ ?_
        rotate_left
        · rintro w' ⟨s0, s1, s2, s3⟩
          go_simp
          with_reducible rfl
        rotate_left
        · simp only [Act.put, List.setIfInBounds_toArray, List.set_cons_zero, List.set_cons_succ, i64_w, i32_w]
          rfl
        refine take_ (i := 3) (N := some 34) (v := ?_) (a' := ?_) #[true, false, true, true, true, false, true, false, true, false, false, false, false, false] rfl rfl (take_ofW HT_.out HW_.out (by kernel_rfl)) (fun _ _ _ h => h) (Or.inl ⟨by rfl, ?_⟩) hHeld ?_ ?_
        rotate_left
        · rintro w' ⟨s0, s1, s2, s3⟩
          go_simp
          with_reducible rfl
        rotate_left
        · simp only [Act.put, List.setIfInBounds_toArray, List.set_cons_zero, List.set_cons_succ, i64_w, i32_w]
          rfl
        refine take_ (i := 5) (N := some 36) (v := ?_) (a' := ?_) #[true, false, true, true, true, true, true, false, true, false, false, false, false, false] rfl rfl (take_ofW HT_.out HW_.out (by kernel_rfl)) (fun _ _ _ h => h) (Or.inl ⟨by rfl, ?_⟩) hHeld ?_ ?_
        rotate_left
        · rintro w' ⟨s0, s1, s2, s3⟩
          go_simp
          with_reducible rfl
        rotate_left
        · simp only [Act.put, List.setIfInBounds_toArray, List.set_cons_zero, List.set_cons_succ, i64_w, i32_w]
          rfl
        refine take_ (i := 7) (N := some 38) (v := ?_) (a' := ?_) #[true, false, true, true, true, true, true, true, true, false, false, false, false, false] rfl rfl (take_ofW HT_.out HW_.out (by kernel_rfl)) (fun _ _ _ h => h) (Or.inl ⟨by rfl, ?_⟩) hHeld ?_ ?_
        rotate_left
        · rintro w' ⟨s0, s1, s2, s3⟩
          go_simp
          with_reducible rfl
        rotate_left
        · simp only [Act.put, List.setIfInBounds_toArray, List.set_cons_zero, List.set_cons_succ, i64_w, i32_w]
          rfl
        refine take_ (i := 9) (N := some 40) (v := ?_) (a' := ?_) #[true, false, true, true, true, true, true, true, true, true, false, false, false, false] rfl rfl (take_ofW HT_.out HW_.out (by kernel_rfl)) (fun _ _ _ h => h) (Or.inl ⟨by rfl, ?_⟩) hHeld ?_ ?_
        rotate_left
        · rintro w' ⟨s0, s1, s2, s3⟩
          go_simp
          with_reducible rfl
        rotate_left
        · simp only [Act.put, List.setIfInBounds_toArray, List.set_cons_zero, List.set_cons_succ, i64_w, i32_w]
          rfl
        refine pure_ (i := 10) (N := some 41) (v := ?_) (a' := ?_) #[true, false, true, true, true, true, true, true, true, true, true, false, false, false] rfl rfl (any_of HT_.out (by kernel_rfl)) (fun _ _ _ h => h) (Or.inl ⟨by rfl, ?_⟩) ?_ ?_
        rotate_left
        · intro w'
          go_simp
          with_reducible rfl
        rotate_left
        · simp only [Act.put, List.setIfInBounds_toArray, List.set_cons_zero, List.set_cons_succ, i64_w, i32_w]
          rfl
        refine one_ (i := 1) (N := some 32) #[true, true, true, true, true, true, true, true, true, true, true, false, false, false] rfl rfl (one_of HT_.out (by kernel_rfl)) (by decide) (fun K hK => ?_)
        refine goes_ Try.func26 (by kernel_rfl) rfl #[.agg #[.int .i64 a0_0, .int .i64 a0_1, .int .i64 a0_2, .bool a0_3]] (by rfl) rfl rfl (by (try simp only [List.map_toArray, List.map_cons, List.map_nil]); first | done | rfl | (simp only [List.length_drop, List.length_take]; rfl)) ?_
        with_reducible refine (impl_PutHeader.calls kj1 a0_0 a0_1 a0_2 a0_3 t368 _ A16.out).mono ?_
        rintro e w20 ⟨v369, rfl, ho0, hb⟩
        refine ⟨_, rfl, ?_⟩
        have n0_ := Aside0.mk (Kd.R_lower ho0 (below_size (by repeat (first | (with_reducible first | exact HB.out | apply below_alloc | apply pw_below_drewN | apply below_drew1 | refine below_set ?_ GE367.out) | exact HB.out))))
        have n1_ := Aside0.mk (blk_below (g := gb367) (o := .cells #[.int .i64 a0_0, .int .i64 a0_1, .int .i64 a0_2, .bool a0_3] 41 (0, 0)) (by (with_reducible repeat (first | refine blk_drewN ?_ _ | refine blk_drew ?_ | refine blk_alloc ?_ _)); exact BK367.out) hb)
        have n2_ := Aside0.mk (below_step (by repeat (first | (with_reducible first | exact HB.out | apply below_alloc | apply pw_below_drewN | apply below_drew1 | refine below_set ?_ GE367.out) | exact HB.out)) hb)
        clear BK367
        clear HB
        have HO370 := n0_
        have BK367 := n1_
        have HB := n2_
        clear n0_ n1_ n2_
        (try clear hb)
        (try clear hb2)
        (try clear hk)
        (try clear hi)
        (try clear ho0)
        refine hK.out _ _ ⟨(blk_cell BK367.out 0).trans rfl, (blk_cell BK367.out 1).trans rfl, (blk_cell BK367.out 2).trans rfl, (blk_cell BK367.out 3).trans rfl⟩ (fun hHeld => ?_)
        clear hK K
        refine norm_ (a' := ?_) ?_ ?_
        rotate_left
        · show Act.put _ (some 32) _ = _
          simp only [Act.put, List.setIfInBounds_toArray, List.set_cons_zero, List.set_cons_succ, i64_w, i32_w]
          rfl
        refine one_ (i := 11) (N := some 42) #[true, true, true, true, true, true, true, true, true, true, true, true, false, false] rfl rfl (one_of HT_.out (by kernel_rfl)) (by decide) (fun K hK => ?_)
        refine goes_ Try.func27 (by kernel_rfl) rfl #[.agg #[.int .i64 a0_0, .int .i64 a0_1, .int .i64 a0_2, .bool a0_3]] (by rfl) rfl rfl (by (try simp only [List.map_toArray, List.map_cons, List.map_nil]); first | done | rfl | (simp only [List.length_drop, List.length_take]; rfl)) ?_
        with_reducible refine (spec_PutHeader.calls kj1 a0_0 a0_1 a0_2 a0_3 t371 _ A17.out).mono ?_
        rintro e w21 ⟨v372, rfl, ho0, hb⟩
        refine ⟨_, rfl, ?_⟩
        have n0_ := Aside0.mk (Kd.R_elder' (by (with_reducible repeat (first | apply Kd.R_alloc | apply Kd.R_drewN | apply Kd.R_drew)); exact HO370.out) (Kd.R_base ho0) hb)
        have n1_ := Aside0.mk (Kd.R_lower (Kd.R_new' ho0 (Kd.R_lt (by (with_reducible repeat (first | apply Kd.R_alloc | apply Kd.R_drewN | apply Kd.R_drew)); exact HO370.out))) (below_size (by repeat (first | (with_reducible first | exact HB.out | apply below_alloc | apply pw_below_drewN | apply below_drew1 | refine below_set ?_ GE367.out) | exact HB.out))))
        have n2_ := Aside0.mk (blk_below (g := gb367) (o := .cells #[.int .i64 a0_0, .int .i64 a0_1, .int .i64 a0_2, .bool a0_3] 41 (0, 0)) (by (with_reducible repeat (first | refine blk_drewN ?_ _ | refine blk_drew ?_ | refine blk_alloc ?_ _)); exact BK367.out) hb)
        have n3_ := Aside0.mk (below_step (by repeat (first | (with_reducible first | exact HB.out | apply below_alloc | apply pw_below_drewN | apply below_drew1 | refine below_set ?_ GE367.out) | exact HB.out)) hb)
        clear HO370
        clear BK367
        clear HB
        have HO370 := n0_
        have HO373 := n1_
        have BK367 := n2_
        have HB := n3_
        clear n0_ n1_ n2_ n3_
        (try clear hb)
        (try clear hb2)
        (try clear hk)
        (try clear hi)
        (try clear ho0)
        obtain ⟨Ao22, co22, eo22⟩ := Kd.R_slice HO370.out
        (first | subst eo22 | (injection eo22 with f1_ f2_ f3_; have f4_ := f1_.symm; have f5_ := f3_.symm; clear f1_ f2_ f3_; subst f4_; subst f5_))
        obtain ⟨Ao23, co23, eo23⟩ := Kd.R_slice HO373.out
        (first | subst eo23 | (injection eo23 with f1_ f2_ f3_; have f4_ := f1_.symm; have f5_ := f3_.symm; clear f1_ f2_ f3_; subst f4_; subst f5_))
        refine hK.out _ _ ⟨(blk_cell BK367.out 0).trans rfl, (blk_cell BK367.out 1).trans rfl, (blk_cell BK367.out 2).trans rfl, (blk_cell BK367.out 3).trans rfl⟩ (fun hHeld => ?_)
        clear hK K
        refine norm_ (a' := ?_) ?_ ?_
        rotate_left
        · show Act.put _ (some 42) _ = _
          simp only [Act.put, List.setIfInBounds_toArray, List.set_cons_zero, List.set_cons_succ, i64_w, i32_w]
          rfl
        refine one_ (i := 12) (N := some 43) #[true, true, true, true, true, true, true, true, true, true, true, true, true, false] rfl rfl (one_of HT_.out (by kernel_rfl)) (by decide) (fun K hK => ?_)
        refine goes_ Try.func18 (by kernel_rfl) rfl #[.slice Ao22 t368.length co22, .slice Ao23 t371.length co23] (by rfl) rfl rfl (by (try simp only [List.map_toArray, List.map_cons, List.map_nil]); first | done | rfl | (simp only [List.length_drop, List.length_take]; rfl)) ?_
        with_reducible refine (bytes_Equal.calls _ _ t368 _ _ t371 t374 _ ?side1 ?side2 ?side3 ?side4 A18.out).mono ?_
        (case side1 => repeat (first | exact (Kd.R_reads' HO370.out).2.2 | (with_reducible refine Kd.C_alloc ?_ _) | (with_reducible refine Kd.C_drewN ?_ _) | (with_reducible refine Kd.C_drew ?_)))
        (case side2 => exact (Kd.R_reads' HO370.out).2.1)
        (case side3 => repeat (first | exact (Kd.R_reads' HO373.out).2.2 | (with_reducible refine Kd.C_alloc ?_ _) | (with_reducible refine Kd.C_drewN ?_ _) | (with_reducible refine Kd.C_drew ?_)))
        (case side4 => exact (Kd.R_reads' HO373.out).2.1)
        rintro e w' ⟨rfl, ⟨nd, rfl⟩⟩
        refine ⟨_, rfl, ?_⟩
        refine hK.out _ _ ⟨(blk_cell BK367.out 0).trans rfl, (blk_cell BK367.out 1).trans rfl, (blk_cell BK367.out 2).trans rfl, (blk_cell BK367.out 3).trans rfl⟩ (fun hHeld => ?_)
        clear hK K
        refine norm_ (a' := ?_) ?_ ?_
        rotate_left
        · show Act.put _ (some 43) _ = _
          simp only [Act.put, List.setIfInBounds_toArray, List.set_cons_zero, List.set_cons_succ, i64_w, i32_w]
          rfl
        refine pure_ (i := 13) (N := some 2) (v := ?_) (a' := ?_) #[true, true, true, true, true, true, true, true, true, true, true, true, true, true] rfl rfl (any_of HT_.out (by kernel_rfl)) (fun _ _ _ h => h) (Or.inl ⟨by rfl, ?_⟩) ?_ ?_
        rotate_left
        · intro w'
          go_simp
          with_reducible rfl
        rotate_left
        · simp only [Act.put, List.setIfInBounds_toArray, List.set_cons_zero, List.set_cons_succ, i64_w, i32_w]
          rfl
        refine done_ (done_of HT_.out (by kernel_rfl)) ?_
        try go_wp2
        go_ret
        exact ⟨by first | rfl | (simp [errW_none, errW_some] <;> rfl) | (simp [*, errW_none, errW_some] <;> rfl), by repeat (first | (with_reducible first | exact HB.out | apply below_alloc | apply pw_below_drewN | apply below_drew1 | refine below_set ?_ GE367.out) | exact HB.out)⟩

/-! ### spec_Identifier: function 28 -/
def spec_Identifier.l0 : Nat → List Int → List Int → Int → Option (List Int × Bool)
  | 0, _, _, _ => none
  | k + 1, x0, x4, x5 => if x5 < (x0.length : Int) then ((spec_Base128.f k x0 x5).bind fun bt378 => (if bt378.2.2 = true then (if (x4.length : Int) > 0 then (if x4.length < 17592186044416 then (spec_Identifier.l0 k x0 (x4 ++ [bt378.1]) bt378.2.1) else (none)) else (if bt378.1 < 80 then ((some (([wrap64 (Int.tdiv bt378.1 40), Int.tmod bt378.1 40] : List Int) : List Int)).bind fun y384 => (if x4.length + y384.length < 17592186044416 then (spec_Identifier.l0 k x0 (x4 ++ y384) bt378.2.1) else (none))) else ((some (([2, wrap64 (bt378.1 - 80)] : List Int) : List Int)).bind fun y390 => (if x4.length + y390.length < 17592186044416 then (spec_Identifier.l0 k x0 (x4 ++ y390) bt378.2.1) else (none))))) else (some (([] : List Int), false)))) else (some (x4, decide ((x4.length : Int) > 0)))
def spec_Identifier.f (k : Nat) (l0 : List Int) : Option (List Int × Bool) := spec_Identifier.l0 k l0 (([] : List Int)) 0
theorem spec_Identifier.mono_l : ∀ k, (∀ y0 y1 y2, LeO (spec_Identifier.l0 k y0 y1 y2) (spec_Identifier.l0 (k + 1) y0 y1 y2))
  | 0 => fun _ _ _ r h => by simp [spec_Identifier.l0] at h
  | k + 1 => by
    have ih0 := spec_Identifier.mono_l k
    · intro y0 y1 y2
      unfold spec_Identifier.l0
      repeat' first
      | (with_reducible exact ih0 _ _ _)
      | (with_reducible exact spec_Base128.mono _ _ _)
      | (with_reducible exact LeO.refl _)
      | (with_reducible exact LeO.none _)
      | (with_reducible refine LeO.ite ?_ ?_)
      | (with_reducible refine LeO.bind ?_ (fun _ => ?_))
      | exact ih0 _ _ _
      | exact spec_Base128.mono _ _ _
      | exact LeO.none _
      | refine LeO.ite ?_ ?_
      | refine LeO.bind ?_ (fun _ => ?_)
theorem spec_Identifier.mono : ∀ a0 k, LeO (spec_Identifier.f k a0) (spec_Identifier.f (k + 1) a0) := by
  intro a0 k
  have ih0 := spec_Identifier.mono_l k
  unfold spec_Identifier.f
  repeat' first
      | (with_reducible exact ih0 _ _ _)
      | (with_reducible exact spec_Base128.mono _ _ _)
      | (with_reducible exact LeO.refl _)
      | (with_reducible exact LeO.none _)
      | (with_reducible refine LeO.ite ?_ ?_)
      | (with_reducible refine LeO.bind ?_ (fun _ => ?_))
      | exact ih0 _ _ _
      | exact spec_Base128.mono _ _ _
      | exact LeO.none _
      | refine LeO.ite ?_ ?_
      | refine LeO.bind ?_ (fun _ => ?_)
set_option maxHeartbeats 8000000 in
set_option maxRecDepth 100000 in
theorem spec_Identifier.calls (k : Nat) (A0 : Option Addr) (c0 : Nat) (l0 : List Int) (r1 : List Int) (r2 : Bool) (w : World) (hr0 : Kd.C (Kd.int .u8) w A0 l0.length l0) (hc0 : l0.length ≤ c0) (h : spec_Identifier.f k l0 = some (r1, r2)) :
    Calls Try.prog 28 #[.slice A0 l0.length c0] w fun e w' => ∃ v0_ : Value, e = .returned (.tuple #[v0_, .bool r2]) ∧ Kd.R (Kd.int .i64) 3 w' w.heap.size (fun _ => True) v0_ r1 ∧ Below w.heap.size w w' := by
  have HR0 := Aside0.mk hr0
  have HC0 := Aside0.mk hc0
  clear hr0 hc0
  have HB := Aside0.mk (Below.refl w.heap.size w)
  have H : (spec_Identifier.l0 k l0 (([] : List Int)) 0) = some (r1, r2) := h
  clear h
  obtain ⟨y375, hy375⟩ : ∃ y_ : List Int, y_ = (([] : List Int)) := ⟨_, rfl⟩
  replace H : (spec_Identifier.l0 k l0 y375 0) = some (r1, r2) := by first | (rw [hy375]; with_reducible exact H) | (have H2_ := (Option.bind_some _ _).symm.trans H; rw [hy375]; with_reducible exact H2_) | (have H2_ := (Option.bind_some _ _).symm.trans H; with_reducible exact H2_) | with_reducible exact H | (rw [hy375]; exact H) | exact H
  have Ny375 := Aside0.mk hy375
  clear hy375
  have H' := Aside0.mk H
  clear H
  go_enter Try.func28, Try.ntmps28
  go_wp2_with (first | ((with_reducible refine gate_dst (N := 9) rfl ?_); refine Kd.R_lit (Kd.int .i64) _ 3 ?hg (N := 9) ?hd (xs := ([] : List Int)) (inner := []) (ok := fun _ => True) (okp := fun _ => True) ?hr ?hp (fun _ hk => hk) trivial (Below.refl _ _) (Nat.le_refl _) (by simp) ?_; (case hd => rfl); (case hg => rfl); (case hr => first | (go_simp; done) | (go_simp; rfl)); (case hp => exact (Reps.none _ _)); intro v376 w2 ho3 hb hg_ hnew_; clear hg_ hnew_; (first | rw [← Ny375.out] at ho3 | (simp only [Int.reduceToNat] at ho3; rw [← Ny375.out] at ho3)); have n0_ := Aside0.mk (Kd.R_lower ho3 (below_size (by repeat (first | (with_reducible first | exact HB.out | apply below_alloc | apply pw_below_drewN | apply below_drew1) | exact HB.out)))); have n1_ := Aside0.mk (below_step (by repeat (first | (with_reducible first | exact HB.out | apply below_alloc | apply pw_below_drewN | apply below_drew1) | exact HB.out)) hb); clear HB; have HO377 := n0_; have HB := n1_; clear n0_ n1_; clear hb ho3))
  go_loopg [4, 5] k (fun kq v4 v5 w' => ∃ (x4_1 : List Int) (x5_1 : Int), v5 = .int .i64 x5_1 ∧ Aside0 (spec_Identifier.l0 kq l0 x4_1 x5_1 = some (r1, r2)) ∧ Aside0 (kq ≤ k) ∧ Aside0 (Kd.R (Kd.int .i64) 3 w' w.heap.size (fun _ => True) v4 x4_1) ∧ Aside0 (Below w.heap.size w w'))
  case atStart => exact ⟨(y375), (0), (by first | rfl | (simp; done) | (simp [*]; done)), H', ⟨Nat.le_refl _⟩, ⟨by (with_reducible repeat (first | apply Kd.R_alloc | apply Kd.R_drewN | apply Kd.R_drew)); exact HO377.out⟩, ⟨by repeat (first | (with_reducible first | exact HB.out | apply below_alloc | apply pw_below_drewN | apply below_drew1) | exact HB.out)⟩⟩
  case round =>
    clear H'
    try clear c2
    try clear p2
    obtain ⟨x4_1, x5_1, rfl, HA, HK1, HO_4, HB⟩ := hrel
    cases gk with
    | zero => exact absurd HA.out (by simp [spec_Identifier.l0])
    | succ k1 =>
      have H := HA.out
      clear HA
      simp only [spec_Identifier.l0] at H
      by_cases c4 : x5_1 < (l0.length : Int)
      · rw [if_pos c4] at H
        have c4b0 : decide (x5_1 < (l0.length : Int)) = true := decide_eq_true c4
        clear c4
        replace H := Option.bind_eq_some_iff.mp H
        obtain ⟨⟨t378, t379, t380⟩, A50, H⟩ := H
        replace H : (if t380 = true then (if (x4_1.length : Int) > 0 then (if x4_1.length < 17592186044416 then (spec_Identifier.l0 k1 l0 (x4_1 ++ [t378]) t379) else (none)) else (if t378 < 80 then ((some (([wrap64 (Int.tdiv t378 40), Int.tmod t378 40] : List Int) : List Int)).bind fun y384 => (if x4_1.length + y384.length < 17592186044416 then (spec_Identifier.l0 k1 l0 (x4_1 ++ y384) t379) else (none))) else ((some (([2, wrap64 (t378 - 80)] : List Int) : List Int)).bind fun y390 => (if x4_1.length + y390.length < 17592186044416 then (spec_Identifier.l0 k1 l0 (x4_1 ++ y390) t379) else (none))))) else (some (([] : List Int), false))) = some (r1, r2) := H
        have A5 := Aside0.mk A50
        clear A50
        by_cases c6 : t380 = true
        · subst c6
          have H1 : (if (x4_1.length : Int) > 0 then (if x4_1.length < 17592186044416 then (spec_Identifier.l0 k1 l0 (x4_1 ++ [t378]) t379) else (none)) else (if t378 < 80 then ((some (([wrap64 (Int.tdiv t378 40), Int.tmod t378 40] : List Int) : List Int)).bind fun y384 => (if x4_1.length + y384.length < 17592186044416 then (spec_Identifier.l0 k1 l0 (x4_1 ++ y384) t379) else (none))) else ((some (([2, wrap64 (t378 - 80)] : List Int) : List Int)).bind fun y390 => (if x4_1.length + y390.length < 17592186044416 then (spec_Identifier.l0 k1 l0 (x4_1 ++ y390) t379) else (none))))) = some (r1, r2) := by rw [if_pos rfl] at H; exact H
          clear H
          have H := H1
          clear H1
          by_cases c7 : (x4_1.length : Int) > 0
          · rw [if_pos c7] at H
            have c7b0 : decide (0 < (x4_1.length : Int)) = true := decide_eq_true c7
            have c7b1 : decide (0 < x4_1.length) = true := decide_eq_true (by omega)
            clear c7
            by_cases c8 : x4_1.length < 17592186044416
            · rw [if_pos c8] at H
              have LMc8 := Aside0.mk c8
              clear c8
              obtain ⟨y381, hy381⟩ : ∃ y_ : List Int, y_ = (x4_1 ++ [t378]) := ⟨_, rfl⟩
              replace H : (spec_Identifier.l0 k1 l0 y381 t379) = some (r1, r2) := by first | (rw [hy381]; with_reducible exact H) | (have H2_ := (Option.bind_some _ _).symm.trans H; rw [hy381]; with_reducible exact H2_) | (have H2_ := (Option.bind_some _ _).symm.trans H; with_reducible exact H2_) | with_reducible exact H | (rw [hy381]; exact H) | exact H
              have Ny381 := Aside0.mk hy381
              clear hy381
              have H' := Aside0.mk H
              clear H
              go_wp2_with (first | ((with_reducible refine gate_callee (f := 21) rfl ?_); refine goesL_ (some 17) rfl rfl Try.func21 (by kernel_rfl) rfl #[.slice A0 l0.length c0, .int .i64 x5_1] rfl (by (try simp only [List.map_toArray, List.map_cons, List.map_nil]); first | done | rfl | (simp only [List.length_drop, List.length_take]; rfl)) ?_; (with_reducible refine (spec_Base128.calls k1 _ _ l0 x5_1 t378 t379 true _ ?side1 ?side2 A5.out).mono ?_); (case side1 => repeat (first | exact (Kd.C_below HR0.out HB.out) | (with_reducible refine Kd.C_alloc ?_ _) | (with_reducible refine Kd.C_drewN ?_ _) | (with_reducible refine Kd.C_drew ?_))); (case side2 => exact HC0.out); rintro e w' ⟨rfl, ⟨nd, rfl⟩⟩; refine ⟨_, rfl, ?_⟩; obtain ⟨Ao9, co9, eo9⟩ := Kd.R_slice HO_4.out; subst eo9) | ((with_reducible refine gate_builtin (b := .append) (xs := #[.tmp 33, .tmp 35]) rfl ?_); at_builtin; refine Kd.R_append (Kd.int .i64) (w0 := w) w.heap.size rfl (.tmp 33) (.tmp 35) 46 3 (.int .i64 0) 8 rfl Try.underlying46 info3 rfl (by decide) (by omega) (.slice Ao9 x4_1.length co9) x4_1 t378 [.int .i64 t378] (fun _ => True) (fun _ => False) rfl rfl ?aP (fun _ hk => hk.elim) ?aF ?aO ?aB ?aS ?aL ?_; (case aP => exact rfl); (case aB => exact (by repeat (first | (with_reducible first | exact HB.out | apply below_alloc | apply pw_below_drewN | apply below_drew1) | exact HB.out))); (case aF => exact (fun _ _ => trivial)); (case aO => exact (by (with_reducible repeat (first | apply Kd.R_alloc | apply Kd.R_drewN | apply Kd.R_drew)); exact HO_4.out)); (case aS => exact (below_size (by repeat (first | (with_reducible first | exact HB.out | apply below_alloc | apply pw_below_drewN | apply below_drew1) | exact HB.out)))); (case aL => have := LMc8.out; omega); intro v382 w10 ho hb hg hat; rw [← Ny381.out] at ho; have n0_ := Aside0.mk (hb); have n1_ := Aside0.mk (ho); clear HB; clear HO_4; have HB := n0_; have HO383 := n1_; clear n0_ n1_; clear ho hb hg hat))
              go_roundg k1
              case measure => have := HK1.out; omega
              case rel => exact ⟨(y381), (t379), (by first | rfl | (simp; done) | (simp [*]; done)), H', ⟨by have := HK1.out; omega⟩, ⟨by (with_reducible repeat (first | apply Kd.R_alloc | apply Kd.R_drewN | apply Kd.R_drew)); exact HO383.out⟩, ⟨by repeat (first | (with_reducible first | exact HB.out | apply below_alloc | apply pw_below_drewN | apply below_drew1) | exact HB.out)⟩⟩
            · rw [if_neg c8] at H
              exact absurd H (by simp)
          · rw [if_neg c7] at H
            have c7b0 : decide (0 < (x4_1.length : Int)) = false := decide_eq_false c7
            have c7b1 : decide (0 < x4_1.length) = false := decide_eq_false (by omega)
            clear c7
            by_cases c11 : t378 < 80
            · rw [if_pos c11] at H
              have c11b0 : decide (t378 < 80) = true := decide_eq_true c11
              clear c11
              obtain ⟨y384, hy384⟩ : ∃ y_ : List Int, y_ = (([wrap64 (Int.tdiv t378 40), Int.tmod t378 40] : List Int)) := ⟨_, rfl⟩
              replace H : (if x4_1.length + y384.length < 17592186044416 then (spec_Identifier.l0 k1 l0 (x4_1 ++ y384) t379) else (none)) = some (r1, r2) := by first | (rw [hy384]; with_reducible exact H) | (have H2_ := (Option.bind_some _ _).symm.trans H; rw [hy384]; with_reducible exact H2_) | (have H2_ := (Option.bind_some _ _).symm.trans H; with_reducible exact H2_) | with_reducible exact H | (rw [hy384]; exact H) | exact H
              have Ny384 := Aside0.mk hy384
              clear hy384
              by_cases c12 : x4_1.length + y384.length < 17592186044416
              · rw [if_pos c12] at H
                have LMc12 := Aside0.mk c12
                clear c12
                obtain ⟨y387, hy387⟩ : ∃ y_ : List Int, y_ = (x4_1 ++ y384) := ⟨_, rfl⟩
                replace H : (spec_Identifier.l0 k1 l0 y387 t379) = some (r1, r2) := by first | (rw [hy387]; with_reducible exact H) | (have H2_ := (Option.bind_some _ _).symm.trans H; rw [hy387]; with_reducible exact H2_) | (have H2_ := (Option.bind_some _ _).symm.trans H; with_reducible exact H2_) | with_reducible exact H | (rw [hy387]; exact H) | exact H
                have Ny387 := Aside0.mk hy387
                clear hy387
                have H' := Aside0.mk H
                clear H
                go_wp2_with (first | ((with_reducible refine gate_callee (f := 21) rfl ?_); refine goesL_ (some 17) rfl rfl Try.func21 (by kernel_rfl) rfl #[.slice A0 l0.length c0, .int .i64 x5_1] rfl (by (try simp only [List.map_toArray, List.map_cons, List.map_nil]); first | done | rfl | (simp only [List.length_drop, List.length_take]; rfl)) ?_; (with_reducible refine (spec_Base128.calls k1 _ _ l0 x5_1 t378 t379 true _ ?side1 ?side2 A5.out).mono ?_); (case side1 => repeat (first | exact (Kd.C_below HR0.out HB.out) | (with_reducible refine Kd.C_alloc ?_ _) | (with_reducible refine Kd.C_drewN ?_ _) | (with_reducible refine Kd.C_drew ?_))); (case side2 => exact HC0.out); rintro e w' ⟨rfl, ⟨nd, rfl⟩⟩; refine ⟨_, rfl, ?_⟩; obtain ⟨Ao13, co13, eo13⟩ := Kd.R_slice HO_4.out; subst eo13) | ((with_reducible refine gate_dst (N := 45) rfl ?_); refine Kd.R_lit (Kd.int .i64) _ 3 ?hg (N := 45) ?hd (xs := ([wrap64 (Int.tdiv t378 40), Int.tmod t378 40] : List Int)) (inner := [.int .i64 (wrap64 (Int.tdiv t378 40)), .int .i64 (Int.tmod t378 40)]) (ok := fun _ => True) (okp := fun _ => True) ?hr ?hp (fun _ hk => hk) trivial (Below.refl _ _) (Nat.le_refl _) (by simp) ?_; (case hd => rfl); (case hg => rfl); (case hr => first | (go_simp; done) | (go_simp; rfl)); (case hp => exact (Reps.one (show Kd.M (Kd.int .i64) _ _ _ (wrap64 (Int.tdiv t378 40)) [.int .i64 (wrap64 (Int.tdiv t378 40))] from rfl) (Reps.one (show Kd.M (Kd.int .i64) _ _ _ (Int.tmod t378 40) [.int .i64 (Int.tmod t378 40)] from rfl) (Reps.none _ _)))); intro v385 w14 ho15 hb hg_ hnew_; clear hg_ hnew_; (first | rw [← Ny384.out] at ho15 | (simp only [Int.reduceToNat] at ho15; rw [← Ny384.out] at ho15)); have n0_ := Aside0.mk (Kd.R_elder' (by (with_reducible repeat (first | apply Kd.R_alloc | apply Kd.R_drewN | apply Kd.R_drew)); exact HO_4.out) (Kd.R_base ho15) hb); have n1_ := Aside0.mk (Kd.R_lower (Kd.R_new' ho15 (Kd.R_lt (by (with_reducible repeat (first | apply Kd.R_alloc | apply Kd.R_drewN | apply Kd.R_drew)); exact HO_4.out))) (below_size (by repeat (first | (with_reducible first | exact HB.out | apply below_alloc | apply pw_below_drewN | apply below_drew1) | exact HB.out)))); have n2_ := Aside0.mk (below_step (by repeat (first | (with_reducible first | exact HB.out | apply below_alloc | apply pw_below_drewN | apply below_drew1) | exact HB.out)) hb); clear HO_4; clear HB; have HO_4 := n0_; have HO386 := n1_; have HB := n2_; clear n0_ n1_ n2_; clear hb ho15; obtain ⟨Ao17, co17, eo17⟩ := Kd.R_slice HO386.out; subst eo17) | ((with_reducible refine gate_builtin (b := .append) (xs := #[.tmp 40, .tmp 45]) rfl ?_); at_builtin; refine Kd.R_append_rows (Kd.int .i64) (w0 := w) w.heap.size rfl (.tmp 40) (.tmp 45) 46 3 (.int .i64 0) 8 rfl Try.underlying46 info3 rfl (by decide) (by omega) (.slice Ao13 x4_1.length co13) x4_1 y384 _ _ _ (fun k_ => some k_ ≠ (.slice Ao17 y384.length co17 : Value).ownBlock) (fun _ => False) rfl rfl ?aO ?aR (fun _ _ h => h) (fun _ h => h.elim) ?aF ?aB ?aS ?aL ?_; (case aR => repeat (first | exact (Kd.R_reads' HO386.out).2.2 | (with_reducible refine Kd.C_alloc ?_ _) | (with_reducible refine Kd.C_drewN ?_ _) | (with_reducible refine Kd.C_drew ?_))); (case aB => exact (by repeat (first | (with_reducible first | exact HB.out | apply below_alloc | apply pw_below_drewN | apply below_drew1) | exact HB.out))); (case aF => exact (fun k_ hk => Kd.fresh' (Kd.R_lt (by (with_reducible repeat (first | apply Kd.R_alloc | apply Kd.R_drewN | apply Kd.R_drew)); exact HO386.out)) k_ hk)); (case aO => exact (by (with_reducible repeat (first | apply Kd.R_alloc | apply Kd.R_drewN | apply Kd.R_drew)); exact Kd.R_mono HO_4.out (fun _ hk => hk.2))); (case aS => exact (below_size (by repeat (first | (with_reducible first | exact HB.out | apply below_alloc | apply pw_below_drewN | apply below_drew1) | exact HB.out)))); (case aL => have := LMc12.out; omega); intro v388 w16 ho hb hg hat; rw [← Ny387.out] at ho; have n0_ := Aside0.mk (Kd.R_after (ok := (fun _ => True)) (by (with_reducible repeat (first | apply Kd.R_alloc | apply Kd.R_drewN | apply Kd.R_drew)); exact HO386.out) hg hat); have n1_ := Aside0.mk (hb); have n2_ := Aside0.mk (ho); clear HO386; clear HB; clear HO_4; have HO386 := n0_; have HB := n1_; have HO389 := n2_; clear n0_ n1_ n2_; clear ho hb hg hat))
                go_roundg k1
                case measure => have := HK1.out; omega
                case rel => exact ⟨(y387), (t379), (by first | rfl | (simp; done) | (simp [*]; done)), H', ⟨by have := HK1.out; omega⟩, ⟨by (with_reducible repeat (first | apply Kd.R_alloc | apply Kd.R_drewN | apply Kd.R_drew)); exact Kd.R_mono HO389.out (fun _ hk => trivial)⟩, ⟨by repeat (first | (with_reducible first | exact HB.out | apply below_alloc | apply pw_below_drewN | apply below_drew1) | exact HB.out)⟩⟩
              · rw [if_neg c12] at H
                exact absurd H (by simp)
            · rw [if_neg c11] at H
              have c11b0 : decide (t378 < 80) = false := decide_eq_false c11
              clear c11
              obtain ⟨y390, hy390⟩ : ∃ y_ : List Int, y_ = (([2, wrap64 (t378 - 80)] : List Int)) := ⟨_, rfl⟩
              replace H : (if x4_1.length + y390.length < 17592186044416 then (spec_Identifier.l0 k1 l0 (x4_1 ++ y390) t379) else (none)) = some (r1, r2) := by first | (rw [hy390]; with_reducible exact H) | (have H2_ := (Option.bind_some _ _).symm.trans H; rw [hy390]; with_reducible exact H2_) | (have H2_ := (Option.bind_some _ _).symm.trans H; with_reducible exact H2_) | with_reducible exact H | (rw [hy390]; exact H) | exact H
              have Ny390 := Aside0.mk hy390
              clear hy390
              by_cases c18 : x4_1.length + y390.length < 17592186044416
              · rw [if_pos c18] at H
                have LMc18 := Aside0.mk c18
                clear c18
                obtain ⟨y393, hy393⟩ : ∃ y_ : List Int, y_ = (x4_1 ++ y390) := ⟨_, rfl⟩
                replace H : (spec_Identifier.l0 k1 l0 y393 t379) = some (r1, r2) := by first | (rw [hy393]; with_reducible exact H) | (have H2_ := (Option.bind_some _ _).symm.trans H; rw [hy393]; with_reducible exact H2_) | (have H2_ := (Option.bind_some _ _).symm.trans H; with_reducible exact H2_) | with_reducible exact H | (rw [hy393]; exact H) | exact H
                have Ny393 := Aside0.mk hy393
                clear hy393
                have H' := Aside0.mk H
                clear H
                go_wp2_with (first | ((with_reducible refine gate_callee (f := 21) rfl ?_); refine goesL_ (some 17) rfl rfl Try.func21 (by kernel_rfl) rfl #[.slice A0 l0.length c0, .int .i64 x5_1] rfl (by (try simp only [List.map_toArray, List.map_cons, List.map_nil]); first | done | rfl | (simp only [List.length_drop, List.length_take]; rfl)) ?_; (with_reducible refine (spec_Base128.calls k1 _ _ l0 x5_1 t378 t379 true _ ?side1 ?side2 A5.out).mono ?_); (case side1 => repeat (first | exact (Kd.C_below HR0.out HB.out) | (with_reducible refine Kd.C_alloc ?_ _) | (with_reducible refine Kd.C_drewN ?_ _) | (with_reducible refine Kd.C_drew ?_))); (case side2 => exact HC0.out); rintro e w' ⟨rfl, ⟨nd, rfl⟩⟩; refine ⟨_, rfl, ?_⟩; obtain ⟨Ao19, co19, eo19⟩ := Kd.R_slice HO_4.out; subst eo19) | ((with_reducible refine gate_dst (N := 27) rfl ?_); refine Kd.R_lit (Kd.int .i64) _ 3 ?hg (N := 27) ?hd (xs := ([2, wrap64 (t378 - 80)] : List Int)) (inner := [.int .i64 2, .int .i64 (wrap64 (t378 - 80))]) (ok := fun _ => True) (okp := fun _ => True) ?hr ?hp (fun _ hk => hk) trivial (Below.refl _ _) (Nat.le_refl _) (by simp) ?_; (case hd => rfl); (case hg => rfl); (case hr => first | (go_simp; done) | (go_simp; rfl)); (case hp => exact (Reps.one (show Kd.M (Kd.int .i64) _ _ _ 2 [.int .i64 2] from rfl) (Reps.one (show Kd.M (Kd.int .i64) _ _ _ (wrap64 (t378 - 80)) [.int .i64 (wrap64 (t378 - 80))] from rfl) (Reps.none _ _)))); intro v391 w20 ho21 hb hg_ hnew_; clear hg_ hnew_; (first | rw [← Ny390.out] at ho21 | (simp only [Int.reduceToNat] at ho21; rw [← Ny390.out] at ho21)); have n0_ := Aside0.mk (Kd.R_elder' (by (with_reducible repeat (first | apply Kd.R_alloc | apply Kd.R_drewN | apply Kd.R_drew)); exact HO_4.out) (Kd.R_base ho21) hb); have n1_ := Aside0.mk (Kd.R_lower (Kd.R_new' ho21 (Kd.R_lt (by (with_reducible repeat (first | apply Kd.R_alloc | apply Kd.R_drewN | apply Kd.R_drew)); exact HO_4.out))) (below_size (by repeat (first | (with_reducible first | exact HB.out | apply below_alloc | apply pw_below_drewN | apply below_drew1) | exact HB.out)))); have n2_ := Aside0.mk (below_step (by repeat (first | (with_reducible first | exact HB.out | apply below_alloc | apply pw_below_drewN | apply below_drew1) | exact HB.out)) hb); clear HO_4; clear HB; have HO_4 := n0_; have HO392 := n1_; have HB := n2_; clear n0_ n1_ n2_; clear hb ho21; obtain ⟨Ao23, co23, eo23⟩ := Kd.R_slice HO392.out; subst eo23) | ((with_reducible refine gate_builtin (b := .append) (xs := #[.tmp 24, .tmp 27]) rfl ?_); at_builtin; refine Kd.R_append_rows (Kd.int .i64) (w0 := w) w.heap.size rfl (.tmp 24) (.tmp 27) 46 3 (.int .i64 0) 8 rfl Try.underlying46 info3 rfl (by decide) (by omega) (.slice Ao19 x4_1.length co19) x4_1 y390 _ _ _ (fun k_ => some k_ ≠ (.slice Ao23 y390.length co23 : Value).ownBlock) (fun _ => False) rfl rfl ?aO ?aR (fun _ _ h => h) (fun _ h => h.elim) ?aF ?aB ?aS ?aL ?_; (case aR => repeat (first | exact (Kd.R_reads' HO392.out).2.2 | (with_reducible refine Kd.C_alloc ?_ _) | (with_reducible refine Kd.C_drewN ?_ _) | (with_reducible refine Kd.C_drew ?_))); (case aB => exact (by repeat (first | (with_reducible first | exact HB.out | apply below_alloc | apply pw_below_drewN | apply below_drew1) | exact HB.out))); (case aF => exact (fun k_ hk => Kd.fresh' (Kd.R_lt (by (with_reducible repeat (first | apply Kd.R_alloc | apply Kd.R_drewN | apply Kd.R_drew)); exact HO392.out)) k_ hk)); (case aO => exact (by (with_reducible repeat (first | apply Kd.R_alloc | apply Kd.R_drewN | apply Kd.R_drew)); exact Kd.R_mono HO_4.out (fun _ hk => hk.2))); (case aS => exact (below_size (by repeat (first | (with_reducible first | exact HB.out | apply below_alloc | apply pw_below_drewN | apply below_drew1) | exact HB.out)))); (case aL => have := LMc18.out; omega); intro v394 w22 ho hb hg hat; rw [← Ny393.out] at ho; have n0_ := Aside0.mk (Kd.R_after (ok := (fun _ => True)) (by (with_reducible repeat (first | apply Kd.R_alloc | apply Kd.R_drewN | apply Kd.R_drew)); exact HO392.out) hg hat); have n1_ := Aside0.mk (hb); have n2_ := Aside0.mk (ho); clear HO392; clear HB; clear HO_4; have HO392 := n0_; have HB := n1_; have HO395 := n2_; clear n0_ n1_ n2_; clear ho hb hg hat))
                go_roundg k1
                case measure => have := HK1.out; omega
                case rel => exact ⟨(y393), (t379), (by first | rfl | (simp; done) | (simp [*]; done)), H', ⟨by have := HK1.out; omega⟩, ⟨by (with_reducible repeat (first | apply Kd.R_alloc | apply Kd.R_drewN | apply Kd.R_drew)); exact Kd.R_mono HO395.out (fun _ hk => trivial)⟩, ⟨by repeat (first | (with_reducible first | exact HB.out | apply below_alloc | apply pw_below_drewN | apply below_drew1) | exact HB.out)⟩⟩
              · rw [if_neg c18] at H
                exact absurd H (by simp)
        · replace c6 := Bool.eq_false_iff.mpr c6
          subst c6
          have H1 : (some (([] : List Int), false)) = some (r1, r2) := by rw [if_neg (show ¬ (false = true) by decide)] at H; exact H
          clear H
          have H := H1
          clear H1
          simp only [Option.some.injEq, Prod.mk.injEq] at H
          obtain ⟨rfl, rfl⟩ := H
          go_wp2_with (first | ((with_reducible refine gate_callee (f := 21) rfl ?_); refine goesL_ (some 17) rfl rfl Try.func21 (by kernel_rfl) rfl #[.slice A0 l0.length c0, .int .i64 x5_1] rfl (by (try simp only [List.map_toArray, List.map_cons, List.map_nil]); first | done | rfl | (simp only [List.length_drop, List.length_take]; rfl)) ?_; (with_reducible refine (spec_Base128.calls k1 _ _ l0 x5_1 t378 t379 false _ ?side1 ?side2 A5.out).mono ?_); (case side1 => repeat (first | exact (Kd.C_below HR0.out HB.out) | (with_reducible refine Kd.C_alloc ?_ _) | (with_reducible refine Kd.C_drewN ?_ _) | (with_reducible refine Kd.C_drew ?_))); (case side2 => exact HC0.out); rintro e w' ⟨rfl, ⟨nd, rfl⟩⟩; refine ⟨_, rfl, ?_⟩))
          go_ret2
          exact ⟨_, by first | rfl | (simp [errW_none, errW_some] <;> rfl) | (simp [*, errW_none, errW_some] <;> rfl), by first | exact Kd.R_nil _ _ _ _ _ | exact Kd.N_nil _ _ _ _ _ | exact Kd.V_nil _ _ _ _ _ | exact Kd.Q_nil _ _ _ _ _ | exact Kd.S_nil _ _ _ _ _, by repeat (first | (with_reducible first | exact HB.out | apply below_alloc | apply pw_below_drewN | apply below_drew1) | exact HB.out)⟩
      · rw [if_neg c4] at H
        have c4b0 : decide (x5_1 < (l0.length : Int)) = false := decide_eq_false c4
        clear c4
        simp only [Option.some.injEq, Prod.mk.injEq] at H
        obtain ⟨rfl, rfl⟩ := H
        obtain ⟨Ao24, co24, eo24⟩ := Kd.R_slice HO_4.out
        subst eo24
        go_wp2
        go_ret2
        exact ⟨_, by first | rfl | (simp [errW_none, errW_some] <;> rfl) | (simp [*, errW_none, errW_some] <;> rfl), by (with_reducible repeat (first | apply Kd.R_alloc | apply Kd.R_drewN | apply Kd.R_drew)); exact HO_4.out, by repeat (first | (with_reducible first | exact HB.out | apply below_alloc | apply pw_below_drewN | apply below_drew1) | exact HB.out)⟩

-- NOT PRINTED: function 55 (asn1_parseObjectIdentifier)

-- NOT PRINTED: function 45 (asn1_ZZOID)

-- NOT PRINTED: function 29 (impl_ReadOID)

/-! ### slices_Equal_int_int: function 30 -/
def slices_Equal_int_int.l0 : Nat → List Int → List Int → Int → Int → Option (Bool)
  | 0, _, _, _, _ => none
  | k + 1, x0, x1, x12, x13 => if x13 < x12 then (if 0 ≤ x13 then (if x13 < (x0.length : Int) then (if x13 < (x1.length : Int) then (if (rd x0 x13) = (rd x1 x13) then (slices_Equal_int_int.l0 k x0 x1 x12 (wrap64 (x13 + 1))) else (some false)) else (none)) else (none)) else (none)) else (some true)
def slices_Equal_int_int.f (k : Nat) (l0 : List Int) (l1 : List Int) : Option (Bool) := if (l0.length : Int) = (l1.length : Int) then (slices_Equal_int_int.l0 k l0 l1 (l0.length : Int) 0) else (some false)
theorem slices_Equal_int_int.mono_l : ∀ k, (∀ y0 y1 y2 y3, LeO (slices_Equal_int_int.l0 k y0 y1 y2 y3) (slices_Equal_int_int.l0 (k + 1) y0 y1 y2 y3))
  | 0 => fun _ _ _ _ r h => by simp [slices_Equal_int_int.l0] at h
  | k + 1 => by
    have ih0 := slices_Equal_int_int.mono_l k
    · intro y0 y1 y2 y3
      unfold slices_Equal_int_int.l0
      repeat' first
      | (with_reducible exact ih0 _ _ _ _)
      | (with_reducible exact LeO.refl _)
      | (with_reducible exact LeO.none _)
      | (with_reducible refine LeO.ite ?_ ?_)
      | (with_reducible refine LeO.bind ?_ (fun _ => ?_))
      | exact ih0 _ _ _ _
      | exact LeO.none _
      | refine LeO.ite ?_ ?_
      | refine LeO.bind ?_ (fun _ => ?_)
theorem slices_Equal_int_int.mono : ∀ a0 a1 k, LeO (slices_Equal_int_int.f k a0 a1) (slices_Equal_int_int.f (k + 1) a0 a1) := by
  intro a0 a1 k
  have ih0 := slices_Equal_int_int.mono_l k
  unfold slices_Equal_int_int.f
  repeat' first
      | (with_reducible exact ih0 _ _ _ _)
      | (with_reducible exact LeO.refl _)
      | (with_reducible exact LeO.none _)
      | (with_reducible refine LeO.ite ?_ ?_)
      | (with_reducible refine LeO.bind ?_ (fun _ => ?_))
      | exact ih0 _ _ _ _
      | exact LeO.none _
      | refine LeO.ite ?_ ?_
      | refine LeO.bind ?_ (fun _ => ?_)
set_option maxHeartbeats 8000000 in
set_option maxRecDepth 100000 in
theorem slices_Equal_int_int.calls (k : Nat) (A0 : Option Addr) (c0 : Nat) (l0 : List Int) (A1 : Option Addr) (c1 : Nat) (l1 : List Int) (r : Bool) (w : World) (hr0 : Kd.C (Kd.int .i64) w A0 l0.length l0) (hc0 : l0.length ≤ c0) (hr1 : Kd.C (Kd.int .i64) w A1 l1.length l1) (hc1 : l1.length ≤ c1) (h : slices_Equal_int_int.f k l0 l1 = some r) :
    Calls Try.prog 30 #[.slice A0 l0.length c0, .slice A1 l1.length c1] w fun e w' => e = .returned (.bool r) ∧ Drawn0 w w' := by
  have HR0 := Aside0.mk hr0
  have HC0 := Aside0.mk hc0
  clear hr0 hc0
  have HR1 := Aside0.mk hr1
  have HC1 := Aside0.mk hc1
  clear hr1 hc1
  have H : (if (l0.length : Int) = (l1.length : Int) then (slices_Equal_int_int.l0 k l0 l1 (l0.length : Int) 0) else (some false)) = some r := h
  clear h
  by_cases c3 : (l0.length : Int) = (l1.length : Int)
  · rw [if_pos c3] at H
    have c3b0 : ((l0.length : Int) == (l1.length : Int)) = true := beq_iff_eq.mpr c3
    have c3b1 : ((l0.length : Int) != (l1.length : Int)) = false := bne_eq_false_iff_eq.mpr c3
    have c3b2 : (l0.length == l1.length) = true := by first | simpa using c3 | (simp at c3 ⊢; omega)
    clear c3
    have H' := Aside0.mk H
    clear H
    go_enter Try.func30, Try.ntmps30
    go_wp2
    repeat (go_quiet (fail); try go_wp2)
    go_loopg [13] k (fun kq v13 w' => ∃ (x13_1 : Int), v13 = .int .i64 x13_1 ∧ Aside0 (slices_Equal_int_int.l0 kq l0 l1 (l0.length : Int) x13_1 = some r) ∧ Aside0 (kq ≤ k) ∧ Drawn0 w w')
    case atStart => exact ⟨(0), (by first | rfl | (simp; done) | (simp [*]; done)), H', ⟨Nat.le_refl _⟩, by repeat (first | exact Drawn0.refl _ | apply Drawn0.step)⟩
    case round =>
      clear H'
      try clear c1
      try clear p2
      try clear c3
      try clear c3b0
      try clear c3b1
      try clear c3b2
      obtain ⟨x13_1, rfl, HA, HK1, ⟨m1, rfl⟩⟩ := hrel
      cases gk with
      | zero => exact absurd HA.out (by simp [slices_Equal_int_int.l0])
      | succ k1 =>
        have H := HA.out
        clear HA
        simp only [slices_Equal_int_int.l0] at H
        by_cases c4 : x13_1 < (l0.length : Int)
        · rw [if_pos c4] at H
          have c4b0 : decide (x13_1 < (l0.length : Int)) = true := decide_eq_true c4
          clear c4
          by_cases c5 : 0 ≤ x13_1
          · rw [if_pos c5] at H
            have c5b0 : decide (0 ≤ x13_1) = true := decide_eq_true c5
            clear c5
            by_cases c6 : x13_1 < (l0.length : Int)
            · rw [if_pos c6] at H
              have c6b0 : decide (x13_1 < (l0.length : Int)) = true := decide_eq_true c6
              clear c6
              by_cases c7 : x13_1 < (l1.length : Int)
              · rw [if_pos c7] at H
                have c7b0 : decide (x13_1 < (l1.length : Int)) = true := decide_eq_true c7
                clear c7
                by_cases c8 : (rd l0 x13_1) = (rd l1 x13_1)
                · rw [if_pos c8] at H
                  have c8b0 : ((rd l0 x13_1) == (rd l1 x13_1)) = true := beq_iff_eq.mpr c8
                  have c8b1 : ((rd l0 x13_1) != (rd l1 x13_1)) = false := bne_eq_false_iff_eq.mpr c8
                  clear c8
                  have H' := Aside0.mk H
                  clear H
                  have p420 : 0 ≤ (x13_1 : Int) := of_decide_eq_true (by first | (with_reducible assumption) | assumption)
                  have q420 : x13_1 < (l0.length : Int) := of_decide_eq_true (by first | (with_reducible assumption) | assumption)
                  obtain ⟨ad420, e420, hx420_0⟩ := Kd.at_int HR0.out x13_1 p420 q420
                  cases e420
                  replace p420 := eq_true p420
                  replace q420 := eq_true q420
                  have p421 : 0 ≤ (x13_1 : Int) := of_decide_eq_true (by first | (with_reducible assumption) | assumption)
                  have q421 : x13_1 < (l1.length : Int) := of_decide_eq_true (by first | (with_reducible assumption) | assumption)
                  obtain ⟨ad421, e421, hx421_0⟩ := Kd.at_int HR1.out x13_1 p421 q421
                  cases e421
                  replace p421 := eq_true p421
                  replace q421 := eq_true q421
                  go_wp2
                  repeat (go_quiet (fail); try go_wp2)
                  go_roundg k1
                  case measure => have := HK1.out; omega
                  case rel => exact ⟨(wrap64 (x13_1 + 1)), (by first | rfl | (simp; done) | (simp [*]; done)), H', ⟨by have := HK1.out; omega⟩, by repeat (first | exact Drawn0.refl _ | apply Drawn0.step)⟩
                · rw [if_neg c8] at H
                  have c8b0 : ((rd l0 x13_1) == (rd l1 x13_1)) = false := beq_eq_false_iff_ne.mpr c8
                  have c8b1 : ((rd l0 x13_1) != (rd l1 x13_1)) = true := bne_iff_ne.mpr c8
                  obtain rfl := Option.some.inj H
                  have p420 : 0 ≤ (x13_1 : Int) := of_decide_eq_true (by first | (with_reducible assumption) | assumption)
                  have q420 : x13_1 < (l0.length : Int) := of_decide_eq_true (by first | (with_reducible assumption) | assumption)
                  obtain ⟨ad420, e420, hx420_0⟩ := Kd.at_int HR0.out x13_1 p420 q420
                  cases e420
                  replace p420 := eq_true p420
                  replace q420 := eq_true q420
                  have p421 : 0 ≤ (x13_1 : Int) := of_decide_eq_true (by first | (with_reducible assumption) | assumption)
                  have q421 : x13_1 < (l1.length : Int) := of_decide_eq_true (by first | (with_reducible assumption) | assumption)
                  obtain ⟨ad421, e421, hx421_0⟩ := Kd.at_int HR1.out x13_1 p421 q421
                  cases e421
                  replace p421 := eq_true p421
                  replace q421 := eq_true q421
                  go_wp2
                  repeat (go_quiet (fail); try go_wp2)
                  go_ret
                  exact ⟨by first | rfl | (simp; done) | (simp [*]; done), by repeat (first | exact Drawn0.refl _ | apply Drawn0.step)⟩
              · rw [if_neg c7] at H
                exact absurd H (by simp)
            · rw [if_neg c6] at H
              exact absurd H (by simp)
          · rw [if_neg c5] at H
            exact absurd H (by simp)
        · rw [if_neg c4] at H
          have c4b0 : decide (x13_1 < (l0.length : Int)) = false := decide_eq_false c4
          clear c4
          obtain rfl := Option.some.inj H
          go_wp2
          repeat (go_quiet (fail); try go_wp2)
          go_ret
          exact ⟨by first | rfl | (simp; done) | (simp [*]; done), by repeat (first | exact Drawn0.refl _ | apply Drawn0.step)⟩
  · rw [if_neg c3] at H
    have c3b0 : ((l0.length : Int) == (l1.length : Int)) = false := beq_eq_false_iff_ne.mpr c3
    have c3b1 : ((l0.length : Int) != (l1.length : Int)) = true := bne_iff_ne.mpr c3
    have c3b2 : (l0.length == l1.length) = false := by first | simpa using c3 | (simp at c3 ⊢; omega)
    obtain rfl := Option.some.inj H
    go_enter Try.func30, Try.ntmps30
    go_wp2
    repeat (go_quiet (fail); try go_wp2)
    go_ret
    exact ⟨by first | rfl | (simp; done) | (simp [*]; done), by repeat (first | exact Drawn0.refl _ | apply Drawn0.step)⟩

-- NOT PRINTED: function 11 (laws_FnReadOID)

-- NOT PRINTED: function 31 (spec_Header)

-- NOT PRINTED: function 60 (errors_New)

end Go.Proofs.Ytapnkngcnlomhaa.QA
