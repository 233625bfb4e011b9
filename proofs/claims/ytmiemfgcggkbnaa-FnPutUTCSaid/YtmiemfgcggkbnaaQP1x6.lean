-- Written by a program of this work (wip/patch_print.py) for this claim.
import Derived.Test.YtmiemfgcggkbnaaQP1x0
import Derived.Test.YtmiemfgcggkbnaaQP1x5
namespace Go.Proofs.Ytmiemfgcggkbnaa.QP1
open Go.RowKit Go.Proofs.YtmiemfgcggkbnaaW.PrintWords Go.Proofs.YtmiemfgcggkbnaaW.PrintLast Go.Proofs.YtmiemfgcggkbnaaW.PrintMore
attribute [local go_sem] max2_int min2_int max_two min_two max_three min_three max_four min_four   -- for this text's walks alone
set_option linter.unusedVariables false
set_option linter.unusedSimpArgs false

/-! ### laws_right: function 30 -/
def laws_right.f (a0_0 : Int) (a0_1 : Int) (a0_2 : Int) (a0_3 : Int) (a0_4 : Int) (a0_5 : Int) (a0_6 : Int) (a0_7 : Int) : Option (Int × Int × Int × Int × Int × Int × Int × Int × Bool) := (spec_Clock_Right.f a0_0 a0_1 a0_2 a0_3 a0_4 a0_5 a0_6 a0_7).bind fun t116 => (some (a0_0, a0_1, a0_2, a0_3, a0_4, a0_5, a0_6, a0_7, t116))
set_option maxHeartbeats 8000000 in
set_option maxRecDepth 100000 in
theorem laws_right.calls (a0_0 : Int) (a0_1 : Int) (a0_2 : Int) (a0_3 : Int) (a0_4 : Int) (a0_5 : Int) (a0_6 : Int) (a0_7 : Int) (r1 : Int) (r2 : Int) (r3 : Int) (r4 : Int) (r5 : Int) (r6 : Int) (r7 : Int) (r8 : Int) (r9 : Bool) (w : World) (h : laws_right.f a0_0 a0_1 a0_2 a0_3 a0_4 a0_5 a0_6 a0_7 = some (r1, r2, r3, r4, r5, r6, r7, r8, r9)) :
    Calls Try.prog 30 #[.agg #[.int .i64 a0_0, .int .i64 a0_1, .int .i64 a0_2, .int .i64 a0_3, .int .i64 a0_4, .int .i64 a0_5, .int .i64 a0_6, .int .i64 a0_7]] w fun e w' => e = .returned (.tuple #[.agg #[.int .i64 r1, .int .i64 r2, .int .i64 r3, .int .i64 r4, .int .i64 r5, .int .i64 r6, .int .i64 r7, .int .i64 r8], .bool r9]) ∧ Below w.heap.size w w' := by
  have hu47 := Try.underlying47
  have hu44 := Try.underlying44
  have HB := Aside0.mk (Below.refl w.heap.size w)
  have H : ((spec_Clock_Right.f a0_0 a0_1 a0_2 a0_3 a0_4 a0_5 a0_6 a0_7).bind fun t116 => (some (a0_0, a0_1, a0_2, a0_3, a0_4, a0_5, a0_6, a0_7, t116))) = some (r1, r2, r3, r4, r5, r6, r7, r8, r9) := h
  clear h
  replace H := Option.bind_eq_some_iff.mp H
  obtain ⟨t116, A20, H⟩ := H
  replace H : (some (a0_0, a0_1, a0_2, a0_3, a0_4, a0_5, a0_6, a0_7, t116)) = some (r1, r2, r3, r4, r5, r6, r7, r8, r9) := H
  have A2 := Aside0.mk A20
  clear A20
  simp only [Option.some.injEq, Prod.mk.injEq] at H
  obtain ⟨rfl, rfl, rfl, rfl, rfl, rfl, rfl, rfl, rfl⟩ := H
  go_enter Try.func30, Try.ntmps30
  try go_wp2_with (first | ((with_reducible refine gate_dst (N := 1) rfl ?_); refine box_event ?hg (N := 1) ?hd (cs := #[.int .i64 a0_0, .int .i64 a0_1, .int .i64 a0_2, .int .i64 a0_3, .int .i64 a0_4, .int .i64 a0_5, .int .i64 a0_6, .int .i64 a0_7]) (t := 47) ?hr ?_; (case hd => rfl); (case hg => rfl); (case hr => first | (go_simp; done) | (go_simp; rfl)); intro gb113 hg w3 hbox hb; have n0_ := Aside0.mk (below_step (by repeat (first | (with_reducible first | exact HB.out | apply below_alloc | apply pw_below_drewN | apply below_drew1) | exact HB.out)) hb); have n1_ := Aside0.mk (hbox); have n2_ := Aside0.mk ((by rw [hg]; exact (below_size (by repeat (first | (with_reducible first | exact HB.out | apply below_alloc | apply pw_below_drewN | apply below_drew1) | exact HB.out))) : w.heap.size ≤ gb113)); have n3_ := Aside0.mk ((by rw [hg]; exact (below_size (by repeat (first | (with_reducible first | exact HB.out | apply below_alloc | apply pw_below_drewN | apply below_drew1) | exact HB.out))) : w.heap.size ≤ gb113)); clear HB; have HB := n0_; have BK113 := n1_; have GW113 := n2_; have GE113 := n3_; clear n0_ n1_ n2_ n3_; clear hb hbox hg) | ((with_reducible refine gate_dst (N := 2) rfl ?_); refine box_event ?hg (N := 2) ?hd (cs := #[.int .i64 0, .int .i64 0, .int .i64 0, .int .i64 0, .int .i64 0, .int .i64 0, .int .i64 0, .int .i64 0]) (t := 44) ?hr ?_; (case hd => rfl); (case hg => rfl); (case hr => first | (go_simp; done) | (go_simp; rfl)); intro gb114 hg w4 hbox hb; have n0_ := Aside0.mk (blk_below (g := gb113) (o := .cells #[.int .i64 a0_0, .int .i64 a0_1, .int .i64 a0_2, .int .i64 a0_3, .int .i64 a0_4, .int .i64 a0_5, .int .i64 a0_6, .int .i64 a0_7] 47 (0, 0)) (by (with_reducible repeat (first | refine blk_drewN ?_ _ | refine blk_drew ?_ | refine blk_alloc ?_ _)); exact BK113.out) hb); have n1_ := Aside0.mk (below_step (by repeat (first | (with_reducible first | exact HB.out | apply below_alloc | apply pw_below_drewN | apply below_drew1 | refine below_set ?_ GE113.out) | exact HB.out)) hb); have n2_ := Aside0.mk (hbox); have n3_ := Aside0.mk ((by rw [hg]; exact (below_size (by repeat (first | (with_reducible first | exact HB.out | apply below_alloc | apply pw_below_drewN | apply below_drew1 | refine below_set ?_ GE113.out) | exact HB.out))) : w.heap.size ≤ gb114)); have n4_ := Aside0.mk ((by rw [hg]; exact (below_size (by repeat (first | (with_reducible first | exact HB.out | apply below_alloc | apply pw_below_drewN | apply below_drew1 | refine below_set ?_ GE113.out) | exact HB.out))) : w.heap.size ≤ gb114)); have n5_ := Aside0.mk ((by rw [hg]; exact Nat.ne_of_lt (blk_lt (g := gb113) (o := .cells #[.int .i64 a0_0, .int .i64 a0_1, .int .i64 a0_2, .int .i64 a0_3, .int .i64 a0_4, .int .i64 a0_5, .int .i64 a0_6, .int .i64 a0_7] 47 (0, 0)) (by (with_reducible repeat (first | refine blk_drewN ?_ _ | refine blk_drew ?_ | refine blk_alloc ?_ _)); exact BK113.out)) : gb113 ≠ gb114)); have n6_ := Aside0.mk ((by rw [hg]; exact Nat.ne_of_gt (blk_lt (g := gb113) (o := .cells #[.int .i64 a0_0, .int .i64 a0_1, .int .i64 a0_2, .int .i64 a0_3, .int .i64 a0_4, .int .i64 a0_5, .int .i64 a0_6, .int .i64 a0_7] 47 (0, 0)) (by (with_reducible repeat (first | refine blk_drewN ?_ _ | refine blk_drew ?_ | refine blk_alloc ?_ _)); exact BK113.out)) : gb114 ≠ gb113)); clear BK113; clear HB; have BK113 := n0_; have HB := n1_; have BK114 := n2_; have GW114 := n3_; have GE114 := n4_; have NB113_114 := n5_; have NB114_113 := n6_; clear n0_ n1_ n2_ n3_ n4_ n5_ n6_; clear hb hbox hg; have hnb5 := NB113_114.out; have hnc5 := NB114_113.out; have hcz6_0 : w4.cell? ⟨gb113, 0, none⟩ = some (.int .i64 a0_0) := (blk_cell BK113.out 0).trans rfl; have hcz6_1 : w4.cell? ⟨gb113, 1, none⟩ = some (.int .i64 a0_1) := (blk_cell BK113.out 1).trans rfl; have hcz6_2 : w4.cell? ⟨gb113, 2, none⟩ = some (.int .i64 a0_2) := (blk_cell BK113.out 2).trans rfl; have hcz6_3 : w4.cell? ⟨gb113, 3, none⟩ = some (.int .i64 a0_3) := (blk_cell BK113.out 3).trans rfl; have hcz6_4 : w4.cell? ⟨gb113, 4, none⟩ = some (.int .i64 a0_4) := (blk_cell BK113.out 4).trans rfl; have hcz6_5 : w4.cell? ⟨gb113, 5, none⟩ = some (.int .i64 a0_5) := (blk_cell BK113.out 5).trans rfl; have hcz6_6 : w4.cell? ⟨gb113, 6, none⟩ = some (.int .i64 a0_6) := (blk_cell BK113.out 6).trans rfl; have hcz6_7 : w4.cell? ⟨gb113, 7, none⟩ = some (.int .i64 a0_7) := (blk_cell BK113.out 7).trans rfl; have hfz6_0 := blk_frozen BK113.out 0; have hfz6_1 := blk_frozen BK113.out 1; have hfz6_2 := blk_frozen BK113.out 2; have hfz6_3 := blk_frozen BK113.out 3; have hfz6_4 := blk_frozen BK113.out 4; have hfz6_5 := blk_frozen BK113.out 5; have hfz6_6 := blk_frozen BK113.out 6; have hfz6_7 := blk_frozen BK113.out 7) | ((with_reducible refine gate_dst (N := 4) rfl ?_); refine box_event ?hg (N := 4) ?hd (cs := #[.int .i64 0, .int .i64 0, .int .i64 0, .int .i64 0, .int .i64 0, .int .i64 0, .int .i64 0, .int .i64 0]) (t := 44) ?hr ?_; (case hd => rfl); (case hg => rfl); (case hr => first | (go_simp; done) | (go_simp; rfl)); intro gb115 hg w7 hbox hb; have n0_ := Aside0.mk (blk_below (g := gb113) (o := .cells #[.int .i64 a0_0, .int .i64 a0_1, .int .i64 a0_2, .int .i64 a0_3, .int .i64 a0_4, .int .i64 a0_5, .int .i64 a0_6, .int .i64 a0_7] 47 (0, 0)) (by (with_reducible repeat (first | refine blk_drewN ?_ _ | refine blk_drew ?_ | refine blk_alloc ?_ _)); exact BK113.out) hb); have n1_ := Aside0.mk (blk_below (g := gb114) (o := .cells #[.int .i64 0, .int .i64 0, .int .i64 0, .int .i64 0, .int .i64 0, .int .i64 0, .int .i64 0, .int .i64 0] 44 (0, 0)) (by (with_reducible repeat (first | refine blk_drewN ?_ _ | refine blk_drew ?_ | refine blk_alloc ?_ _)); exact BK114.out) hb); have n2_ := Aside0.mk (below_step (by repeat (first | (with_reducible first | exact HB.out | apply below_alloc | apply pw_below_drewN | apply below_drew1 | refine below_set ?_ GE113.out | refine below_set ?_ GE114.out) | exact HB.out)) hb); have n3_ := Aside0.mk (hbox); have n4_ := Aside0.mk ((by rw [hg]; exact (below_size (by repeat (first | (with_reducible first | exact HB.out | apply below_alloc | apply pw_below_drewN | apply below_drew1 | refine below_set ?_ GE113.out | refine below_set ?_ GE114.out) | exact HB.out))) : w.heap.size ≤ gb115)); have n5_ := Aside0.mk ((by rw [hg]; exact (below_size (by repeat (first | (with_reducible first | exact HB.out | apply below_alloc | apply pw_below_drewN | apply below_drew1 | refine below_set ?_ GE113.out | refine below_set ?_ GE114.out) | exact HB.out))) : w.heap.size ≤ gb115)); have n6_ := Aside0.mk ((by rw [hg]; exact Nat.ne_of_lt (blk_lt (g := gb113) (o := .cells #[.int .i64 a0_0, .int .i64 a0_1, .int .i64 a0_2, .int .i64 a0_3, .int .i64 a0_4, .int .i64 a0_5, .int .i64 a0_6, .int .i64 a0_7] 47 (0, 0)) (by (with_reducible repeat (first | refine blk_drewN ?_ _ | refine blk_drew ?_ | refine blk_alloc ?_ _)); exact BK113.out)) : gb113 ≠ gb115)); have n7_ := Aside0.mk ((by rw [hg]; exact Nat.ne_of_gt (blk_lt (g := gb113) (o := .cells #[.int .i64 a0_0, .int .i64 a0_1, .int .i64 a0_2, .int .i64 a0_3, .int .i64 a0_4, .int .i64 a0_5, .int .i64 a0_6, .int .i64 a0_7] 47 (0, 0)) (by (with_reducible repeat (first | refine blk_drewN ?_ _ | refine blk_drew ?_ | refine blk_alloc ?_ _)); exact BK113.out)) : gb115 ≠ gb113)); have n8_ := Aside0.mk ((by rw [hg]; exact Nat.ne_of_lt (blk_lt (g := gb114) (o := .cells #[.int .i64 0, .int .i64 0, .int .i64 0, .int .i64 0, .int .i64 0, .int .i64 0, .int .i64 0, .int .i64 0] 44 (0, 0)) (by (with_reducible repeat (first | refine blk_drewN ?_ _ | refine blk_drew ?_ | refine blk_alloc ?_ _)); exact BK114.out)) : gb114 ≠ gb115)); have n9_ := Aside0.mk ((by rw [hg]; exact Nat.ne_of_gt (blk_lt (g := gb114) (o := .cells #[.int .i64 0, .int .i64 0, .int .i64 0, .int .i64 0, .int .i64 0, .int .i64 0, .int .i64 0, .int .i64 0] 44 (0, 0)) (by (with_reducible repeat (first | refine blk_drewN ?_ _ | refine blk_drew ?_ | refine blk_alloc ?_ _)); exact BK114.out)) : gb115 ≠ gb114)); clear BK113; clear BK114; clear HB; have BK113 := n0_; have BK114 := n1_; have HB := n2_; have BK115 := n3_; have GW115 := n4_; have GE115 := n5_; have NB113_115 := n6_; have NB115_113 := n7_; have NB114_115 := n8_; have NB115_114 := n9_; clear n0_ n1_ n2_ n3_ n4_ n5_ n6_ n7_ n8_ n9_; clear hb hbox hg; have hnb8 := NB115_113.out; have hnc8 := NB113_115.out; have hnb9 := NB115_114.out; have hnc9 := NB114_115.out; have hcz10_0 : w7.cell? ⟨gb115, 0, none⟩ = some (.int .i64 0) := (blk_cell BK115.out 0).trans rfl; have hcz10_1 : w7.cell? ⟨gb115, 1, none⟩ = some (.int .i64 0) := (blk_cell BK115.out 1).trans rfl; have hcz10_2 : w7.cell? ⟨gb115, 2, none⟩ = some (.int .i64 0) := (blk_cell BK115.out 2).trans rfl; have hcz10_3 : w7.cell? ⟨gb115, 3, none⟩ = some (.int .i64 0) := (blk_cell BK115.out 3).trans rfl; have hcz10_4 : w7.cell? ⟨gb115, 4, none⟩ = some (.int .i64 0) := (blk_cell BK115.out 4).trans rfl; have hcz10_5 : w7.cell? ⟨gb115, 5, none⟩ = some (.int .i64 0) := (blk_cell BK115.out 5).trans rfl; have hcz10_6 : w7.cell? ⟨gb115, 6, none⟩ = some (.int .i64 0) := (blk_cell BK115.out 6).trans rfl; have hcz10_7 : w7.cell? ⟨gb115, 7, none⟩ = some (.int .i64 0) := (blk_cell BK115.out 7).trans rfl; have hfz10_0 := blk_frozen BK115.out 0; have hfz10_1 := blk_frozen BK115.out 1; have hfz10_2 := blk_frozen BK115.out 2; have hfz10_3 := blk_frozen BK115.out 3; have hfz10_4 := blk_frozen BK115.out 4; have hfz10_5 := blk_frozen BK115.out 5; have hfz10_6 := blk_frozen BK115.out 6; have hfz10_7 := blk_frozen BK115.out 7))
  have n0_ : Aside0 (((((((((w7.setCell ⟨gb115, 0, none⟩ (.int .i64 a0_0)).setCell ⟨gb115, 1, none⟩ (.int .i64 a0_1)).setCell ⟨gb115, 2, none⟩ (.int .i64 a0_2)).setCell ⟨gb115, 3, none⟩ (.int .i64 a0_3)).setCell ⟨gb115, 4, none⟩ (.int .i64 a0_4)).setCell ⟨gb115, 5, none⟩ (.int .i64 a0_5)).setCell ⟨gb115, 6, none⟩ (.int .i64 a0_6)).setCell ⟨gb115, 7, none⟩ (.int .i64 a0_7)).heap[gb113]? = some (.cells #[.int .i64 a0_0, .int .i64 a0_1, .int .i64 a0_2, .int .i64 a0_3, .int .i64 a0_4, .int .i64 a0_5, .int .i64 a0_6, .int .i64 a0_7] 47 (0, 0))) := ⟨by (with_reducible repeat (first | refine blk_drewN ?_ _ | refine blk_drew ?_ | refine blk_alloc ?_ _)); refine blk_far ?_ NB113_115.out _; (with_reducible repeat (first | refine blk_drewN ?_ _ | refine blk_drew ?_ | refine blk_alloc ?_ _)); refine blk_far ?_ NB113_115.out _; (with_reducible repeat (first | refine blk_drewN ?_ _ | refine blk_drew ?_ | refine blk_alloc ?_ _)); refine blk_far ?_ NB113_115.out _; (with_reducible repeat (first | refine blk_drewN ?_ _ | refine blk_drew ?_ | refine blk_alloc ?_ _)); refine blk_far ?_ NB113_115.out _; (with_reducible repeat (first | refine blk_drewN ?_ _ | refine blk_drew ?_ | refine blk_alloc ?_ _)); refine blk_far ?_ NB113_115.out _; (with_reducible repeat (first | refine blk_drewN ?_ _ | refine blk_drew ?_ | refine blk_alloc ?_ _)); refine blk_far ?_ NB113_115.out _; (with_reducible repeat (first | refine blk_drewN ?_ _ | refine blk_drew ?_ | refine blk_alloc ?_ _)); refine blk_far ?_ NB113_115.out _; (with_reducible repeat (first | refine blk_drewN ?_ _ | refine blk_drew ?_ | refine blk_alloc ?_ _)); refine blk_far ?_ NB113_115.out _; (with_reducible repeat (first | refine blk_drewN ?_ _ | refine blk_drew ?_ | refine blk_alloc ?_ _)); exact BK113.out⟩
  have n1_ : Aside0 (((((((((w7.setCell ⟨gb115, 0, none⟩ (.int .i64 a0_0)).setCell ⟨gb115, 1, none⟩ (.int .i64 a0_1)).setCell ⟨gb115, 2, none⟩ (.int .i64 a0_2)).setCell ⟨gb115, 3, none⟩ (.int .i64 a0_3)).setCell ⟨gb115, 4, none⟩ (.int .i64 a0_4)).setCell ⟨gb115, 5, none⟩ (.int .i64 a0_5)).setCell ⟨gb115, 6, none⟩ (.int .i64 a0_6)).setCell ⟨gb115, 7, none⟩ (.int .i64 a0_7)).heap[gb114]? = some (.cells #[.int .i64 0, .int .i64 0, .int .i64 0, .int .i64 0, .int .i64 0, .int .i64 0, .int .i64 0, .int .i64 0] 44 (0, 0))) := ⟨by (with_reducible repeat (first | refine blk_drewN ?_ _ | refine blk_drew ?_ | refine blk_alloc ?_ _)); refine blk_far ?_ NB114_115.out _; (with_reducible repeat (first | refine blk_drewN ?_ _ | refine blk_drew ?_ | refine blk_alloc ?_ _)); refine blk_far ?_ NB114_115.out _; (with_reducible repeat (first | refine blk_drewN ?_ _ | refine blk_drew ?_ | refine blk_alloc ?_ _)); refine blk_far ?_ NB114_115.out _; (with_reducible repeat (first | refine blk_drewN ?_ _ | refine blk_drew ?_ | refine blk_alloc ?_ _)); refine blk_far ?_ NB114_115.out _; (with_reducible repeat (first | refine blk_drewN ?_ _ | refine blk_drew ?_ | refine blk_alloc ?_ _)); refine blk_far ?_ NB114_115.out _; (with_reducible repeat (first | refine blk_drewN ?_ _ | refine blk_drew ?_ | refine blk_alloc ?_ _)); refine blk_far ?_ NB114_115.out _; (with_reducible repeat (first | refine blk_drewN ?_ _ | refine blk_drew ?_ | refine blk_alloc ?_ _)); refine blk_far ?_ NB114_115.out _; (with_reducible repeat (first | refine blk_drewN ?_ _ | refine blk_drew ?_ | refine blk_alloc ?_ _)); refine blk_far ?_ NB114_115.out _; (with_reducible repeat (first | refine blk_drewN ?_ _ | refine blk_drew ?_ | refine blk_alloc ?_ _)); exact BK114.out⟩
  have n2_ : Aside0 (((((((((w7.setCell ⟨gb115, 0, none⟩ (.int .i64 a0_0)).setCell ⟨gb115, 1, none⟩ (.int .i64 a0_1)).setCell ⟨gb115, 2, none⟩ (.int .i64 a0_2)).setCell ⟨gb115, 3, none⟩ (.int .i64 a0_3)).setCell ⟨gb115, 4, none⟩ (.int .i64 a0_4)).setCell ⟨gb115, 5, none⟩ (.int .i64 a0_5)).setCell ⟨gb115, 6, none⟩ (.int .i64 a0_6)).setCell ⟨gb115, 7, none⟩ (.int .i64 a0_7)).heap[gb115]? = some (.cells #[.int .i64 a0_0, .int .i64 a0_1, .int .i64 a0_2, .int .i64 a0_3, .int .i64 a0_4, .int .i64 a0_5, .int .i64 a0_6, .int .i64 a0_7] 44 (0, 0))) := ⟨by (with_reducible repeat (first | refine blk_drewN ?_ _ | refine blk_drew ?_ | refine blk_alloc ?_ _)); refine blk_put (cs := #[.int .i64 a0_0, .int .i64 a0_1, .int .i64 a0_2, .int .i64 a0_3, .int .i64 a0_4, .int .i64 a0_5, .int .i64 a0_6, .int .i64 0]) ?_ 7 _ rfl; (with_reducible repeat (first | refine blk_drewN ?_ _ | refine blk_drew ?_ | refine blk_alloc ?_ _)); refine blk_put (cs := #[.int .i64 a0_0, .int .i64 a0_1, .int .i64 a0_2, .int .i64 a0_3, .int .i64 a0_4, .int .i64 a0_5, .int .i64 0, .int .i64 0]) ?_ 6 _ rfl; (with_reducible repeat (first | refine blk_drewN ?_ _ | refine blk_drew ?_ | refine blk_alloc ?_ _)); refine blk_put (cs := #[.int .i64 a0_0, .int .i64 a0_1, .int .i64 a0_2, .int .i64 a0_3, .int .i64 a0_4, .int .i64 0, .int .i64 0, .int .i64 0]) ?_ 5 _ rfl; (with_reducible repeat (first | refine blk_drewN ?_ _ | refine blk_drew ?_ | refine blk_alloc ?_ _)); refine blk_put (cs := #[.int .i64 a0_0, .int .i64 a0_1, .int .i64 a0_2, .int .i64 a0_3, .int .i64 0, .int .i64 0, .int .i64 0, .int .i64 0]) ?_ 4 _ rfl; (with_reducible repeat (first | refine blk_drewN ?_ _ | refine blk_drew ?_ | refine blk_alloc ?_ _)); refine blk_put (cs := #[.int .i64 a0_0, .int .i64 a0_1, .int .i64 a0_2, .int .i64 0, .int .i64 0, .int .i64 0, .int .i64 0, .int .i64 0]) ?_ 3 _ rfl; (with_reducible repeat (first | refine blk_drewN ?_ _ | refine blk_drew ?_ | refine blk_alloc ?_ _)); refine blk_put (cs := #[.int .i64 a0_0, .int .i64 a0_1, .int .i64 0, .int .i64 0, .int .i64 0, .int .i64 0, .int .i64 0, .int .i64 0]) ?_ 2 _ rfl; (with_reducible repeat (first | refine blk_drewN ?_ _ | refine blk_drew ?_ | refine blk_alloc ?_ _)); refine blk_put (cs := #[.int .i64 a0_0, .int .i64 0, .int .i64 0, .int .i64 0, .int .i64 0, .int .i64 0, .int .i64 0, .int .i64 0]) ?_ 1 _ rfl; (with_reducible repeat (first | refine blk_drewN ?_ _ | refine blk_drew ?_ | refine blk_alloc ?_ _)); refine blk_put (cs := #[.int .i64 0, .int .i64 0, .int .i64 0, .int .i64 0, .int .i64 0, .int .i64 0, .int .i64 0, .int .i64 0]) ?_ 0 _ rfl; (with_reducible repeat (first | refine blk_drewN ?_ _ | refine blk_drew ?_ | refine blk_alloc ?_ _)); exact BK115.out⟩
  have n3_ : Aside0 (Below w.heap.size w ((((((((w7.setCell ⟨gb115, 0, none⟩ (.int .i64 a0_0)).setCell ⟨gb115, 1, none⟩ (.int .i64 a0_1)).setCell ⟨gb115, 2, none⟩ (.int .i64 a0_2)).setCell ⟨gb115, 3, none⟩ (.int .i64 a0_3)).setCell ⟨gb115, 4, none⟩ (.int .i64 a0_4)).setCell ⟨gb115, 5, none⟩ (.int .i64 a0_5)).setCell ⟨gb115, 6, none⟩ (.int .i64 a0_6)).setCell ⟨gb115, 7, none⟩ (.int .i64 a0_7))) := ⟨by repeat (first | (with_reducible first | exact HB.out | apply below_alloc | apply pw_below_drewN | apply below_drew1 | refine below_set ?_ GE113.out | refine below_set ?_ GE114.out | refine below_set ?_ GE115.out) | exact HB.out)⟩
  (try clear BK113)
  (try clear BK114)
  (try clear BK115)
  (try clear HB)
  generalize ((((((((w7.setCell ⟨gb115, 0, none⟩ (.int .i64 a0_0)).setCell ⟨gb115, 1, none⟩ (.int .i64 a0_1)).setCell ⟨gb115, 2, none⟩ (.int .i64 a0_2)).setCell ⟨gb115, 3, none⟩ (.int .i64 a0_3)).setCell ⟨gb115, 4, none⟩ (.int .i64 a0_4)).setCell ⟨gb115, 5, none⟩ (.int .i64 a0_5)).setCell ⟨gb115, 6, none⟩ (.int .i64 a0_6)).setCell ⟨gb115, 7, none⟩ (.int .i64 a0_7)) = w11 at n0_ n1_ n2_ n3_ ⊢
  have BK113 := n0_
  have BK114 := n1_
  have BK115 := n2_
  have HB := n3_
  clear n0_ n1_ n2_ n3_
  have n0_ := Aside0.mk (blk_drew BK113.out)
  have n1_ := Aside0.mk (blk_drew BK114.out)
  have n2_ := Aside0.mk (blk_drew BK115.out)
  have n3_ := Aside0.mk (below_drew1 HB.out)
  clear BK113
  clear BK114
  clear BK115
  clear HB
  have BK113 := n0_
  have BK114 := n1_
  have BK115 := n2_
  have HB := n3_
  clear n0_ n1_ n2_ n3_
  refine start_ (n := 5) (S := fun w' => w'.cell? ⟨gb115, 0, none⟩ = some (.int .i64 a0_0) ∧ w'.cell? ⟨gb115, 1, none⟩ = some (.int .i64 a0_1) ∧ w'.cell? ⟨gb115, 2, none⟩ = some (.int .i64 a0_2) ∧ w'.cell? ⟨gb115, 3, none⟩ = some (.int .i64 a0_3) ∧ w'.cell? ⟨gb115, 4, none⟩ = some (.int .i64 a0_4) ∧ w'.cell? ⟨gb115, 5, none⟩ = some (.int .i64 a0_5) ∧ w'.cell? ⟨gb115, 6, none⟩ = some (.int .i64 a0_6) ∧ w'.cell? ⟨gb115, 7, none⟩ = some (.int .i64 a0_7)) (ds := []) #[false, false, false, false, false] (by kernel_rfl) rfl rfl ⟨(blk_cell BK115.out 0).trans rfl, (blk_cell BK115.out 1).trans rfl, (blk_cell BK115.out 2).trans rfl, (blk_cell BK115.out 3).trans rfl, (blk_cell BK115.out 4).trans rfl, (blk_cell BK115.out 5).trans rfl, (blk_cell BK115.out 6).trans rfl, (blk_cell BK115.out 7).trans rfl⟩ (fun hHeld => ?_)
  generalize w11.drew = w12 at BK113 BK114 BK115 HB hHeld ⊢
  refine take_ (i := 0) (N := some 22) (v := ?_) (a' := ?_) #[true, false, false, false, false] rfl rfl (by kernel_rfl) (fun _ _ _ h => h) (Or.inl ⟨by rfl, ?_⟩) hHeld ?_ ?_
  rotate_left
  · rintro w' ⟨s0, s1, s2, s3, s4, s5, s6, s7⟩
    go_simp
    with_reducible rfl
  rotate_left
  · simp only [Act.put, List.setIfInBounds_toArray, List.set_cons_zero, List.set_cons_succ, i64_w, i32_w]
    rfl
  refine take_ (i := 1) (N := some 23) (v := ?_) (a' := ?_) #[true, true, false, false, false] rfl rfl (by kernel_rfl) (fun _ _ _ h => h) (Or.inl ⟨by rfl, ?_⟩) hHeld ?_ ?_
  rotate_left
  · rintro w' ⟨s0, s1, s2, s3, s4, s5, s6, s7⟩
    go_simp
    with_reducible rfl
  rotate_left
  · simp only [Act.put, List.setIfInBounds_toArray, List.set_cons_zero, List.set_cons_succ, i64_w, i32_w]
    rfl
  refine one_ (i := 2) (N := some 24) #[true, true, true, false, false] rfl rfl (by kernel_rfl) (by decide) (fun K hK => ?_)
  refine goes_ Try.func53 (by kernel_rfl) rfl #[.agg #[.int .i64 a0_0, .int .i64 a0_1, .int .i64 a0_2, .int .i64 a0_3, .int .i64 a0_4, .int .i64 a0_5, .int .i64 a0_6, .int .i64 a0_7]] (by rfl) rfl rfl (by (try simp only [List.map_toArray, List.map_cons, List.map_nil]); first | done | rfl | (simp only [List.length_drop, List.length_take]; rfl)) ?_
  with_reducible refine (spec_Clock_Right.calls a0_0 a0_1 a0_2 a0_3 a0_4 a0_5 a0_6 a0_7 t116 _ A2.out).mono ?_
  rintro e w13 ⟨rfl, hb⟩
  refine ⟨_, rfl, ?_⟩
  have n0_ := Aside0.mk (blk_below (g := gb113) (o := .cells #[.int .i64 a0_0, .int .i64 a0_1, .int .i64 a0_2, .int .i64 a0_3, .int .i64 a0_4, .int .i64 a0_5, .int .i64 a0_6, .int .i64 a0_7] 47 (0, 0)) (by (with_reducible repeat (first | refine blk_drewN ?_ _ | refine blk_drew ?_ | refine blk_alloc ?_ _)); exact BK113.out) hb)
  have n1_ := Aside0.mk (blk_below (g := gb114) (o := .cells #[.int .i64 0, .int .i64 0, .int .i64 0, .int .i64 0, .int .i64 0, .int .i64 0, .int .i64 0, .int .i64 0] 44 (0, 0)) (by (with_reducible repeat (first | refine blk_drewN ?_ _ | refine blk_drew ?_ | refine blk_alloc ?_ _)); exact BK114.out) hb)
  have n2_ := Aside0.mk (blk_below (g := gb115) (o := .cells #[.int .i64 a0_0, .int .i64 a0_1, .int .i64 a0_2, .int .i64 a0_3, .int .i64 a0_4, .int .i64 a0_5, .int .i64 a0_6, .int .i64 a0_7] 44 (0, 0)) (by (with_reducible repeat (first | refine blk_drewN ?_ _ | refine blk_drew ?_ | refine blk_alloc ?_ _)); exact BK115.out) hb)
  have n3_ := Aside0.mk (below_step (by repeat (first | (with_reducible first | exact HB.out | apply below_alloc | apply pw_below_drewN | apply below_drew1 | refine below_set ?_ GE113.out | refine below_set ?_ GE114.out | refine below_set ?_ GE115.out) | exact HB.out)) hb)
  clear BK113
  clear BK114
  clear BK115
  clear HB
  have BK113 := n0_
  have BK114 := n1_
  have BK115 := n2_
  have HB := n3_
  clear n0_ n1_ n2_ n3_
  (try clear hb)
  (try clear hb2)
  (try clear hk)
  (try clear hi)
  refine hK.out _ _ ⟨(blk_cell BK115.out 0).trans rfl, (blk_cell BK115.out 1).trans rfl, (blk_cell BK115.out 2).trans rfl, (blk_cell BK115.out 3).trans rfl, (blk_cell BK115.out 4).trans rfl, (blk_cell BK115.out 5).trans rfl, (blk_cell BK115.out 6).trans rfl, (blk_cell BK115.out 7).trans rfl⟩ (fun hHeld => ?_)
  clear hK K
  refine norm_ (a' := ?_) ?_ ?_
  rotate_left
  · show Act.put _ (some 24) _ = _
    simp only [Act.put, List.setIfInBounds_toArray, List.set_cons_zero, List.set_cons_succ, i64_w, i32_w]
    rfl
  refine one_ (i := 3) (N := none) #[true, true, true, true, false] rfl rfl (by kernel_rfl) (by decide) (fun K hK => ?_)
  have hs14 : w13.cell? ⟨gb114, 0, none⟩ = some (.int .i64 0) := (blk_cell BK114.out 0).trans rfl
  have hfs14 := blk_frozen BK114.out 0
  have hns14_0 := NB113_114.out
  have hns14_2 := NB115_114.out
  have hms14_0 := NB114_113.out
  have hms14_2 := NB114_115.out
  have hs15 : w13.cell? ⟨gb114, 1, none⟩ = some (.int .i64 0) := (blk_cell BK114.out 1).trans rfl
  have hfs15 := blk_frozen BK114.out 1
  have hns15_0 := NB113_114.out
  have hns15_2 := NB115_114.out
  have hms15_0 := NB114_113.out
  have hms15_2 := NB114_115.out
  have hs16 : w13.cell? ⟨gb114, 2, none⟩ = some (.int .i64 0) := (blk_cell BK114.out 2).trans rfl
  have hfs16 := blk_frozen BK114.out 2
  have hns16_0 := NB113_114.out
  have hns16_2 := NB115_114.out
  have hms16_0 := NB114_113.out
  have hms16_2 := NB114_115.out
  have hs17 : w13.cell? ⟨gb114, 3, none⟩ = some (.int .i64 0) := (blk_cell BK114.out 3).trans rfl
  have hfs17 := blk_frozen BK114.out 3
  have hns17_0 := NB113_114.out
  have hns17_2 := NB115_114.out
  have hms17_0 := NB114_113.out
  have hms17_2 := NB114_115.out
  have hs18 : w13.cell? ⟨gb114, 4, none⟩ = some (.int .i64 0) := (blk_cell BK114.out 4).trans rfl
  have hfs18 := blk_frozen BK114.out 4
  have hns18_0 := NB113_114.out
  have hns18_2 := NB115_114.out
  have hms18_0 := NB114_113.out
  have hms18_2 := NB114_115.out
  have hs19 : w13.cell? ⟨gb114, 5, none⟩ = some (.int .i64 0) := (blk_cell BK114.out 5).trans rfl
  have hfs19 := blk_frozen BK114.out 5
  have hns19_0 := NB113_114.out
  have hns19_2 := NB115_114.out
  have hms19_0 := NB114_113.out
  have hms19_2 := NB114_115.out
  have hs20 : w13.cell? ⟨gb114, 6, none⟩ = some (.int .i64 0) := (blk_cell BK114.out 6).trans rfl
  have hfs20 := blk_frozen BK114.out 6
  have hns20_0 := NB113_114.out
  have hns20_2 := NB115_114.out
  have hms20_0 := NB114_113.out
  have hms20_2 := NB114_115.out
  have hs21 : w13.cell? ⟨gb114, 7, none⟩ = some (.int .i64 0) := (blk_cell BK114.out 7).trans rfl
  have hfs21 := blk_frozen BK114.out 7
  have hns21_0 := NB113_114.out
  have hns21_2 := NB115_114.out
  have hms21_0 := NB114_113.out
  have hms21_2 := NB114_115.out
  refine skip_ (w1 := ?_) (by rfl) rfl ?_ ?_
  rotate_left
  · go_simp
    rfl
  refine hK.out _ _ ⟨((cell_far (p := ⟨gb114, _, none⟩) NB115_114.out _).trans (((cell_far (p := ⟨gb114, _, none⟩) NB115_114.out _).trans (((cell_far (p := ⟨gb114, _, none⟩) NB115_114.out _).trans (((cell_far (p := ⟨gb114, _, none⟩) NB115_114.out _).trans (((cell_far (p := ⟨gb114, _, none⟩) NB115_114.out _).trans (((cell_far (p := ⟨gb114, _, none⟩) NB115_114.out _).trans (((cell_far (p := ⟨gb114, _, none⟩) NB115_114.out _).trans (((cell_far (p := ⟨gb114, _, none⟩) NB115_114.out _).trans (hHeld.1)))))))))))))))), ((cell_far (p := ⟨gb114, _, none⟩) NB115_114.out _).trans (((cell_far (p := ⟨gb114, _, none⟩) NB115_114.out _).trans (((cell_far (p := ⟨gb114, _, none⟩) NB115_114.out _).trans (((cell_far (p := ⟨gb114, _, none⟩) NB115_114.out _).trans (((cell_far (p := ⟨gb114, _, none⟩) NB115_114.out _).trans (((cell_far (p := ⟨gb114, _, none⟩) NB115_114.out _).trans (((cell_far (p := ⟨gb114, _, none⟩) NB115_114.out _).trans (((cell_far (p := ⟨gb114, _, none⟩) NB115_114.out _).trans (hHeld.2.1)))))))))))))))), ((cell_far (p := ⟨gb114, _, none⟩) NB115_114.out _).trans (((cell_far (p := ⟨gb114, _, none⟩) NB115_114.out _).trans (((cell_far (p := ⟨gb114, _, none⟩) NB115_114.out _).trans (((cell_far (p := ⟨gb114, _, none⟩) NB115_114.out _).trans (((cell_far (p := ⟨gb114, _, none⟩) NB115_114.out _).trans (((cell_far (p := ⟨gb114, _, none⟩) NB115_114.out _).trans (((cell_far (p := ⟨gb114, _, none⟩) NB115_114.out _).trans (((cell_far (p := ⟨gb114, _, none⟩) NB115_114.out _).trans (hHeld.2.2.1)))))))))))))))), ((cell_far (p := ⟨gb114, _, none⟩) NB115_114.out _).trans (((cell_far (p := ⟨gb114, _, none⟩) NB115_114.out _).trans (((cell_far (p := ⟨gb114, _, none⟩) NB115_114.out _).trans (((cell_far (p := ⟨gb114, _, none⟩) NB115_114.out _).trans (((cell_far (p := ⟨gb114, _, none⟩) NB115_114.out _).trans (((cell_far (p := ⟨gb114, _, none⟩) NB115_114.out _).trans (((cell_far (p := ⟨gb114, _, none⟩) NB115_114.out _).trans (((cell_far (p := ⟨gb114, _, none⟩) NB115_114.out _).trans (hHeld.2.2.2.1)))))))))))))))), ((cell_far (p := ⟨gb114, _, none⟩) NB115_114.out _).trans (((cell_far (p := ⟨gb114, _, none⟩) NB115_114.out _).trans (((cell_far (p := ⟨gb114, _, none⟩) NB115_114.out _).trans (((cell_far (p := ⟨gb114, _, none⟩) NB115_114.out _).trans (((cell_far (p := ⟨gb114, _, none⟩) NB115_114.out _).trans (((cell_far (p := ⟨gb114, _, none⟩) NB115_114.out _).trans (((cell_far (p := ⟨gb114, _, none⟩) NB115_114.out _).trans (((cell_far (p := ⟨gb114, _, none⟩) NB115_114.out _).trans (hHeld.2.2.2.2.1)))))))))))))))), ((cell_far (p := ⟨gb114, _, none⟩) NB115_114.out _).trans (((cell_far (p := ⟨gb114, _, none⟩) NB115_114.out _).trans (((cell_far (p := ⟨gb114, _, none⟩) NB115_114.out _).trans (((cell_far (p := ⟨gb114, _, none⟩) NB115_114.out _).trans (((cell_far (p := ⟨gb114, _, none⟩) NB115_114.out _).trans (((cell_far (p := ⟨gb114, _, none⟩) NB115_114.out _).trans (((cell_far (p := ⟨gb114, _, none⟩) NB115_114.out _).trans (((cell_far (p := ⟨gb114, _, none⟩) NB115_114.out _).trans (hHeld.2.2.2.2.2.1)))))))))))))))), ((cell_far (p := ⟨gb114, _, none⟩) NB115_114.out _).trans (((cell_far (p := ⟨gb114, _, none⟩) NB115_114.out _).trans (((cell_far (p := ⟨gb114, _, none⟩) NB115_114.out _).trans (((cell_far (p := ⟨gb114, _, none⟩) NB115_114.out _).trans (((cell_far (p := ⟨gb114, _, none⟩) NB115_114.out _).trans (((cell_far (p := ⟨gb114, _, none⟩) NB115_114.out _).trans (((cell_far (p := ⟨gb114, _, none⟩) NB115_114.out _).trans (((cell_far (p := ⟨gb114, _, none⟩) NB115_114.out _).trans (hHeld.2.2.2.2.2.2.1)))))))))))))))), ((cell_far (p := ⟨gb114, _, none⟩) NB115_114.out _).trans (((cell_far (p := ⟨gb114, _, none⟩) NB115_114.out _).trans (((cell_far (p := ⟨gb114, _, none⟩) NB115_114.out _).trans (((cell_far (p := ⟨gb114, _, none⟩) NB115_114.out _).trans (((cell_far (p := ⟨gb114, _, none⟩) NB115_114.out _).trans (((cell_far (p := ⟨gb114, _, none⟩) NB115_114.out _).trans (((cell_far (p := ⟨gb114, _, none⟩) NB115_114.out _).trans (((cell_far (p := ⟨gb114, _, none⟩) NB115_114.out _).trans (hHeld.2.2.2.2.2.2.2))))))))))))))))⟩ (fun hHeld => ?_)
  clear hK K
  refine pure_ (i := 4) (N := some 3) (v := ?_) (a' := ?_) #[true, true, true, true, true] rfl rfl (by kernel_rfl) (fun _ _ _ h => h) (Or.inl ⟨by rfl, ?_⟩) ?_ ?_
  rotate_left
  · intro w'
    go_simp
    with_reducible rfl
  rotate_left
  · simp only [Act.put, List.setIfInBounds_toArray, List.set_cons_zero, List.set_cons_succ, i64_w, i32_w]
    rfl
  refine done_ (by kernel_rfl) ?_
  try go_wp2
  refine bodyPost_ret (results_ct rfl _ _ gb114 44 #[.int .i64 a0_0, .int .i64 a0_1, .int .i64 a0_2, .int .i64 a0_3, .int .i64 a0_4, .int .i64 a0_5, .int .i64 a0_6, .int .i64 a0_7] (0, 0) _ rfl (by (with_reducible repeat (first | refine blk_drewN ?_ _ | refine blk_drew ?_ | refine blk_alloc ?_ _)); refine blk_put (cs := #[.int .i64 a0_0, .int .i64 a0_1, .int .i64 a0_2, .int .i64 a0_3, .int .i64 a0_4, .int .i64 a0_5, .int .i64 a0_6, .int .i64 0]) ?_ 7 _ rfl; (with_reducible repeat (first | refine blk_drewN ?_ _ | refine blk_drew ?_ | refine blk_alloc ?_ _)); refine blk_put (cs := #[.int .i64 a0_0, .int .i64 a0_1, .int .i64 a0_2, .int .i64 a0_3, .int .i64 a0_4, .int .i64 a0_5, .int .i64 0, .int .i64 0]) ?_ 6 _ rfl; (with_reducible repeat (first | refine blk_drewN ?_ _ | refine blk_drew ?_ | refine blk_alloc ?_ _)); refine blk_put (cs := #[.int .i64 a0_0, .int .i64 a0_1, .int .i64 a0_2, .int .i64 a0_3, .int .i64 a0_4, .int .i64 0, .int .i64 0, .int .i64 0]) ?_ 5 _ rfl; (with_reducible repeat (first | refine blk_drewN ?_ _ | refine blk_drew ?_ | refine blk_alloc ?_ _)); refine blk_put (cs := #[.int .i64 a0_0, .int .i64 a0_1, .int .i64 a0_2, .int .i64 a0_3, .int .i64 0, .int .i64 0, .int .i64 0, .int .i64 0]) ?_ 4 _ rfl; (with_reducible repeat (first | refine blk_drewN ?_ _ | refine blk_drew ?_ | refine blk_alloc ?_ _)); refine blk_put (cs := #[.int .i64 a0_0, .int .i64 a0_1, .int .i64 a0_2, .int .i64 0, .int .i64 0, .int .i64 0, .int .i64 0, .int .i64 0]) ?_ 3 _ rfl; (with_reducible repeat (first | refine blk_drewN ?_ _ | refine blk_drew ?_ | refine blk_alloc ?_ _)); refine blk_put (cs := #[.int .i64 a0_0, .int .i64 a0_1, .int .i64 0, .int .i64 0, .int .i64 0, .int .i64 0, .int .i64 0, .int .i64 0]) ?_ 2 _ rfl; (with_reducible repeat (first | refine blk_drewN ?_ _ | refine blk_drew ?_ | refine blk_alloc ?_ _)); refine blk_put (cs := #[.int .i64 a0_0, .int .i64 0, .int .i64 0, .int .i64 0, .int .i64 0, .int .i64 0, .int .i64 0, .int .i64 0]) ?_ 1 _ rfl; (with_reducible repeat (first | refine blk_drewN ?_ _ | refine blk_drew ?_ | refine blk_alloc ?_ _)); refine blk_put (cs := #[.int .i64 0, .int .i64 0, .int .i64 0, .int .i64 0, .int .i64 0, .int .i64 0, .int .i64 0, .int .i64 0]) ?_ 0 _ rfl; (with_reducible repeat (first | refine blk_drewN ?_ _ | refine blk_drew ?_ | refine blk_alloc ?_ _)); exact BK114.out) Try.underlying44 rfl (by kernel_rfl)) rfl ?_
  exact ⟨by first | rfl | (simp [errW_none, errW_some] <;> rfl) | (simp [*, errW_none, errW_some] <;> rfl), by repeat (first | (with_reducible first | exact HB.out | apply below_alloc | apply pw_below_drewN | apply below_drew1 | refine below_set ?_ GE113.out | refine below_set ?_ GE114.out | refine below_set ?_ GE115.out) | exact HB.out)⟩

/-! ### impl_days: function 86 -/
def impl_days.j0 : Nat → Int → Bool → Option (Int)
  | 0, _, _ => none
  | k + 1, x1, x5 => if x5 = true then (some 29) else (if x1 = 2 then (some 28) else (if x1 = 4 then (some 30) else (if x1 = 6 then (some 30) else (if x1 = 9 then (some 30) else (if x1 = 11 then (some 30) else (some 31))))))
def impl_days.f (k : Nat) (a0 : Int) (a1 : Int) : Option (Int) := if a1 = 2 then (if (Int.tmod a0 4) = 0 then (if (Int.tmod a0 100) = 0 then (impl_days.j0 k a1 ((Int.tmod a0 400) == 0)) else (impl_days.j0 k a1 true)) else (impl_days.j0 k a1 false)) else (impl_days.j0 k a1 false)
theorem impl_days.mono_l : ∀ k, (∀ y0 y1, LeO (impl_days.j0 k y0 y1) (impl_days.j0 (k + 1) y0 y1))
  | 0 => fun _ _ r h => by simp [impl_days.j0] at h
  | k + 1 => by
    have ih0 := impl_days.mono_l k
    · intro y0 y1
      unfold impl_days.j0
      repeat' first
      | (with_reducible exact ih0 _ _)
      | (with_reducible exact LeO.refl _)
      | (with_reducible exact LeO.none _)
      | (with_reducible refine LeO.ite ?_ ?_)
      | (with_reducible refine LeO.bind ?_ (fun _ => ?_))
      | exact ih0 _ _
      | exact LeO.none _
      | refine LeO.ite ?_ ?_
      | refine LeO.bind ?_ (fun _ => ?_)
theorem impl_days.mono : ∀ a0 a1 k, LeO (impl_days.f k a0 a1) (impl_days.f (k + 1) a0 a1) := by
  intro a0 a1 k
  have ih0 := impl_days.mono_l k
  unfold impl_days.f
  repeat' first
      | (with_reducible exact ih0 _ _)
      | (with_reducible exact LeO.refl _)
      | (with_reducible exact LeO.none _)
      | (with_reducible refine LeO.ite ?_ ?_)
      | (with_reducible refine LeO.bind ?_ (fun _ => ?_))
      | exact ih0 _ _
      | exact LeO.none _
      | refine LeO.ite ?_ ?_
      | refine LeO.bind ?_ (fun _ => ?_)
set_option maxHeartbeats 8000000 in
set_option maxRecDepth 100000 in
theorem impl_days.calls (k : Nat) (a0 : Int) (a1 : Int) (r : Int) (w : World) (h : impl_days.f k a0 a1 = some r) :
    Calls Try.prog 86 #[.int .i64 a0, .int .i64 a1] w fun e w' => e = .returned (.int .i64 r) ∧ Drawn0 w w' := by
  have H : (if a1 = 2 then (if (Int.tmod a0 4) = 0 then (if (Int.tmod a0 100) = 0 then (impl_days.j0 k a1 ((Int.tmod a0 400) == 0)) else (impl_days.j0 k a1 true)) else (impl_days.j0 k a1 false)) else (impl_days.j0 k a1 false)) = some r := h
  clear h
  have HC3 := Aside0.mk H
  clear H
  go_enter Try.func86, Try.ntmps86
  go_upto_region 1 with (fail)
  go_cut [5] (fun v5 wc => ∃ (kq : Nat) (x5_2 : Bool), v5 = .bool x5_2 ∧ Aside0 (impl_days.j0 kq a1 x5_2 = some r) ∧ Aside0 (kq ≤ k) ∧ Drawn0 w wc)
  case first =>
    have H := HC3.out
    clear HC3
    by_cases c4 : a1 = 2
    · rw [if_pos c4] at H
      have c4b0 : (a1 == 2) = true := beq_iff_eq.mpr c4
      have c4b1 : (a1 != 2) = false := bne_eq_false_iff_eq.mpr c4
      clear c4
      (first | rw [c4b0] | (simp only [i64_w, i32_w]; rw [c4b0]) | skip)
      by_cases c5 : (Int.tmod a0 4) = 0
      · rw [if_pos c5] at H
        have c5b0 : ((Int.tmod a0 4) == 0) = true := beq_iff_eq.mpr c5
        have c5b1 : ((Int.tmod a0 4) != 0) = false := bne_eq_false_iff_eq.mpr c5
        clear c5
        by_cases c6 : (Int.tmod a0 100) = 0
        · rw [if_pos c6] at H
          have c6b0 : ((Int.tmod a0 100) == 0) = true := beq_iff_eq.mpr c6
          have c6b1 : ((Int.tmod a0 100) != 0) = false := bne_eq_false_iff_eq.mpr c6
          clear c6
          have H' := Aside0.mk H
          clear H
          go_wp2
          go_meet
          case rel => exact ⟨_, (((Int.tmod a0 400) == 0)), (by first | rfl | (simp; done) | (simp [*]; done)), H', ⟨by first | omega | exact Nat.le_refl _⟩, by repeat (first | exact Drawn0.refl _ | apply Drawn0.step)⟩
        · rw [if_neg c6] at H
          have c6b0 : ((Int.tmod a0 100) == 0) = false := beq_eq_false_iff_ne.mpr c6
          have c6b1 : ((Int.tmod a0 100) != 0) = true := bne_iff_ne.mpr c6
          have H' := Aside0.mk H
          clear H
          go_wp2
          go_meet
          case rel => exact ⟨_, (true), (by first | rfl | (simp; done) | (simp [*]; done)), H', ⟨by first | omega | exact Nat.le_refl _⟩, by repeat (first | exact Drawn0.refl _ | apply Drawn0.step)⟩
      · rw [if_neg c5] at H
        have c5b0 : ((Int.tmod a0 4) == 0) = false := beq_eq_false_iff_ne.mpr c5
        have c5b1 : ((Int.tmod a0 4) != 0) = true := bne_iff_ne.mpr c5
        have H' := Aside0.mk H
        clear H
        go_wp2
        go_meet
        case rel => exact ⟨_, (false), (by first | rfl | (simp; done) | (simp [*]; done)), H', ⟨by first | omega | exact Nat.le_refl _⟩, by repeat (first | exact Drawn0.refl _ | apply Drawn0.step)⟩
    · rw [if_neg c4] at H
      have c4b0 : (a1 == 2) = false := beq_eq_false_iff_ne.mpr c4
      have c4b1 : (a1 != 2) = true := bne_iff_ne.mpr c4
      (first | rw [c4b0] | (simp only [i64_w, i32_w]; rw [c4b0]) | skip)
      have H' := Aside0.mk H
      clear H
      go_wp2
      go_meet
      case rel => exact ⟨_, (false), (by first | rfl | (simp; done) | (simp [*]; done)), H', ⟨by first | omega | exact Nat.le_refl _⟩, by repeat (first | exact Drawn0.refl _ | apply Drawn0.step)⟩
  case rest =>
    clear HC3
    try clear p2
    try clear c4
    try clear c4b0
    try clear c4b1
    try clear c5
    try clear c5b0
    try clear c5b1
    try clear c6
    try clear c6b0
    try clear c6b1
    obtain ⟨kq, x5_2, rfl, HA, HJ2, ⟨mc2, rfl⟩⟩ := hcut
    cases kq with
    | zero => exact absurd HA.out (by simp [impl_days.j0])
    | succ kj2 =>
      have H := HA.out
      clear HA
      simp only [impl_days.j0] at H
      by_cases c7 : x5_2 = true
      · subst c7
        have H1 : (some 29) = some r := by rw [if_pos rfl] at H; exact H
        clear H
        have H := H1
        clear H1
        obtain rfl := Option.some.inj H
        go_wp2
        go_ret
        exact ⟨by first | rfl | (simp; done) | (simp [*]; done), by repeat (first | exact Drawn0.refl _ | apply Drawn0.step)⟩
      · replace c7 := Bool.eq_false_iff.mpr c7
        subst c7
        have H1 : (if a1 = 2 then (some 28) else (if a1 = 4 then (some 30) else (if a1 = 6 then (some 30) else (if a1 = 9 then (some 30) else (if a1 = 11 then (some 30) else (some 31)))))) = some r := by rw [if_neg (show ¬ (false = true) by decide)] at H; exact H
        clear H
        have H := H1
        clear H1
        by_cases c8 : a1 = 2
        · rw [if_pos c8] at H
          have c8b0 : (a1 == 2) = true := beq_iff_eq.mpr c8
          have c8b1 : (a1 != 2) = false := bne_eq_false_iff_eq.mpr c8
          clear c8
          obtain rfl := Option.some.inj H
          go_wp2
          go_ret
          exact ⟨by first | rfl | (simp; done) | (simp [*]; done), by repeat (first | exact Drawn0.refl _ | apply Drawn0.step)⟩
        · rw [if_neg c8] at H
          have c8b0 : (a1 == 2) = false := beq_eq_false_iff_ne.mpr c8
          have c8b1 : (a1 != 2) = true := bne_iff_ne.mpr c8
          by_cases c9 : a1 = 4
          · rw [if_pos c9] at H
            have c9b0 : (a1 == 4) = true := beq_iff_eq.mpr c9
            have c9b1 : (a1 != 4) = false := bne_eq_false_iff_eq.mpr c9
            clear c9
            obtain rfl := Option.some.inj H
            go_wp2
            go_ret
            exact ⟨by first | rfl | (simp; done) | (simp [*]; done), by repeat (first | exact Drawn0.refl _ | apply Drawn0.step)⟩
          · rw [if_neg c9] at H
            have c9b0 : (a1 == 4) = false := beq_eq_false_iff_ne.mpr c9
            have c9b1 : (a1 != 4) = true := bne_iff_ne.mpr c9
            by_cases c10 : a1 = 6
            · rw [if_pos c10] at H
              have c10b0 : (a1 == 6) = true := beq_iff_eq.mpr c10
              have c10b1 : (a1 != 6) = false := bne_eq_false_iff_eq.mpr c10
              clear c10
              obtain rfl := Option.some.inj H
              go_wp2
              go_ret
              exact ⟨by first | rfl | (simp; done) | (simp [*]; done), by repeat (first | exact Drawn0.refl _ | apply Drawn0.step)⟩
            · rw [if_neg c10] at H
              have c10b0 : (a1 == 6) = false := beq_eq_false_iff_ne.mpr c10
              have c10b1 : (a1 != 6) = true := bne_iff_ne.mpr c10
              by_cases c11 : a1 = 9
              · rw [if_pos c11] at H
                have c11b0 : (a1 == 9) = true := beq_iff_eq.mpr c11
                have c11b1 : (a1 != 9) = false := bne_eq_false_iff_eq.mpr c11
                clear c11
                obtain rfl := Option.some.inj H
                go_wp2
                go_ret
                exact ⟨by first | rfl | (simp; done) | (simp [*]; done), by repeat (first | exact Drawn0.refl _ | apply Drawn0.step)⟩
              · rw [if_neg c11] at H
                have c11b0 : (a1 == 9) = false := beq_eq_false_iff_ne.mpr c11
                have c11b1 : (a1 != 9) = true := bne_iff_ne.mpr c11
                by_cases c12 : a1 = 11
                · rw [if_pos c12] at H
                  have c12b0 : (a1 == 11) = true := beq_iff_eq.mpr c12
                  have c12b1 : (a1 != 11) = false := bne_eq_false_iff_eq.mpr c12
                  clear c12
                  obtain rfl := Option.some.inj H
                  go_wp2
                  go_ret
                  exact ⟨by first | rfl | (simp; done) | (simp [*]; done), by repeat (first | exact Drawn0.refl _ | apply Drawn0.step)⟩
                · rw [if_neg c12] at H
                  have c12b0 : (a1 == 11) = false := beq_eq_false_iff_ne.mpr c12
                  have c12b1 : (a1 != 11) = true := bne_iff_ne.mpr c12
                  obtain rfl := Option.some.inj H
                  go_wp2
                  go_ret
                  exact ⟨by first | rfl | (simp; done) | (simp [*]; done), by repeat (first | exact Drawn0.refl _ | apply Drawn0.step)⟩

end Go.Proofs.Ytmiemfgcggkbnaa.QP1
