-- Written by a program of this work (wip/patch_print.py) for this claim.
import Derived.Test.YtmiemfgcggkbnaaQP2x0
namespace Go.Proofs.Ytmiemfgcggkbnaa.QP2
open Go.RowKit Go.Proofs.YtmiemfgcggkbnaaW.PrintWords Go.Proofs.YtmiemfgcggkbnaaW.PrintLast Go.Proofs.YtmiemfgcggkbnaaW.PrintMore
attribute [local go_sem] max2_int min2_int max_two min_two max_three min_three max_four min_four   -- for this text's walks alone
set_option linter.unusedVariables false
set_option linter.unusedSimpArgs false

/-! ### bytes_Equal: function 17 -/
def bytes_Equal.f (l0 : List Int) (l1 : List Int) : Option (Bool) := some ((strOfNums l0).toList == (strOfNums l1).toList)
set_option maxHeartbeats 8000000 in
set_option maxRecDepth 100000 in
theorem bytes_Equal.calls (A0 : Option Addr) (c0 : Nat) (l0 : List Int) (A1 : Option Addr) (c1 : Nat) (l1 : List Int) (r : Bool) (w : World) (hr0 : Kd.C (Kd.int .u8) w A0 l0.length l0) (hc0 : l0.length ≤ c0) (hr1 : Kd.C (Kd.int .u8) w A1 l1.length l1) (hc1 : l1.length ≤ c1) (h : bytes_Equal.f l0 l1 = some r) :
    Calls Try.prog 17 #[.slice A0 l0.length c0, .slice A1 l1.length c1] w fun e w' => e = .returned (.bool r) ∧ Drawn0 w w' := by
  have HR0 := Aside0.mk hr0
  have HC0 := Aside0.mk hc0
  clear hr0 hc0
  have HR1 := Aside0.mk hr1
  have HC1 := Aside0.mk hc1
  clear hr1 hc1
  have H : (some ((strOfNums l0).toList == (strOfNums l1).toList)) = some r := h
  clear h
  obtain rfl := Option.some.inj H
  have hcv3 := Kd.C_string (P := Try.prog) (A := A0) (c := c0) Try.underlying25 Try.underlying5 Try.underlying9 HR0.out
  have hcv4 := Kd.C_string (P := Try.prog) (A := A1) (c := c1) Try.underlying25 Try.underlying5 Try.underlying9 HR1.out
  go_enter Try.func17, Try.ntmps17
  go_wp2
  go_ret
  exact ⟨by first | rfl | (simp; done) | (simp [*]; done), by repeat (first | exact Drawn0.refl _ | apply Drawn0.step)⟩

/-! ### impl_copied: function 44 -/
def impl_copied.f (l0 : List Int) : Option (List Int) := if ([] : List Int).length + l0.length < 140737488355328 then (some (([] : List Int) ++ l0)) else (none)
set_option maxHeartbeats 8000000 in
set_option maxRecDepth 100000 in
theorem impl_copied.calls (A0 : Option Addr) (c0 : Nat) (l0 : List Int) (r : List Int) (w : World) (hr0 : Kd.C (Kd.int .u8) w A0 l0.length l0) (hc0 : l0.length ≤ c0) (h : impl_copied.f l0 = some r) :
    Calls Try.prog 44 #[.slice A0 l0.length c0] w fun e w' => ∃ v0_ : Value, e = .returned (v0_) ∧ Kd.R (Kd.int .u8) 5 w' w.heap.size (fun _ => True) v0_ r ∧ Below w.heap.size w w' := by
  have HR0 := Aside0.mk hr0
  have HC0 := Aside0.mk hc0
  clear hr0 hc0
  have HB := Aside0.mk (Below.refl w.heap.size w)
  have H : (if ([] : List Int).length + l0.length < 140737488355328 then (some (([] : List Int) ++ l0)) else (none)) = some r := h
  clear h
  by_cases c2 : ([] : List Int).length + l0.length < 140737488355328
  · rw [if_pos c2] at H
    have LMc2 := Aside0.mk c2
    clear c2
    obtain ⟨y101, hy101⟩ : ∃ y_ : List Int, y_ = (([] : List Int) ++ l0) := ⟨_, rfl⟩
    replace H : (some y101) = some r := by first | (rw [hy101]; with_reducible exact H) | (have H2_ := (Option.bind_some _ _).symm.trans H; rw [hy101]; with_reducible exact H2_) | (have H2_ := (Option.bind_some _ _).symm.trans H; with_reducible exact H2_) | with_reducible exact H | (rw [hy101]; exact H) | exact H
    have Ny101 := Aside0.mk hy101
    clear hy101
    obtain rfl := Option.some.inj H
    go_enter Try.func44, Try.ntmps44
    go_wp2_with (first | ((with_reducible refine gate_builtin (b := .append) (xs := #[.const (.slice none 0 0), .tmp 3]) rfl ?_); at_builtin; refine Kd.R_append_rows (Kd.int .u8) (w0 := w) w.heap.size rfl (.const (.slice none 0 0)) (.tmp 3) 25 5 (.int .u8 0) 1 rfl Try.underlying25 info5 rfl (by decide) (by omega) (.slice none 0 0) ([] : List Int) l0 _ _ _ (fun _ => True) (fun _ => False) rfl rfl ?aO ?aR (fun _ _ h => h) (fun _ h => h.elim) ?aF ?aB ?aS ?aL ?_; (case aR => repeat (first | exact HR0.out | (with_reducible refine Kd.C_alloc ?_ _) | (with_reducible refine Kd.C_drewN ?_ _) | (with_reducible refine Kd.C_drew ?_))); (case aB => exact (by repeat (first | (with_reducible first | exact HB.out | apply below_alloc | apply pw_below_drewN | apply below_drew1) | exact HB.out))); (case aF => exact (fun _ _ => trivial)); (case aO => exact ((Kd.R_nil _ _ _ _ (fun _ => True)))); (case aS => exact (below_size (by repeat (first | (with_reducible first | exact HB.out | apply below_alloc | apply pw_below_drewN | apply below_drew1) | exact HB.out)))); (case aL => have := LMc2.out; omega); intro v102 w3 ho hb hg hat; rw [← Ny101.out] at ho; have n0_ := Aside0.mk (hb); have n1_ := Aside0.mk (ho); clear HB; have HB := n0_; have HO103 := n1_; clear n0_ n1_; clear ho hb hg hat))
    go_ret
    exact ⟨_, by first | rfl | (simp [errW_none, errW_some] <;> rfl) | (simp [*, errW_none, errW_some] <;> rfl), by (with_reducible repeat (first | apply Kd.R_alloc | apply Kd.R_drewN | apply Kd.R_drew)); exact HO103.out, by repeat (first | (with_reducible first | exact HB.out | apply below_alloc | apply pw_below_drewN | apply below_drew1) | exact HB.out)⟩
  · rw [if_neg c2] at H
    exact absurd H (by simp)

/-! ### impl_short: function 48 -/
def impl_short.f (l0 : List Int) : Option (Bool) := some (decide ((l0.length : Int) ≤ 10000))
set_option maxHeartbeats 8000000 in
set_option maxRecDepth 100000 in
theorem impl_short.calls (A0 : Option Addr) (c0 : Nat) (l0 : List Int) (r : Bool) (w : World) (hr0 : Kd.C (Kd.int .u8) w A0 l0.length l0) (hc0 : l0.length ≤ c0) (h : impl_short.f l0 = some r) :
    Calls Try.prog 48 #[.slice A0 l0.length c0] w fun e w' => e = .returned (.bool r) ∧ Drawn0 w w' := by
  have HR0 := Aside0.mk hr0
  have HC0 := Aside0.mk hc0
  clear hr0 hc0
  have H : (some (decide ((l0.length : Int) ≤ 10000))) = some r := h
  clear h
  obtain rfl := Option.some.inj H
  go_enter Try.func48, Try.ntmps48
  go_wp2
  go_ret
  exact ⟨by first | rfl | (simp; done) | (simp [*]; done), by repeat (first | exact Drawn0.refl _ | apply Drawn0.step)⟩

/-! ### impl_told: function 54 -/
def impl_told.f (a0_0 : Int) (a0_1 : Int) (a0_2 : Int) (a0_3 : Int) (a0_4 : Int) (a0_5 : Int) (a0_6 : Int) (a0_7 : Int) (a1 : Option Int) : Option (Int × Int × Int × Int × Int × Int × Int × Int × Bool) := if a1.isNone = true then (some (a0_0, a0_1, a0_2, a0_3, a0_4, a0_5, a0_6, a0_7, true)) else (some (0, 0, 0, 0, 0, 0, 0, 0, false))
set_option maxHeartbeats 8000000 in
set_option maxRecDepth 100000 in
theorem impl_told.calls (a0_0 : Int) (a0_1 : Int) (a0_2 : Int) (a0_3 : Int) (a0_4 : Int) (a0_5 : Int) (a0_6 : Int) (a0_7 : Int) (a1 : Option Int) (r1 : Int) (r2 : Int) (r3 : Int) (r4 : Int) (r5 : Int) (r6 : Int) (r7 : Int) (r8 : Int) (r9 : Bool) (w : World) (h : impl_told.f a0_0 a0_1 a0_2 a0_3 a0_4 a0_5 a0_6 a0_7 a1 = some (r1, r2, r3, r4, r5, r6, r7, r8, r9)) :
    Calls Try.prog 54 #[.agg #[.int .i64 a0_0, .int .i64 a0_1, .int .i64 a0_2, .int .i64 a0_3, .int .i64 a0_4, .int .i64 a0_5, .int .i64 a0_6, .int .i64 a0_7], errW a1] w fun e w' => e = .returned (.tuple #[.agg #[.int .i64 r1, .int .i64 r2, .int .i64 r3, .int .i64 r4, .int .i64 r5, .int .i64 r6, .int .i64 r7, .int .i64 r8], .bool r9]) ∧ Below w.heap.size w w' := by
  have hu87 := Try.underlying87
  have hu47 := Try.underlying47
  have hu72 := Try.underlying72
  have HB := Aside0.mk (Below.refl w.heap.size w)
  have H : (if a1.isNone = true then (some (a0_0, a0_1, a0_2, a0_3, a0_4, a0_5, a0_6, a0_7, true)) else (some (0, 0, 0, 0, 0, 0, 0, 0, false))) = some (r1, r2, r3, r4, r5, r6, r7, r8, r9) := h
  clear h
  rcases a1 with _ | q106
  · have H1 : (some (a0_0, a0_1, a0_2, a0_3, a0_4, a0_5, a0_6, a0_7, true)) = some (r1, r2, r3, r4, r5, r6, r7, r8, r9) := by rw [if_pos (show (none : Option Int).isNone = true by rfl)] at H; exact H
    clear H
    have H := H1
    clear H1
    simp only [errW_none, errW_some]
    simp only [Option.some.injEq, Prod.mk.injEq] at H
    obtain ⟨rfl, rfl, rfl, rfl, rfl, rfl, rfl, rfl, rfl⟩ := H
    go_enter Try.func54, Try.ntmps54
    go_wp2_with (first | ((with_reducible refine gate_dst (N := 2) rfl ?_); refine box_event ?hg (N := 2) ?hd (cs := #[.int .i64 a0_0, .int .i64 a0_1, .int .i64 a0_2, .int .i64 a0_3, .int .i64 a0_4, .int .i64 a0_5, .int .i64 a0_6, .int .i64 a0_7]) (t := 87) ?hr ?_; (case hd => rfl); (case hg => rfl); (case hr => first | (go_simp; done) | (go_simp; rfl)); intro gb104 hg w3 hbox hb; have n0_ := Aside0.mk (below_step (by repeat (first | (with_reducible first | exact HB.out | apply below_alloc | apply pw_below_drewN | apply below_drew1) | exact HB.out)) hb); have n1_ := Aside0.mk (hbox); have n2_ := Aside0.mk ((by rw [hg]; exact (below_size (by repeat (first | (with_reducible first | exact HB.out | apply below_alloc | apply pw_below_drewN | apply below_drew1) | exact HB.out))) : w.heap.size ≤ gb104)); have n3_ := Aside0.mk ((by rw [hg]; exact (below_size (by repeat (first | (with_reducible first | exact HB.out | apply below_alloc | apply pw_below_drewN | apply below_drew1) | exact HB.out))) : w.heap.size ≤ gb104)); clear HB; have HB := n0_; have BK104 := n1_; have GW104 := n2_; have GE104 := n3_; clear n0_ n1_ n2_ n3_; clear hb hbox hg) | ((with_reducible refine gate_dst (N := 4) rfl ?_); refine box_event ?hg (N := 4) ?hd (cs := #[.int .i64 0, .int .i64 0, .int .i64 0, .int .i64 0, .int .i64 0, .int .i64 0, .int .i64 0, .int .i64 0]) (t := 47) ?hr ?_; (case hd => rfl); (case hg => rfl); (case hr => first | (go_simp; done) | (go_simp; rfl)); intro gb105 hg w4 hbox hb; have n0_ := Aside0.mk (blk_below (g := gb104) (o := .cells #[.int .i64 a0_0, .int .i64 a0_1, .int .i64 a0_2, .int .i64 a0_3, .int .i64 a0_4, .int .i64 a0_5, .int .i64 a0_6, .int .i64 a0_7] 87 (0, 0)) (by (with_reducible repeat (first | refine blk_drewN ?_ _ | refine blk_drew ?_ | refine blk_alloc ?_ _)); exact BK104.out) hb); have n1_ := Aside0.mk (below_step (by repeat (first | (with_reducible first | exact HB.out | apply below_alloc | apply pw_below_drewN | apply below_drew1 | refine below_set ?_ GE104.out) | exact HB.out)) hb); have n2_ := Aside0.mk (hbox); have n3_ := Aside0.mk ((by rw [hg]; exact (below_size (by repeat (first | (with_reducible first | exact HB.out | apply below_alloc | apply pw_below_drewN | apply below_drew1 | refine below_set ?_ GE104.out) | exact HB.out))) : w.heap.size ≤ gb105)); have n4_ := Aside0.mk ((by rw [hg]; exact (below_size (by repeat (first | (with_reducible first | exact HB.out | apply below_alloc | apply pw_below_drewN | apply below_drew1 | refine below_set ?_ GE104.out) | exact HB.out))) : w.heap.size ≤ gb105)); have n5_ := Aside0.mk ((by rw [hg]; exact Nat.ne_of_lt (blk_lt (g := gb104) (o := .cells #[.int .i64 a0_0, .int .i64 a0_1, .int .i64 a0_2, .int .i64 a0_3, .int .i64 a0_4, .int .i64 a0_5, .int .i64 a0_6, .int .i64 a0_7] 87 (0, 0)) (by (with_reducible repeat (first | refine blk_drewN ?_ _ | refine blk_drew ?_ | refine blk_alloc ?_ _)); exact BK104.out)) : gb104 ≠ gb105)); have n6_ := Aside0.mk ((by rw [hg]; exact Nat.ne_of_gt (blk_lt (g := gb104) (o := .cells #[.int .i64 a0_0, .int .i64 a0_1, .int .i64 a0_2, .int .i64 a0_3, .int .i64 a0_4, .int .i64 a0_5, .int .i64 a0_6, .int .i64 a0_7] 87 (0, 0)) (by (with_reducible repeat (first | refine blk_drewN ?_ _ | refine blk_drew ?_ | refine blk_alloc ?_ _)); exact BK104.out)) : gb105 ≠ gb104)); clear BK104; clear HB; have BK104 := n0_; have HB := n1_; have BK105 := n2_; have GW105 := n3_; have GE105 := n4_; have NB104_105 := n5_; have NB105_104 := n6_; clear n0_ n1_ n2_ n3_ n4_ n5_ n6_; clear hb hbox hg; have hnb5 := NB104_105.out; have hnc5 := NB105_104.out; have hcz6_0 : w4.cell? ⟨gb104, 0, none⟩ = some (.int .i64 a0_0) := (blk_cell BK104.out 0).trans rfl; have hcz6_1 : w4.cell? ⟨gb104, 1, none⟩ = some (.int .i64 a0_1) := (blk_cell BK104.out 1).trans rfl; have hcz6_2 : w4.cell? ⟨gb104, 2, none⟩ = some (.int .i64 a0_2) := (blk_cell BK104.out 2).trans rfl; have hcz6_3 : w4.cell? ⟨gb104, 3, none⟩ = some (.int .i64 a0_3) := (blk_cell BK104.out 3).trans rfl; have hcz6_4 : w4.cell? ⟨gb104, 4, none⟩ = some (.int .i64 a0_4) := (blk_cell BK104.out 4).trans rfl; have hcz6_5 : w4.cell? ⟨gb104, 5, none⟩ = some (.int .i64 a0_5) := (blk_cell BK104.out 5).trans rfl; have hcz6_6 : w4.cell? ⟨gb104, 6, none⟩ = some (.int .i64 a0_6) := (blk_cell BK104.out 6).trans rfl; have hcz6_7 : w4.cell? ⟨gb104, 7, none⟩ = some (.int .i64 a0_7) := (blk_cell BK104.out 7).trans rfl; have hfz6_0 := blk_frozen BK104.out 0; have hfz6_1 := blk_frozen BK104.out 1; have hfz6_2 := blk_frozen BK104.out 2; have hfz6_3 := blk_frozen BK104.out 3; have hfz6_4 := blk_frozen BK104.out 4; have hfz6_5 := blk_frozen BK104.out 5; have hfz6_6 := blk_frozen BK104.out 6; have hfz6_7 := blk_frozen BK104.out 7; have hcz7_0 : w4.cell? ⟨gb105, 0, none⟩ = some (.int .i64 0) := (blk_cell BK105.out 0).trans rfl; have hcz7_1 : w4.cell? ⟨gb105, 1, none⟩ = some (.int .i64 0) := (blk_cell BK105.out 1).trans rfl; have hcz7_2 : w4.cell? ⟨gb105, 2, none⟩ = some (.int .i64 0) := (blk_cell BK105.out 2).trans rfl; have hcz7_3 : w4.cell? ⟨gb105, 3, none⟩ = some (.int .i64 0) := (blk_cell BK105.out 3).trans rfl; have hcz7_4 : w4.cell? ⟨gb105, 4, none⟩ = some (.int .i64 0) := (blk_cell BK105.out 4).trans rfl; have hcz7_5 : w4.cell? ⟨gb105, 5, none⟩ = some (.int .i64 0) := (blk_cell BK105.out 5).trans rfl; have hcz7_6 : w4.cell? ⟨gb105, 6, none⟩ = some (.int .i64 0) := (blk_cell BK105.out 6).trans rfl; have hcz7_7 : w4.cell? ⟨gb105, 7, none⟩ = some (.int .i64 0) := (blk_cell BK105.out 7).trans rfl; have hfz7_0 := blk_frozen BK105.out 0; have hfz7_1 := blk_frozen BK105.out 1; have hfz7_2 := blk_frozen BK105.out 2; have hfz7_3 := blk_frozen BK105.out 3; have hfz7_4 := blk_frozen BK105.out 4; have hfz7_5 := blk_frozen BK105.out 5; have hfz7_6 := blk_frozen BK105.out 6; have hfz7_7 := blk_frozen BK105.out 7))
    refine bodyPost_ret (results_ct rfl _ _ gb105 47 #[.int .i64 a0_0, .int .i64 a0_1, .int .i64 a0_2, .int .i64 a0_3, .int .i64 a0_4, .int .i64 a0_5, .int .i64 a0_6, .int .i64 a0_7] (0, 0) _ rfl (by (with_reducible repeat (first | refine blk_drewN ?_ _ | refine blk_drew ?_ | refine blk_alloc ?_ _)); refine blk_put (cs := #[.int .i64 a0_0, .int .i64 a0_1, .int .i64 a0_2, .int .i64 a0_3, .int .i64 a0_4, .int .i64 a0_5, .int .i64 a0_6, .int .i64 0]) ?_ 7 _ rfl; (with_reducible repeat (first | refine blk_drewN ?_ _ | refine blk_drew ?_ | refine blk_alloc ?_ _)); refine blk_put (cs := #[.int .i64 a0_0, .int .i64 a0_1, .int .i64 a0_2, .int .i64 a0_3, .int .i64 a0_4, .int .i64 a0_5, .int .i64 0, .int .i64 0]) ?_ 6 _ rfl; (with_reducible repeat (first | refine blk_drewN ?_ _ | refine blk_drew ?_ | refine blk_alloc ?_ _)); refine blk_put (cs := #[.int .i64 a0_0, .int .i64 a0_1, .int .i64 a0_2, .int .i64 a0_3, .int .i64 a0_4, .int .i64 0, .int .i64 0, .int .i64 0]) ?_ 5 _ rfl; (with_reducible repeat (first | refine blk_drewN ?_ _ | refine blk_drew ?_ | refine blk_alloc ?_ _)); refine blk_put (cs := #[.int .i64 a0_0, .int .i64 a0_1, .int .i64 a0_2, .int .i64 a0_3, .int .i64 0, .int .i64 0, .int .i64 0, .int .i64 0]) ?_ 4 _ rfl; (with_reducible repeat (first | refine blk_drewN ?_ _ | refine blk_drew ?_ | refine blk_alloc ?_ _)); refine blk_put (cs := #[.int .i64 a0_0, .int .i64 a0_1, .int .i64 a0_2, .int .i64 0, .int .i64 0, .int .i64 0, .int .i64 0, .int .i64 0]) ?_ 3 _ rfl; (with_reducible repeat (first | refine blk_drewN ?_ _ | refine blk_drew ?_ | refine blk_alloc ?_ _)); refine blk_put (cs := #[.int .i64 a0_0, .int .i64 a0_1, .int .i64 0, .int .i64 0, .int .i64 0, .int .i64 0, .int .i64 0, .int .i64 0]) ?_ 2 _ rfl; (with_reducible repeat (first | refine blk_drewN ?_ _ | refine blk_drew ?_ | refine blk_alloc ?_ _)); refine blk_put (cs := #[.int .i64 a0_0, .int .i64 0, .int .i64 0, .int .i64 0, .int .i64 0, .int .i64 0, .int .i64 0, .int .i64 0]) ?_ 1 _ rfl; (with_reducible repeat (first | refine blk_drewN ?_ _ | refine blk_drew ?_ | refine blk_alloc ?_ _)); refine blk_put (cs := #[.int .i64 0, .int .i64 0, .int .i64 0, .int .i64 0, .int .i64 0, .int .i64 0, .int .i64 0, .int .i64 0]) ?_ 0 _ rfl; (with_reducible repeat (first | refine blk_drewN ?_ _ | refine blk_drew ?_ | refine blk_alloc ?_ _)); exact BK105.out) Try.underlying47 rfl (by kernel_rfl)) rfl ?_
    exact ⟨by first | rfl | (simp [errW_none, errW_some] <;> rfl) | (simp [*, errW_none, errW_some] <;> rfl), by repeat (first | (with_reducible first | exact HB.out | apply below_alloc | apply pw_below_drewN | apply below_drew1 | refine below_set ?_ GE104.out | refine below_set ?_ GE105.out) | exact HB.out)⟩
  · have H1 : (some (0, 0, 0, 0, 0, 0, 0, 0, false)) = some (r1, r2, r3, r4, r5, r6, r7, r8, r9) := by rw [if_neg (show ¬ (some q106).isNone = true by simp)] at H; exact H
    clear H
    have H := H1
    clear H1
    simp only [errW_none, errW_some]
    simp only [Option.some.injEq, Prod.mk.injEq] at H
    obtain ⟨rfl, rfl, rfl, rfl, rfl, rfl, rfl, rfl, rfl⟩ := H
    go_enter Try.func54, Try.ntmps54
    go_wp2_with (first | ((with_reducible refine gate_dst (N := 2) rfl ?_); refine box_event ?hg (N := 2) ?hd (cs := #[.int .i64 a0_0, .int .i64 a0_1, .int .i64 a0_2, .int .i64 a0_3, .int .i64 a0_4, .int .i64 a0_5, .int .i64 a0_6, .int .i64 a0_7]) (t := 87) ?hr ?_; (case hd => rfl); (case hg => rfl); (case hr => first | (go_simp; done) | (go_simp; rfl)); intro gb104 hg w8 hbox hb; have n0_ := Aside0.mk (below_step (by repeat (first | (with_reducible first | exact HB.out | apply below_alloc | apply pw_below_drewN | apply below_drew1) | exact HB.out)) hb); have n1_ := Aside0.mk (hbox); have n2_ := Aside0.mk ((by rw [hg]; exact (below_size (by repeat (first | (with_reducible first | exact HB.out | apply below_alloc | apply pw_below_drewN | apply below_drew1) | exact HB.out))) : w.heap.size ≤ gb104)); have n3_ := Aside0.mk ((by rw [hg]; exact (below_size (by repeat (first | (with_reducible first | exact HB.out | apply below_alloc | apply pw_below_drewN | apply below_drew1) | exact HB.out))) : w.heap.size ≤ gb104)); clear HB; have HB := n0_; have BK104 := n1_; have GW104 := n2_; have GE104 := n3_; clear n0_ n1_ n2_ n3_; clear hb hbox hg) | ((with_reducible refine gate_dst (N := 4) rfl ?_); refine box_event ?hg (N := 4) ?hd (cs := #[.int .i64 0, .int .i64 0, .int .i64 0, .int .i64 0, .int .i64 0, .int .i64 0, .int .i64 0, .int .i64 0]) (t := 47) ?hr ?_; (case hd => rfl); (case hg => rfl); (case hr => first | (go_simp; done) | (go_simp; rfl)); intro gb105 hg w9 hbox hb; have n0_ := Aside0.mk (blk_below (g := gb104) (o := .cells #[.int .i64 a0_0, .int .i64 a0_1, .int .i64 a0_2, .int .i64 a0_3, .int .i64 a0_4, .int .i64 a0_5, .int .i64 a0_6, .int .i64 a0_7] 87 (0, 0)) (by (with_reducible repeat (first | refine blk_drewN ?_ _ | refine blk_drew ?_ | refine blk_alloc ?_ _)); exact BK104.out) hb); have n1_ := Aside0.mk (below_step (by repeat (first | (with_reducible first | exact HB.out | apply below_alloc | apply pw_below_drewN | apply below_drew1 | refine below_set ?_ GE104.out) | exact HB.out)) hb); have n2_ := Aside0.mk (hbox); have n3_ := Aside0.mk ((by rw [hg]; exact (below_size (by repeat (first | (with_reducible first | exact HB.out | apply below_alloc | apply pw_below_drewN | apply below_drew1 | refine below_set ?_ GE104.out) | exact HB.out))) : w.heap.size ≤ gb105)); have n4_ := Aside0.mk ((by rw [hg]; exact (below_size (by repeat (first | (with_reducible first | exact HB.out | apply below_alloc | apply pw_below_drewN | apply below_drew1 | refine below_set ?_ GE104.out) | exact HB.out))) : w.heap.size ≤ gb105)); have n5_ := Aside0.mk ((by rw [hg]; exact Nat.ne_of_lt (blk_lt (g := gb104) (o := .cells #[.int .i64 a0_0, .int .i64 a0_1, .int .i64 a0_2, .int .i64 a0_3, .int .i64 a0_4, .int .i64 a0_5, .int .i64 a0_6, .int .i64 a0_7] 87 (0, 0)) (by (with_reducible repeat (first | refine blk_drewN ?_ _ | refine blk_drew ?_ | refine blk_alloc ?_ _)); exact BK104.out)) : gb104 ≠ gb105)); have n6_ := Aside0.mk ((by rw [hg]; exact Nat.ne_of_gt (blk_lt (g := gb104) (o := .cells #[.int .i64 a0_0, .int .i64 a0_1, .int .i64 a0_2, .int .i64 a0_3, .int .i64 a0_4, .int .i64 a0_5, .int .i64 a0_6, .int .i64 a0_7] 87 (0, 0)) (by (with_reducible repeat (first | refine blk_drewN ?_ _ | refine blk_drew ?_ | refine blk_alloc ?_ _)); exact BK104.out)) : gb105 ≠ gb104)); clear BK104; clear HB; have BK104 := n0_; have HB := n1_; have BK105 := n2_; have GW105 := n3_; have GE105 := n4_; have NB104_105 := n5_; have NB105_104 := n6_; clear n0_ n1_ n2_ n3_ n4_ n5_ n6_; clear hb hbox hg; have hnb10 := NB105_104.out; have hnc10 := NB104_105.out; have hcz11_0 : w9.cell? ⟨gb105, 0, none⟩ = some (.int .i64 0) := (blk_cell BK105.out 0).trans rfl; have hcz11_1 : w9.cell? ⟨gb105, 1, none⟩ = some (.int .i64 0) := (blk_cell BK105.out 1).trans rfl; have hcz11_2 : w9.cell? ⟨gb105, 2, none⟩ = some (.int .i64 0) := (blk_cell BK105.out 2).trans rfl; have hcz11_3 : w9.cell? ⟨gb105, 3, none⟩ = some (.int .i64 0) := (blk_cell BK105.out 3).trans rfl; have hcz11_4 : w9.cell? ⟨gb105, 4, none⟩ = some (.int .i64 0) := (blk_cell BK105.out 4).trans rfl; have hcz11_5 : w9.cell? ⟨gb105, 5, none⟩ = some (.int .i64 0) := (blk_cell BK105.out 5).trans rfl; have hcz11_6 : w9.cell? ⟨gb105, 6, none⟩ = some (.int .i64 0) := (blk_cell BK105.out 6).trans rfl; have hcz11_7 : w9.cell? ⟨gb105, 7, none⟩ = some (.int .i64 0) := (blk_cell BK105.out 7).trans rfl; have hfz11_0 := blk_frozen BK105.out 0; have hfz11_1 := blk_frozen BK105.out 1; have hfz11_2 := blk_frozen BK105.out 2; have hfz11_3 := blk_frozen BK105.out 3; have hfz11_4 := blk_frozen BK105.out 4; have hfz11_5 := blk_frozen BK105.out 5; have hfz11_6 := blk_frozen BK105.out 6; have hfz11_7 := blk_frozen BK105.out 7))
    refine bodyPost_ret (results_ct rfl _ _ gb105 47 #[.int .i64 0, .int .i64 0, .int .i64 0, .int .i64 0, .int .i64 0, .int .i64 0, .int .i64 0, .int .i64 0] (0, 0) _ rfl (by (with_reducible repeat (first | refine blk_drewN ?_ _ | refine blk_drew ?_ | refine blk_alloc ?_ _)); refine blk_put (cs := #[.int .i64 0, .int .i64 0, .int .i64 0, .int .i64 0, .int .i64 0, .int .i64 0, .int .i64 0, .int .i64 0]) ?_ 7 _ rfl; (with_reducible repeat (first | refine blk_drewN ?_ _ | refine blk_drew ?_ | refine blk_alloc ?_ _)); refine blk_put (cs := #[.int .i64 0, .int .i64 0, .int .i64 0, .int .i64 0, .int .i64 0, .int .i64 0, .int .i64 0, .int .i64 0]) ?_ 6 _ rfl; (with_reducible repeat (first | refine blk_drewN ?_ _ | refine blk_drew ?_ | refine blk_alloc ?_ _)); refine blk_put (cs := #[.int .i64 0, .int .i64 0, .int .i64 0, .int .i64 0, .int .i64 0, .int .i64 0, .int .i64 0, .int .i64 0]) ?_ 5 _ rfl; (with_reducible repeat (first | refine blk_drewN ?_ _ | refine blk_drew ?_ | refine blk_alloc ?_ _)); refine blk_put (cs := #[.int .i64 0, .int .i64 0, .int .i64 0, .int .i64 0, .int .i64 0, .int .i64 0, .int .i64 0, .int .i64 0]) ?_ 4 _ rfl; (with_reducible repeat (first | refine blk_drewN ?_ _ | refine blk_drew ?_ | refine blk_alloc ?_ _)); refine blk_put (cs := #[.int .i64 0, .int .i64 0, .int .i64 0, .int .i64 0, .int .i64 0, .int .i64 0, .int .i64 0, .int .i64 0]) ?_ 3 _ rfl; (with_reducible repeat (first | refine blk_drewN ?_ _ | refine blk_drew ?_ | refine blk_alloc ?_ _)); refine blk_put (cs := #[.int .i64 0, .int .i64 0, .int .i64 0, .int .i64 0, .int .i64 0, .int .i64 0, .int .i64 0, .int .i64 0]) ?_ 2 _ rfl; (with_reducible repeat (first | refine blk_drewN ?_ _ | refine blk_drew ?_ | refine blk_alloc ?_ _)); refine blk_put (cs := #[.int .i64 0, .int .i64 0, .int .i64 0, .int .i64 0, .int .i64 0, .int .i64 0, .int .i64 0, .int .i64 0]) ?_ 1 _ rfl; (with_reducible repeat (first | refine blk_drewN ?_ _ | refine blk_drew ?_ | refine blk_alloc ?_ _)); refine blk_put (cs := #[.int .i64 0, .int .i64 0, .int .i64 0, .int .i64 0, .int .i64 0, .int .i64 0, .int .i64 0, .int .i64 0]) ?_ 0 _ rfl; (with_reducible repeat (first | refine blk_drewN ?_ _ | refine blk_drew ?_ | refine blk_alloc ?_ _)); exact BK105.out) Try.underlying47 rfl (by kernel_rfl)) rfl ?_
    exact ⟨by first | rfl | (simp [errW_none, errW_some] <;> rfl) | (simp [*, errW_none, errW_some] <;> rfl), by repeat (first | (with_reducible first | exact HB.out | apply below_alloc | apply pw_below_drewN | apply below_drew1 | refine below_set ?_ GE104.out | refine below_set ?_ GE105.out) | exact HB.out)⟩

section
open Go.BigFrame
set_option linter.unusedSimpArgs false
theorem add_zero_ (a : Addr) : a.add 0 = a := by
  unfold Addr.add
  rfl
theorem grown_set (w : World) (g j : Nat) (v : Value) : w.grownBy (w.setCell ⟨g, j, none⟩ v) (some g) := ⟨rfl, rfl, rfl, by simp, fun i hi hne => Below.heap_setCell w _ v i (fun h => hne (by rw [h]))⟩
/-- A struct of eight numbers written whole. -/
def put8 (w : World) (g : Nat) (v0 v1 v2 v3 v4 v5 v6 v7 : Value) : World := (((((((w.setCell ⟨g, 0, none⟩ v0).setCell ⟨g, 1, none⟩ v1).setCell ⟨g, 2, none⟩ v2).setCell ⟨g, 3, none⟩ v3).setCell ⟨g, 4, none⟩ v4).setCell ⟨g, 5, none⟩ v5).setCell ⟨g, 6, none⟩ v6).setCell ⟨g, 7, none⟩ v7
theorem put8_blk {w : World} {g t : Nat} {u0 u1 u2 u3 u4 u5 u6 u7 : Value} (h : w.heap[g]? = some (.cells #[u0, u1, u2, u3, u4, u5, u6, u7] t (0, 0))) (v0 v1 v2 v3 v4 v5 v6 v7 : Value) : (put8 w g v0 v1 v2 v3 v4 v5 v6 v7).heap[g]? = some (.cells #[v0, v1, v2, v3, v4, v5, v6, v7] t (0, 0)) := by
  unfold put8
  refine blk_put (cs := #[v0, v1, v2, v3, v4, v5, v6, u7]) ?_ 7 v7 rfl
  refine blk_put (cs := #[v0, v1, v2, v3, v4, v5, u6, u7]) ?_ 6 v6 rfl
  refine blk_put (cs := #[v0, v1, v2, v3, v4, u5, u6, u7]) ?_ 5 v5 rfl
  refine blk_put (cs := #[v0, v1, v2, v3, u4, u5, u6, u7]) ?_ 4 v4 rfl
  refine blk_put (cs := #[v0, v1, v2, u3, u4, u5, u6, u7]) ?_ 3 v3 rfl
  refine blk_put (cs := #[v0, v1, u2, u3, u4, u5, u6, u7]) ?_ 2 v2 rfl
  refine blk_put (cs := #[v0, u1, u2, u3, u4, u5, u6, u7]) ?_ 1 v1 rfl
  refine blk_put (cs := #[u0, u1, u2, u3, u4, u5, u6, u7]) ?_ 0 v0 rfl
  exact h
theorem put8_grown (w : World) (g : Nat) (v0 v1 v2 v3 v4 v5 v6 v7 : Value) : w.grownBy (put8 w g v0 v1 v2 v3 v4 v5 v6 v7) (some g) :=
  (((((((grown_set w g 0 v0).trans (grown_set _ g 1 v1)).trans (grown_set _ g 2 v2)).trans (grown_set _ g 3 v3)).trans (grown_set _ g 4 v4)).trans (grown_set _ g 5 v5)).trans (grown_set _ g 6 v6)).trans (grown_set _ g 7 v7)
/-- A time as cells. -/
def tm (y mo d h mi s na a : Int) : Obj := .cells #[.int .i64 y, .int .i64 mo, .int .i64 d, .int .i64 h, .int .i64 mi, .int .i64 s, .int .i64 na, .int .i64 a] 44 (0, 0)
theorem app_cons_ {α : Type} (x : α) (l m : List α) : (x :: l).append m = x :: l.append m := rfl
theorem app_nil_ {α : Type} (m : List α) : ([] : List α).append m = m := rfl
/-- A drawn region that only reads, whose order was looked at once. -/
theorem wp_quiet_of {P : Program} {id : Nat} {Q : Exit → Act → World → Prop} {a : Act} {w : World} {l : List Oper} {ops0 : Array Oper} (hm : P.follows .mixedOrders = true) (e : ops0 = l.toArray) (hB : Region.lexB .any ops0 = true)
    (h : wpQuiet P l.toArray (fun w' => ∃ n, w' = w.drewN n) (fun a' => ∀ w', (∃ n, w' = w.drewN n) → Q .normal a' w') l a) : (Code.region id l.toArray true).wp P Q a w :=
  wp_region_quiet_lit hm (by rw [← e]; exact hB) h
/-- The days of a month. -/
def daysI (y m : Int) : Int := if m = 4 ∨ m = 6 ∨ m = 9 ∨ m = 11 then 30 else if m = 2 then (if Int.tmod y 4 = 0 then (if Int.tmod y 100 = 0 then (if Int.tmod y 400 = 0 then 29 else 28) else 29) else 28) else 31
end
section
open Go.BigFrame
set_option linter.unusedSimpArgs false
def TBad (w : World) (e : Ending) (w' : World) : Prop := e = .returned (.tuple #[.agg #[.int .i64 0, .int .i64 0, .int .i64 0, .int .i64 0, .int .i64 0, .int .i64 0, .int .i64 0, .int .i64 0], .bool false]) ∧ Below w.heap.size w w'
def TGood (w : World) (y mo d h mi s na a : Int) (e : Ending) (w' : World) : Prop := e = .returned (.tuple #[.agg #[.int .i64 y, .int .i64 mo, .int .i64 d, .int .i64 h, .int .i64 mi, .int .i64 s, .int .i64 na, .int .i64 a], .bool true]) ∧ Below w.heap.size w w'
set_option maxHeartbeats 8000000 in
set_option maxRecDepth 100000 in
theorem told_good (y mo d h mi s na a : Int)  (w : World) : Calls Try.prog 54 #[.agg #[.int .i64 y, .int .i64 mo, .int .i64 d, .int .i64 h, .int .i64 mi, .int .i64 s, .int .i64 na, .int .i64 a], .nilIface] w (TGood w y mo d h mi s na a) := by
  have hu72 := Try.underlying72
  have HB0 := Aside0.mk (Below.refl w.heap.size w)
  go_enter Try.func54, Try.ntmps54
  go_wp2_with (first
    | ((with_reducible refine gate_dst (N := 2) rfl ?_); refine box_event ?hg (N := 2) ?hd (cs := #[.int .i64 y, .int .i64 mo, .int .i64 d, .int .i64 h, .int .i64 mi, .int .i64 s, .int .i64 na, .int .i64 a]) (t := 87) ?hr ?_; (case hd => rfl); (case hg => rfl); (case hr => first | (go_simp; done) | (go_simp; rfl)); intro g1 hg w1 hbox hb; have BB1 := Aside0.mk hbox; have HB1 := Aside0.mk (below_step HB0.out hb); clear hbox hb hg)
    | ((with_reducible refine gate_dst (N := 4) rfl ?_); refine box_event ?hg (N := 4) ?hd (cs := #[.int .i64 0, .int .i64 0, .int .i64 0, .int .i64 0, .int .i64 0, .int .i64 0, .int .i64 0, .int .i64 0]) (t := 47) ?hr ?_; (case hd => rfl); (case hg => rfl); (case hr => first | (go_simp; done) | (go_simp; rfl)); intro g2 hg w2 hbox hb; have BB2 := Aside0.mk (blk_below BB1.out hb); have HB2 := Aside0.mk (below_step HB1.out hb); have BR2 := Aside0.mk hbox; have GR := Aside0.mk (show w.heap.size ≤ g2 by rw [hg]; exact below_size HB1.out); have cr0 := (blk_cell BR2.out 0).trans (show _ = some (.int .i64 0) from rfl); have crf0 := blk_frozen BR2.out 0; have cr1 := (blk_cell BR2.out 1).trans (show _ = some (.int .i64 0) from rfl); have crf1 := blk_frozen BR2.out 1; have cr2 := (blk_cell BR2.out 2).trans (show _ = some (.int .i64 0) from rfl); have crf2 := blk_frozen BR2.out 2; have cr3 := (blk_cell BR2.out 3).trans (show _ = some (.int .i64 0) from rfl); have crf3 := blk_frozen BR2.out 3; have cr4 := (blk_cell BR2.out 4).trans (show _ = some (.int .i64 0) from rfl); have crf4 := blk_frozen BR2.out 4; have cr5 := (blk_cell BR2.out 5).trans (show _ = some (.int .i64 0) from rfl); have crf5 := blk_frozen BR2.out 5; have cr6 := (blk_cell BR2.out 6).trans (show _ = some (.int .i64 0) from rfl); have crf6 := blk_frozen BR2.out 6; have cr7 := (blk_cell BR2.out 7).trans (show _ = some (.int .i64 0) from rfl); have crf7 := blk_frozen BR2.out 7; have ct0 := (blk_cell BB2.out 0).trans (show _ = some (.int .i64 y) from rfl); have ctf0 := blk_frozen BB2.out 0; have ct1 := (blk_cell BB2.out 1).trans (show _ = some (.int .i64 mo) from rfl); have ctf1 := blk_frozen BB2.out 1; have ct2 := (blk_cell BB2.out 2).trans (show _ = some (.int .i64 d) from rfl); have ctf2 := blk_frozen BB2.out 2; have ct3 := (blk_cell BB2.out 3).trans (show _ = some (.int .i64 h) from rfl); have ctf3 := blk_frozen BB2.out 3; have ct4 := (blk_cell BB2.out 4).trans (show _ = some (.int .i64 mi) from rfl); have ctf4 := blk_frozen BB2.out 4; have ct5 := (blk_cell BB2.out 5).trans (show _ = some (.int .i64 s) from rfl); have ctf5 := blk_frozen BB2.out 5; have ct6 := (blk_cell BB2.out 6).trans (show _ = some (.int .i64 na) from rfl); have ctf6 := blk_frozen BB2.out 6; have ct7 := (blk_cell BB2.out 7).trans (show _ = some (.int .i64 a) from rfl); have ctf7 := blk_frozen BB2.out 7; clear hbox hb hg)
    | ((with_reducible refine gate_store (t := 47) (p := 4) rfl ?_); refine store_event (t := 47) (p := 4) (v := ?vo4) (w1 := put8 w2 g2 (.int .i64 y) (.int .i64 mo) (.int .i64 d) (.int .i64 h) (.int .i64 mi) (.int .i64 s) (.int .i64 na) (.int .i64 a)) ?hg ?ho ?hn ?hr ?_; (case ho => rfl); (case hg => rfl); (case hn => rfl); (case hr => first | (go_simp; done) | (go_simp; rfl)); intro w9 hw; have BX := Aside0.mk (show w9.heap[g2]? = some (.cells #[.int .i64 y, .int .i64 mo, .int .i64 d, .int .i64 h, .int .i64 mi, .int .i64 s, .int .i64 na, .int .i64 a] 47 (0, 0)) from by rw [hw]; exact put8_blk BR2.out (.int .i64 y) (.int .i64 mo) (.int .i64 d) (.int .i64 h) (.int .i64 mi) (.int .i64 s) (.int .i64 na) (.int .i64 a)); have HX := Aside0.mk (show Below w.heap.size w w9 from by rw [hw]; exact HB2.out.grown (put8_grown w2 g2 (.int .i64 y) (.int .i64 mo) (.int .i64 d) (.int .i64 h) (.int .i64 mi) (.int .i64 s) (.int .i64 na) (.int .i64 a)) (below_size HB2.out) (fun q hq => by cases hq; exact GR.out)); clear hw))
  refine bodyPost_ret (results_ct rfl _ _ g2 47 #[.int .i64 y, .int .i64 mo, .int .i64 d, .int .i64 h, .int .i64 mi, .int .i64 s, .int .i64 na, .int .i64 a] (0, 0) _ rfl BX.out Try.underlying47 rfl (by kernel_rfl)) rfl ?_
  exact ⟨rfl, HX.out⟩
set_option maxHeartbeats 8000000 in
set_option maxRecDepth 100000 in
theorem told_bad (y mo d h mi s na a : Int) (T : TypeId) (x : Value) (w : World) : Calls Try.prog 54 #[.agg #[.int .i64 y, .int .i64 mo, .int .i64 d, .int .i64 h, .int .i64 mi, .int .i64 s, .int .i64 na, .int .i64 a], .iface T x] w (TBad w) := by
  have hu72 := Try.underlying72
  have HB0 := Aside0.mk (Below.refl w.heap.size w)
  go_enter Try.func54, Try.ntmps54
  go_wp2_with (first
    | ((with_reducible refine gate_dst (N := 2) rfl ?_); refine box_event ?hg (N := 2) ?hd (cs := #[.int .i64 y, .int .i64 mo, .int .i64 d, .int .i64 h, .int .i64 mi, .int .i64 s, .int .i64 na, .int .i64 a]) (t := 87) ?hr ?_; (case hd => rfl); (case hg => rfl); (case hr => first | (go_simp; done) | (go_simp; rfl)); intro g1 hg w1 hbox hb; have BB1 := Aside0.mk hbox; have HB1 := Aside0.mk (below_step HB0.out hb); clear hbox hb hg)
    | ((with_reducible refine gate_dst (N := 4) rfl ?_); refine box_event ?hg (N := 4) ?hd (cs := #[.int .i64 0, .int .i64 0, .int .i64 0, .int .i64 0, .int .i64 0, .int .i64 0, .int .i64 0, .int .i64 0]) (t := 47) ?hr ?_; (case hd => rfl); (case hg => rfl); (case hr => first | (go_simp; done) | (go_simp; rfl)); intro g2 hg w2 hbox hb; have BB2 := Aside0.mk (blk_below BB1.out hb); have HB2 := Aside0.mk (below_step HB1.out hb); have BR2 := Aside0.mk hbox; have GR := Aside0.mk (show w.heap.size ≤ g2 by rw [hg]; exact below_size HB1.out); have cr0 := (blk_cell BR2.out 0).trans (show _ = some (.int .i64 0) from rfl); have crf0 := blk_frozen BR2.out 0; have cr1 := (blk_cell BR2.out 1).trans (show _ = some (.int .i64 0) from rfl); have crf1 := blk_frozen BR2.out 1; have cr2 := (blk_cell BR2.out 2).trans (show _ = some (.int .i64 0) from rfl); have crf2 := blk_frozen BR2.out 2; have cr3 := (blk_cell BR2.out 3).trans (show _ = some (.int .i64 0) from rfl); have crf3 := blk_frozen BR2.out 3; have cr4 := (blk_cell BR2.out 4).trans (show _ = some (.int .i64 0) from rfl); have crf4 := blk_frozen BR2.out 4; have cr5 := (blk_cell BR2.out 5).trans (show _ = some (.int .i64 0) from rfl); have crf5 := blk_frozen BR2.out 5; have cr6 := (blk_cell BR2.out 6).trans (show _ = some (.int .i64 0) from rfl); have crf6 := blk_frozen BR2.out 6; have cr7 := (blk_cell BR2.out 7).trans (show _ = some (.int .i64 0) from rfl); have crf7 := blk_frozen BR2.out 7; have ct0 := (blk_cell BB2.out 0).trans (show _ = some (.int .i64 y) from rfl); have ctf0 := blk_frozen BB2.out 0; have ct1 := (blk_cell BB2.out 1).trans (show _ = some (.int .i64 mo) from rfl); have ctf1 := blk_frozen BB2.out 1; have ct2 := (blk_cell BB2.out 2).trans (show _ = some (.int .i64 d) from rfl); have ctf2 := blk_frozen BB2.out 2; have ct3 := (blk_cell BB2.out 3).trans (show _ = some (.int .i64 h) from rfl); have ctf3 := blk_frozen BB2.out 3; have ct4 := (blk_cell BB2.out 4).trans (show _ = some (.int .i64 mi) from rfl); have ctf4 := blk_frozen BB2.out 4; have ct5 := (blk_cell BB2.out 5).trans (show _ = some (.int .i64 s) from rfl); have ctf5 := blk_frozen BB2.out 5; have ct6 := (blk_cell BB2.out 6).trans (show _ = some (.int .i64 na) from rfl); have ctf6 := blk_frozen BB2.out 6; have ct7 := (blk_cell BB2.out 7).trans (show _ = some (.int .i64 a) from rfl); have ctf7 := blk_frozen BB2.out 7; clear hbox hb hg)
    | ((with_reducible refine gate_store (t := 47) (p := 4) rfl ?_); refine store_event (t := 47) (p := 4) (v := ?vo4) (w1 := put8 w2 g2 (.int .i64 0) (.int .i64 0) (.int .i64 0) (.int .i64 0) (.int .i64 0) (.int .i64 0) (.int .i64 0) (.int .i64 0)) ?hg ?ho ?hn ?hr ?_; (case ho => rfl); (case hg => rfl); (case hn => rfl); (case hr => first | (go_simp; done) | (go_simp; rfl)); intro w9 hw; have BX := Aside0.mk (show w9.heap[g2]? = some (.cells #[.int .i64 0, .int .i64 0, .int .i64 0, .int .i64 0, .int .i64 0, .int .i64 0, .int .i64 0, .int .i64 0] 47 (0, 0)) from by rw [hw]; exact put8_blk BR2.out (.int .i64 0) (.int .i64 0) (.int .i64 0) (.int .i64 0) (.int .i64 0) (.int .i64 0) (.int .i64 0) (.int .i64 0)); have HX := Aside0.mk (show Below w.heap.size w w9 from by rw [hw]; exact HB2.out.grown (put8_grown w2 g2 (.int .i64 0) (.int .i64 0) (.int .i64 0) (.int .i64 0) (.int .i64 0) (.int .i64 0) (.int .i64 0) (.int .i64 0)) (below_size HB2.out) (fun q hq => by cases hq; exact GR.out)); clear hw))
  refine bodyPost_ret (results_ct rfl _ _ g2 47 #[.int .i64 0, .int .i64 0, .int .i64 0, .int .i64 0, .int .i64 0, .int .i64 0, .int .i64 0, .int .i64 0] (0, 0) _ rfl BX.out Try.underlying47 rfl (by kernel_rfl)) rfl ?_
  exact ⟨rfl, HX.out⟩
end

section
open Go.BigFrame
set_option linter.unusedSimpArgs false
def NewErr (w : World) (e : Ending) (w' : World) : Prop := ∃ T x, e = .returned (.iface T x) ∧ Below w.heap.size w w'
set_option maxHeartbeats 1000000 in
theorem errors_New_any (s : ByteArray) (w : World) : Calls Try.prog 97 #[.string s] w (NewErr w) := by
  have hu := Try.underlying151
  go_enter Try.func97, Try.ntmps97
  go_wp2
  go_ret
  exact ⟨_, _, rfl, (Below.refl _ _).alloc (Nat.le_refl _) _⟩
def PBad (w : World) (e : Ending) (w' : World) : Prop := ∃ T x, e = .returned (.tuple #[.agg #[.int .i64 0, .int .i64 0, .int .i64 0, .int .i64 0, .int .i64 0, .int .i64 0, .int .i64 0, .int .i64 0], .iface T x]) ∧ Below w.heap.size w w'
def PGood (w : World) (y mo d h mi s na a : Int) (e : Ending) (w' : World) : Prop := e = .returned (.tuple #[.agg #[.int .i64 y, .int .i64 mo, .int .i64 d, .int .i64 h, .int .i64 mi, .int .i64 s, .int .i64 na, .int .i64 a], .nilIface]) ∧ Below w.heap.size w w'
end

/-! ### asn1_zzDigits: function 98 -/
def asn1_zzDigits.l0 : Nat → ByteArray → Int → Int → Int → Option (Int × ByteArray × Bool)
  | 0, _, _, _, _ => none
  | k + 1, x0, x1, x7, x8 => if x8 < x1 then (if 0 ≤ x8 then (if x8 < (x0.size : Int) then (if (bt x0 x8) < 48 then (some (0, x0, false)) else (if (bt x0 x8) > 57 then (some (0, x0, false)) else (asn1_zzDigits.l0 k x0 x1 (wrap64 ((wrap64 (x7 * 10)) + (((bt x0 x8) - 48) % 256))) (wrap64 (x8 + 1))))) else (none)) else (none)) else (if 0 ≤ x1 then (if x1 ≤ (x0.size : Int) then (some (x7, x0.extract (x1 : Int).toNat x0.size, true)) else (none)) else (none))
def asn1_zzDigits.f (k : Nat) (a0 : ByteArray) (a1 : Int) : Option (Int × ByteArray × Bool) := if (a0.size : Int) < a1 then (some (0, a0, false)) else (asn1_zzDigits.l0 k a0 a1 0 0)
theorem asn1_zzDigits.mono_l : ∀ k, (∀ y0 y1 y2 y3, LeO (asn1_zzDigits.l0 k y0 y1 y2 y3) (asn1_zzDigits.l0 (k + 1) y0 y1 y2 y3))
  | 0 => fun _ _ _ _ r h => by simp [asn1_zzDigits.l0] at h
  | k + 1 => by
    have ih0 := asn1_zzDigits.mono_l k
    · intro y0 y1 y2 y3
      unfold asn1_zzDigits.l0
      repeat' first
      | (with_reducible exact ih0 _ _ _ _)
      | (with_reducible exact LeO.refl _)
      | (with_reducible exact LeO.none _)
      | (with_reducible refine LeO.ite ?_ ?_)
      | (with_reducible refine LeO.bind ?_ (fun _ => ?_))
      | exact ih0 _ _ _ _
      | exact LeO.none _
      | refine LeO.ite ?_ ?_
      | refine LeO.bind ?_ (fun _ => ?_)
theorem asn1_zzDigits.mono : ∀ a0 a1 k, LeO (asn1_zzDigits.f k a0 a1) (asn1_zzDigits.f (k + 1) a0 a1) := by
  intro a0 a1 k
  have ih0 := asn1_zzDigits.mono_l k
  unfold asn1_zzDigits.f
  repeat' first
      | (with_reducible exact ih0 _ _ _ _)
      | (with_reducible exact LeO.refl _)
      | (with_reducible exact LeO.none _)
      | (with_reducible refine LeO.ite ?_ ?_)
      | (with_reducible refine LeO.bind ?_ (fun _ => ?_))
      | exact ih0 _ _ _ _
      | exact LeO.none _
      | refine LeO.ite ?_ ?_
      | refine LeO.bind ?_ (fun _ => ?_)
set_option maxHeartbeats 8000000 in
set_option maxRecDepth 100000 in
theorem asn1_zzDigits.calls (k : Nat) (a0 : ByteArray) (a1 : Int) (r1 : Int) (r2 : ByteArray) (r3 : Bool) (w : World) (h : asn1_zzDigits.f k a0 a1 = some (r1, r2, r3)) :
    Calls Try.prog 98 #[.string a0, .int .i64 a1] w fun e w' => e = .returned (.tuple #[.int .i64 r1, .string r2, .bool r3]) ∧ Drawn0 w w' := by
  have H : (if (a0.size : Int) < a1 then (some (0, a0, false)) else (asn1_zzDigits.l0 k a0 a1 0 0)) = some (r1, r2, r3) := h
  clear h
  by_cases c3 : (a0.size : Int) < a1
  · rw [if_pos c3] at H
    have c3b0 : decide ((a0.size : Int) < a1) = true := decide_eq_true c3
    clear c3
    simp only [Option.some.injEq, Prod.mk.injEq] at H
    obtain ⟨rfl, rfl, rfl⟩ := H
    go_enter Try.func98, Try.ntmps98
    go_wp2
    repeat (go_quiet (fail); try go_wp2)
    go_ret3
    exact ⟨by first | rfl | (simp; done) | (simp [*]; done), by repeat (first | exact Drawn0.refl _ | apply Drawn0.step)⟩
  · rw [if_neg c3] at H
    have c3b0 : decide ((a0.size : Int) < a1) = false := decide_eq_false c3
    clear c3
    have H' := Aside0.mk H
    clear H
    go_enter Try.func98, Try.ntmps98
    go_wp2
    repeat (go_quiet (fail); try go_wp2)
    go_loopg [7, 8] k (fun kq v7 v8 w' => ∃ (x7_1 : Int) (x8_1 : Int), v7 = .int .i64 x7_1 ∧ v8 = .int .i64 x8_1 ∧ Aside0 (asn1_zzDigits.l0 kq a0 a1 x7_1 x8_1 = some (r1, r2, r3)) ∧ Aside0 (kq ≤ k) ∧ Drawn0 w w')
    case atStart => exact ⟨(0), (0), (by first | rfl | (simp; done) | (simp [*]; done)), (by first | rfl | (simp; done) | (simp [*]; done)), H', ⟨Nat.le_refl _⟩, by repeat (first | exact Drawn0.refl _ | apply Drawn0.step)⟩
    case round =>
      clear H'
      try clear p2
      try clear c3
      try clear c3b0
      obtain ⟨x7_1, x8_1, rfl, rfl, HA, HK1, ⟨m1, rfl⟩⟩ := hrel
      cases gk with
      | zero => exact absurd HA.out (by simp [asn1_zzDigits.l0])
      | succ k1 =>
        have H := HA.out
        clear HA
        simp only [asn1_zzDigits.l0] at H
        by_cases c4 : x8_1 < a1
        · rw [if_pos c4] at H
          have c4b0 : decide (x8_1 < a1) = true := decide_eq_true c4
          clear c4
          by_cases c5 : 0 ≤ x8_1
          · rw [if_pos c5] at H
            have c5b0 : decide (0 ≤ x8_1) = true := decide_eq_true c5
            clear c5
            by_cases c6 : x8_1 < (a0.size : Int)
            · rw [if_pos c6] at H
              have c6b0 : decide (x8_1 < (a0.size : Int)) = true := decide_eq_true c6
              clear c6
              by_cases c8 : (bt a0 x8_1) < 48
              · rw [if_pos c8] at H
                have c8b0 : decide ((bt a0 x8_1) < 48) = true := decide_eq_true c8
                clear c8
                simp only [Option.some.injEq, Prod.mk.injEq] at H
                obtain ⟨rfl, rfl, rfl⟩ := H
                have p7 : 0 ≤ (x8_1 : Int) := of_decide_eq_true (by first | (with_reducible assumption) | assumption)
                have q7 : x8_1 < (a0.size : Int) := of_decide_eq_true (by first | (with_reducible assumption) | assumption)
                have hx7 := bt_at a0 x8_1
                replace p7 := eq_true p7
                replace q7 := eq_true q7
                go_wp2
                repeat (go_quiet (fail); try go_wp2)
                go_ret3
                exact ⟨by first | rfl | (simp; done) | (simp [*]; done), by repeat (first | exact Drawn0.refl _ | apply Drawn0.step)⟩
              · rw [if_neg c8] at H
                have c8b0 : decide ((bt a0 x8_1) < 48) = false := decide_eq_false c8
                clear c8
                by_cases c10 : (bt a0 x8_1) > 57
                · rw [if_pos c10] at H
                  have c10b0 : decide (57 < (bt a0 x8_1)) = true := decide_eq_true c10
                  clear c10
                  simp only [Option.some.injEq, Prod.mk.injEq] at H
                  obtain ⟨rfl, rfl, rfl⟩ := H
                  have p7 : 0 ≤ (x8_1 : Int) := of_decide_eq_true (by first | (with_reducible assumption) | assumption)
                  have q7 : x8_1 < (a0.size : Int) := of_decide_eq_true (by first | (with_reducible assumption) | assumption)
                  have hx7 := bt_at a0 x8_1
                  replace p7 := eq_true p7
                  replace q7 := eq_true q7
                  have p9 : 0 ≤ (x8_1 : Int) := of_decide_eq_true (by first | (with_reducible assumption) | assumption)
                  have q9 : x8_1 < (a0.size : Int) := of_decide_eq_true (by first | (with_reducible assumption) | assumption)
                  have hx9 := bt_at a0 x8_1
                  replace p9 := eq_true p9
                  replace q9 := eq_true q9
                  go_wp2
                  repeat (go_quiet (fail); try go_wp2)
                  go_ret3
                  exact ⟨by first | rfl | (simp; done) | (simp [*]; done), by repeat (first | exact Drawn0.refl _ | apply Drawn0.step)⟩
                · rw [if_neg c10] at H
                  have c10b0 : decide (57 < (bt a0 x8_1)) = false := decide_eq_false c10
                  clear c10
                  have H' := Aside0.mk H
                  clear H
                  have p7 : 0 ≤ (x8_1 : Int) := of_decide_eq_true (by first | (with_reducible assumption) | assumption)
                  have q7 : x8_1 < (a0.size : Int) := of_decide_eq_true (by first | (with_reducible assumption) | assumption)
                  have hx7 := bt_at a0 x8_1
                  replace p7 := eq_true p7
                  replace q7 := eq_true q7
                  have p9 : 0 ≤ (x8_1 : Int) := of_decide_eq_true (by first | (with_reducible assumption) | assumption)
                  have q9 : x8_1 < (a0.size : Int) := of_decide_eq_true (by first | (with_reducible assumption) | assumption)
                  have hx9 := bt_at a0 x8_1
                  replace p9 := eq_true p9
                  replace q9 := eq_true q9
                  have p11 : 0 ≤ (x8_1 : Int) := of_decide_eq_true (by first | (with_reducible assumption) | assumption)
                  have q11 : x8_1 < (a0.size : Int) := of_decide_eq_true (by first | (with_reducible assumption) | assumption)
                  have hx11 := bt_at a0 x8_1
                  replace p11 := eq_true p11
                  replace q11 := eq_true q11
                  go_wp2
                  repeat (go_quiet (fail); try go_wp2)
                  go_roundg k1
                  case measure => have := HK1.out; omega
                  case rel => exact ⟨(wrap64 ((wrap64 (x7_1 * 10)) + (((bt a0 x8_1) - 48) % 256))), (wrap64 (x8_1 + 1)), (by first | rfl | (simp; done) | (simp [*]; done)), (by first | rfl | (simp; done) | (simp [*]; done)), H', ⟨by have := HK1.out; omega⟩, by repeat (first | exact Drawn0.refl _ | apply Drawn0.step)⟩
            · rw [if_neg c6] at H
              exact absurd H (by simp)
          · rw [if_neg c5] at H
            exact absurd H (by simp)
        · rw [if_neg c4] at H
          have c4b0 : decide (x8_1 < a1) = false := decide_eq_false c4
          clear c4
          by_cases c12 : 0 ≤ a1
          · rw [if_pos c12] at H
            have c12b0 := eq_true c12
            have c12b1 : decide (0 ≤ a1) = true := decide_eq_true c12
            clear c12
            by_cases c13 : a1 ≤ (a0.size : Int)
            · rw [if_pos c13] at H
              have c13b0 := eq_true c13
              have c13b1 : decide (a1 ≤ (a0.size : Int)) = true := decide_eq_true c13
              clear c13
              simp only [Option.some.injEq, Prod.mk.injEq] at H
              obtain ⟨rfl, rfl, rfl⟩ := H
              go_wp2
              repeat (go_quiet (fail); try go_wp2)
              go_ret3
              exact ⟨by first | rfl | (simp; done) | (simp [*]; done), by repeat (first | exact Drawn0.refl _ | apply Drawn0.step)⟩
            · rw [if_neg c13] at H
              exact absurd H (by simp)
          · rw [if_neg c12] at H
            exact absurd H (by simp)

section
open Go.BigFrame
set_option linter.unusedSimpArgs false
def d1 (s : ByteArray) (i : Int) : Bool := decide (48 ≤ bt s i) && decide (bt s i ≤ 57)
def dg2 (s : ByteArray) : Bool := decide (2 ≤ s.size) && d1 s 0 && d1 s 1
def dv2 (s : ByteArray) : Int := 10 * (bt s 0 - 48) + (bt s 1 - 48)
def dr2 (s : ByteArray) : ByteArray := s.extract 2 s.size
def dg4 (s : ByteArray) : Bool := decide (4 ≤ s.size) && d1 s 0 && d1 s 1 && d1 s 2 && d1 s 3
def dv4 (s : ByteArray) : Int := 1000 * (bt s 0 - 48) + 100 * (bt s 1 - 48) + 10 * (bt s 2 - 48) + (bt s 3 - 48)
def dr4 (s : ByteArray) : ByteArray := s.extract 4 s.size
theorem dv2_range {s : ByteArray} (h : dg2 s = true) : 0 ≤ dv2 s ∧ dv2 s ≤ 99 := by
  simp only [dg2, d1, Bool.and_eq_true, decide_eq_true_eq] at h
  unfold dv2
  omega
theorem dv4_range {s : ByteArray} (h : dg4 s = true) : 0 ≤ dv4 s ∧ dv4 s ≤ 9999 := by
  simp only [dg4, d1, Bool.and_eq_true, decide_eq_true_eq] at h
  unfold dv4
  omega
theorem digits_step {k : Nat} {s : ByteArray} {n x i : Int} (hi : i < n) (h0 : 0 ≤ i) (hs : i < (s.size : Int)) (h48 : 48 ≤ bt s i) (h57 : bt s i ≤ 57) (hx : 0 ≤ x) (hx2 : x ≤ 100000) (hi2 : i ≤ 10) :
    asn1_zzDigits.l0 (k + 1) s n x i = asn1_zzDigits.l0 k s n (x * 10 + (bt s i - 48)) (i + 1) := by
  conv => lhs; simp only [asn1_zzDigits.l0]
  rw [if_pos hi, if_pos h0, if_pos hs, if_neg (by omega), if_neg (by omega)]
  rw [show (bt s i - 48) % 256 = bt s i - 48 by omega, show wrap64 (x * 10) = x * 10 by unfold wrap64; omega, show wrap64 (x * 10 + (bt s i - 48)) = x * 10 + (bt s i - 48) by unfold wrap64; omega, show wrap64 (i + 1) = i + 1 by unfold wrap64; omega]
theorem digits_low {k : Nat} {s : ByteArray} {n x i : Int} (hi : i < n) (h0 : 0 ≤ i) (hs : i < (s.size : Int)) (h : d1 s i = false) : asn1_zzDigits.l0 (k + 1) s n x i = some (0, s, false) := by
  simp only [asn1_zzDigits.l0]
  rw [if_pos hi, if_pos h0, if_pos hs]
  by_cases h48 : bt s i < 48
  · rw [if_pos h48]
  · rw [if_neg h48, if_pos (by simp [d1] at h; omega)]
theorem digits_end {k : Nat} {s : ByteArray} {n x : Int} (h0 : 0 ≤ n) (hs : n ≤ (s.size : Int)) : asn1_zzDigits.l0 (k + 1) s n x n = some (x, s.extract n.toNat s.size, true) := by
  simp only [asn1_zzDigits.l0]
  rw [if_neg (by omega), if_pos h0, if_pos hs]
theorem d1_pos {s : ByteArray} {i : Int} (h : d1 s i = true) : 48 ≤ bt s i ∧ bt s i ≤ 57 := by simpa [d1] using h
theorem digits2_yes {s : ByteArray} (k : Nat) (h : dg2 s = true) : asn1_zzDigits.f (k + 3) s 2 = some (dv2 s, dr2 s, true) := by
  simp only [dg2, Bool.and_eq_true, decide_eq_true_eq] at h
  obtain ⟨⟨hs, h0⟩, h1⟩ := h
  have a0 := d1_pos h0
  have a1 := d1_pos h1
  unfold asn1_zzDigits.f
  rw [if_neg (by omega), digits_step (by omega) (by omega) (by omega) a0.1 a0.2 (by omega) (by omega) (by omega)]
  rw [show (0 + 1 : Int) = 1 from rfl, digits_step (by omega) (by omega) (by omega) a1.1 a1.2 (by omega) (by omega) (by omega)]
  rw [show (1 + 1 : Int) = 2 from rfl, digits_end (by omega) (by omega)]
  unfold dv2 dr2
  refine congrArg some (Prod.ext ?_ rfl)
  simp only
  omega
theorem digits2_no {s : ByteArray} (k : Nat) (h : dg2 s = false) : asn1_zzDigits.f (k + 3) s 2 = some (0, s, false) := by
  unfold asn1_zzDigits.f
  by_cases hs : (s.size : Int) < 2
  · rw [if_pos hs]
  · rw [if_neg hs]
    cases h0 : d1 s 0 with
    | false => exact digits_low (by omega) (by omega) (by omega) h0
    | true =>
      have a0 := d1_pos h0
      rw [digits_step (by omega) (by omega) (by omega) a0.1 a0.2 (by omega) (by omega) (by omega)]
      cases h1 : d1 s 1 with
      | false => exact digits_low (by omega) (by omega) (by omega) h1
      | true => exact absurd h (by simp [dg2, h0, h1]; omega)
theorem digits4_yes {s : ByteArray} (k : Nat) (h : dg4 s = true) : asn1_zzDigits.f (k + 5) s 4 = some (dv4 s, dr4 s, true) := by
  simp only [dg4, Bool.and_eq_true, decide_eq_true_eq] at h
  obtain ⟨⟨⟨⟨hs, h0⟩, h1⟩, h2⟩, h3⟩ := h
  have a0 := d1_pos h0
  have a1 := d1_pos h1
  have a2 := d1_pos h2
  have a3 := d1_pos h3
  unfold asn1_zzDigits.f
  rw [if_neg (by omega), digits_step (by omega) (by omega) (by omega) a0.1 a0.2 (by omega) (by omega) (by omega)]
  rw [show (0 + 1 : Int) = 1 from rfl, digits_step (by omega) (by omega) (by omega) a1.1 a1.2 (by omega) (by omega) (by omega)]
  rw [show (1 + 1 : Int) = 2 from rfl, digits_step (by omega) (by omega) (by omega) a2.1 a2.2 (by omega) (by omega) (by omega)]
  rw [show (2 + 1 : Int) = 3 from rfl, digits_step (by omega) (by omega) (by omega) a3.1 a3.2 (by omega) (by omega) (by omega)]
  rw [show (3 + 1 : Int) = 4 from rfl, digits_end (by omega) (by omega)]
  unfold dv4 dr4
  refine congrArg some (Prod.ext ?_ rfl)
  simp only
  omega
theorem digits4_no {s : ByteArray} (k : Nat) (h : dg4 s = false) : asn1_zzDigits.f (k + 5) s 4 = some (0, s, false) := by
  unfold asn1_zzDigits.f
  by_cases hs : (s.size : Int) < 4
  · rw [if_pos hs]
  · rw [if_neg hs]
    cases h0 : d1 s 0 with
    | false => exact digits_low (by omega) (by omega) (by omega) h0
    | true =>
      have a0 := d1_pos h0
      rw [digits_step (by omega) (by omega) (by omega) a0.1 a0.2 (by omega) (by omega) (by omega)]
      cases h1 : d1 s 1 with
      | false => exact digits_low (by omega) (by omega) (by omega) h1
      | true =>
        have a1 := d1_pos h1
        rw [show (0 + 1 : Int) = 1 from rfl, digits_step (by omega) (by omega) (by omega) a1.1 a1.2 (by omega) (by omega) (by omega)]
        cases h2 : d1 s 2 with
        | false => exact digits_low (by omega) (by omega) (by omega) h2
        | true =>
          have a2 := d1_pos h2
          rw [show (1 + 1 : Int) = 2 from rfl, digits_step (by omega) (by omega) (by omega) a2.1 a2.2 (by omega) (by omega) (by omega)]
          cases h3 : d1 s 3 with
          | false => exact digits_low (by omega) (by omega) (by omega) h3
          | true => exact absurd h (by simp [dg4, h0, h1, h2, h3]; omega)
theorem dig2_yes (s : ByteArray) (w : World) (h : dg2 s = true) : Calls Try.prog 98 #[.string s, .int .i64 2] w fun e w' => e = .returned (.tuple #[.int .i64 (dv2 s), .string (dr2 s), .bool true]) ∧ Drawn0 w w' := asn1_zzDigits.calls _ s 2 _ _ _ w (digits2_yes 0 h)
theorem dig2_no (s : ByteArray) (w : World) (h : dg2 s = false) : Calls Try.prog 98 #[.string s, .int .i64 2] w fun e w' => e = .returned (.tuple #[.int .i64 0, .string s, .bool false]) ∧ Drawn0 w w' := asn1_zzDigits.calls _ s 2 _ _ _ w (digits2_no 0 h)
theorem dig4_yes (s : ByteArray) (w : World) (h : dg4 s = true) : Calls Try.prog 98 #[.string s, .int .i64 4] w fun e w' => e = .returned (.tuple #[.int .i64 (dv4 s), .string (dr4 s), .bool true]) ∧ Drawn0 w w' := asn1_zzDigits.calls _ s 4 _ _ _ w (digits4_yes 0 h)
theorem dig4_no (s : ByteArray) (w : World) (h : dg4 s = false) : Calls Try.prog 98 #[.string s, .int .i64 4] w fun e w' => e = .returned (.tuple #[.int .i64 0, .string s, .bool false]) ∧ Drawn0 w w' := asn1_zzDigits.calls _ s 4 _ _ _ w (digits4_no 0 h)
end

/-! ### asn1_zzDays: function 106 -/
def asn1_zzDays.f (a0 : Int) (a1 : Int) : Option (Int) := if a1 = 2 then (if (Int.tmod a0 4) = 0 then (if (Int.tmod a0 100) = 0 then (if (Int.tmod a0 400) = 0 then (some 29) else (some 28)) else (some 29)) else (some 28)) else (if a1 = 4 then (some 30) else (if a1 = 6 then (some 30) else (if a1 = 9 then (some 30) else (if a1 = 11 then (some 30) else (some 31)))))
set_option maxHeartbeats 8000000 in
set_option maxRecDepth 100000 in
theorem asn1_zzDays.calls (a0 : Int) (a1 : Int) (r : Int) (w : World) (h : asn1_zzDays.f a0 a1 = some r) :
    Calls Try.prog 106 #[.int .i64 a0, .int .i64 a1] w fun e w' => e = .returned (.int .i64 r) ∧ Drawn0 w w' := by
  have H : (if a1 = 2 then (if (Int.tmod a0 4) = 0 then (if (Int.tmod a0 100) = 0 then (if (Int.tmod a0 400) = 0 then (some 29) else (some 28)) else (some 29)) else (some 28)) else (if a1 = 4 then (some 30) else (if a1 = 6 then (some 30) else (if a1 = 9 then (some 30) else (if a1 = 11 then (some 30) else (some 31)))))) = some r := h
  clear h
  by_cases c3 : a1 = 2
  · rw [if_pos c3] at H
    have c3b0 : (a1 == 2) = true := beq_iff_eq.mpr c3
    have c3b1 : (a1 != 2) = false := bne_eq_false_iff_eq.mpr c3
    clear c3
    by_cases c4 : (Int.tmod a0 4) = 0
    · rw [if_pos c4] at H
      have c4b0 : ((Int.tmod a0 4) == 0) = true := beq_iff_eq.mpr c4
      have c4b1 : ((Int.tmod a0 4) != 0) = false := bne_eq_false_iff_eq.mpr c4
      clear c4
      by_cases c5 : (Int.tmod a0 100) = 0
      · rw [if_pos c5] at H
        have c5b0 : ((Int.tmod a0 100) == 0) = true := beq_iff_eq.mpr c5
        have c5b1 : ((Int.tmod a0 100) != 0) = false := bne_eq_false_iff_eq.mpr c5
        clear c5
        by_cases c6 : (Int.tmod a0 400) = 0
        · rw [if_pos c6] at H
          have c6b0 : ((Int.tmod a0 400) == 0) = true := beq_iff_eq.mpr c6
          have c6b1 : ((Int.tmod a0 400) != 0) = false := bne_eq_false_iff_eq.mpr c6
          clear c6
          obtain rfl := Option.some.inj H
          go_enter Try.func106, Try.ntmps106
          go_wp2
          go_ret
          exact ⟨by first | rfl | (simp; done) | (simp [*]; done), by repeat (first | exact Drawn0.refl _ | apply Drawn0.step)⟩
        · rw [if_neg c6] at H
          have c6b0 : ((Int.tmod a0 400) == 0) = false := beq_eq_false_iff_ne.mpr c6
          have c6b1 : ((Int.tmod a0 400) != 0) = true := bne_iff_ne.mpr c6
          obtain rfl := Option.some.inj H
          go_enter Try.func106, Try.ntmps106
          go_wp2
          go_ret
          exact ⟨by first | rfl | (simp; done) | (simp [*]; done), by repeat (first | exact Drawn0.refl _ | apply Drawn0.step)⟩
      · rw [if_neg c5] at H
        have c5b0 : ((Int.tmod a0 100) == 0) = false := beq_eq_false_iff_ne.mpr c5
        have c5b1 : ((Int.tmod a0 100) != 0) = true := bne_iff_ne.mpr c5
        obtain rfl := Option.some.inj H
        go_enter Try.func106, Try.ntmps106
        go_wp2
        go_ret
        exact ⟨by first | rfl | (simp; done) | (simp [*]; done), by repeat (first | exact Drawn0.refl _ | apply Drawn0.step)⟩
    · rw [if_neg c4] at H
      have c4b0 : ((Int.tmod a0 4) == 0) = false := beq_eq_false_iff_ne.mpr c4
      have c4b1 : ((Int.tmod a0 4) != 0) = true := bne_iff_ne.mpr c4
      obtain rfl := Option.some.inj H
      go_enter Try.func106, Try.ntmps106
      go_wp2
      go_ret
      exact ⟨by first | rfl | (simp; done) | (simp [*]; done), by repeat (first | exact Drawn0.refl _ | apply Drawn0.step)⟩
  · rw [if_neg c3] at H
    have c3b0 : (a1 == 2) = false := beq_eq_false_iff_ne.mpr c3
    have c3b1 : (a1 != 2) = true := bne_iff_ne.mpr c3
    by_cases c7 : a1 = 4
    · rw [if_pos c7] at H
      have c7b0 : (a1 == 4) = true := beq_iff_eq.mpr c7
      have c7b1 : (a1 != 4) = false := bne_eq_false_iff_eq.mpr c7
      clear c7
      obtain rfl := Option.some.inj H
      go_enter Try.func106, Try.ntmps106
      go_wp2
      go_ret
      exact ⟨by first | rfl | (simp; done) | (simp [*]; done), by repeat (first | exact Drawn0.refl _ | apply Drawn0.step)⟩
    · rw [if_neg c7] at H
      have c7b0 : (a1 == 4) = false := beq_eq_false_iff_ne.mpr c7
      have c7b1 : (a1 != 4) = true := bne_iff_ne.mpr c7
      by_cases c8 : a1 = 6
      · rw [if_pos c8] at H
        have c8b0 : (a1 == 6) = true := beq_iff_eq.mpr c8
        have c8b1 : (a1 != 6) = false := bne_eq_false_iff_eq.mpr c8
        clear c8
        obtain rfl := Option.some.inj H
        go_enter Try.func106, Try.ntmps106
        go_wp2
        go_ret
        exact ⟨by first | rfl | (simp; done) | (simp [*]; done), by repeat (first | exact Drawn0.refl _ | apply Drawn0.step)⟩
      · rw [if_neg c8] at H
        have c8b0 : (a1 == 6) = false := beq_eq_false_iff_ne.mpr c8
        have c8b1 : (a1 != 6) = true := bne_iff_ne.mpr c8
        by_cases c9 : a1 = 9
        · rw [if_pos c9] at H
          have c9b0 : (a1 == 9) = true := beq_iff_eq.mpr c9
          have c9b1 : (a1 != 9) = false := bne_eq_false_iff_eq.mpr c9
          clear c9
          obtain rfl := Option.some.inj H
          go_enter Try.func106, Try.ntmps106
          go_wp2
          go_ret
          exact ⟨by first | rfl | (simp; done) | (simp [*]; done), by repeat (first | exact Drawn0.refl _ | apply Drawn0.step)⟩
        · rw [if_neg c9] at H
          have c9b0 : (a1 == 9) = false := beq_eq_false_iff_ne.mpr c9
          have c9b1 : (a1 != 9) = true := bne_iff_ne.mpr c9
          by_cases c10 : a1 = 11
          · rw [if_pos c10] at H
            have c10b0 : (a1 == 11) = true := beq_iff_eq.mpr c10
            have c10b1 : (a1 != 11) = false := bne_eq_false_iff_eq.mpr c10
            clear c10
            obtain rfl := Option.some.inj H
            go_enter Try.func106, Try.ntmps106
            go_wp2
            go_ret
            exact ⟨by first | rfl | (simp; done) | (simp [*]; done), by repeat (first | exact Drawn0.refl _ | apply Drawn0.step)⟩
          · rw [if_neg c10] at H
            have c10b0 : (a1 == 11) = false := beq_eq_false_iff_ne.mpr c10
            have c10b1 : (a1 != 11) = true := bne_iff_ne.mpr c10
            obtain rfl := Option.some.inj H
            go_enter Try.func106, Try.ntmps106
            go_wp2
            go_ret
            exact ⟨by first | rfl | (simp; done) | (simp [*]; done), by repeat (first | exact Drawn0.refl _ | apply Drawn0.step)⟩

section
open Go.BigFrame
set_option linter.unusedSimpArgs false
theorem zzDays_eq (y m : Int) : asn1_zzDays.f y m = some (daysI y m) := by
  unfold asn1_zzDays.f daysI
  by_cases h4 : m = 4
  · simp [h4]
  by_cases h6 : m = 6
  · simp [h6]
  by_cases h9 : m = 9
  · simp [h9]
  by_cases h11 : m = 11
  · simp [h11]
  by_cases h2 : m = 2
  · simp [h2]
    repeat' split
    all_goals rfl
  · simp [h4, h6, h9, h11, h2]
theorem days3_any (y m : Int) (w : World) : Calls Try.prog 106 #[.int .i64 y, .int .i64 m] w fun e w' => e = .returned (.int .i64 (daysI y m)) ∧ Drawn0 w w' := asn1_zzDays.calls y m _ w (zzDays_eq y m)
end

end Go.Proofs.Ytmiemfgcggkbnaa.QP2
