-- Written by a program of this work (wip/patch_print.py) for this claim.
import Derived.Test.YtmiemfgcggkbnaaQSx0
import Derived.Test.YtmiemfgcggkbnaaQSx1
namespace Go.Proofs.Ytmiemfgcggkbnaa.QS
open Go.RowKit Go.Proofs.YtmiemfgcggkbnaaW.PrintWords Go.Proofs.YtmiemfgcggkbnaaW.PrintLast Go.Proofs.YtmiemfgcggkbnaaW.PrintMore
attribute [local go_sem] max2_int min2_int max_two min_two max_three min_three max_four min_four   -- for this text's walks alone
set_option linter.unusedVariables false
set_option linter.unusedSimpArgs false

/-! ### spec_Header: function 14 -/
mutual
def spec_Header.j0 : Nat → List Int → Int → Int → Int → Int → Bool → Option (Int × Int × Int × Bool × Int × Bool)
  | 0, _, _, _, _, _, _ => none
  | k + 1, x0, x1, x110000, x110001, x110002, x110003 => if x1 ≥ (x0.length : Int) then (some (0, 0, 0, false, 0, false)) else (if 0 ≤ x1 then (if x1 < (x0.length : Int) then (if (wrap64 (rd x0 x1)) < 128 then (some (x110000, x110001, wrap64 (rd x0 x1), x110003, wrap64 (x1 + 1), true)) else (if (Go.bits .and .i64 (wrap64 (rd x0 x1)) 127) = 0 then (spec_Header.j1 k x0 (wrap64 (x1 + 1)) (Go.bits .and .i64 (wrap64 (rd x0 x1)) 127) true x110000 x110001 x110002 x110003) else (spec_Header.j1 k x0 (wrap64 (x1 + 1)) (Go.bits .and .i64 (wrap64 (rd x0 x1)) 127) (decide ((Go.bits .and .i64 (wrap64 (rd x0 x1)) 127) > (wrap64 ((x0.length : Int) - (wrap64 (x1 + 1)))))) x110000 x110001 x110002 x110003))) else (none)) else (none))
def spec_Header.j1 : Nat → List Int → Int → Int → Bool → Int → Int → Int → Bool → Option (Int × Int × Int × Bool × Int × Bool)
  | 0, _, _, _, _, _, _, _, _ => none
  | k + 1, x0, x1, x12, x89, x110000, x110001, x110002, x110003 => if x89 = true then (some (0, 0, 0, false, 0, false)) else (spec_Header.l0 k x0 x1 x12 0 x110000 x110001 x110002 x110003)
def spec_Header.l0 : Nat → List Int → Int → Int → Int → Int → Int → Int → Bool → Option (Int × Int × Int × Bool × Int × Bool)
  | 0, _, _, _, _, _, _, _, _ => none
  | k + 1, x0, x1, x91, x92, x110000, x110001, x110002, x110003 => if x92 < x91 then (if x92 = 0 then (if 0 ≤ x1 then (if x1 < (x0.length : Int) then (if (rd x0 x1) = 0 then (some (0, 0, 0, false, 0, false)) else (if x110002 ≥ 8388608 then (some (0, 0, 0, false, 0, false)) else (spec_Header.l0 k x0 (wrap64 (x1 + 1)) x91 (wrap64 (x92 + 1)) x110000 x110001 (Go.bits .or .i64 (wrap64 (x110002 * 256)) (wrap64 (rd x0 x1))) x110003))) else (none)) else (none)) else (if x110002 ≥ 8388608 then (some (0, 0, 0, false, 0, false)) else (if 0 ≤ x1 then (if x1 < (x0.length : Int) then (spec_Header.l0 k x0 (wrap64 (x1 + 1)) x91 (wrap64 (x92 + 1)) x110000 x110001 (Go.bits .or .i64 (wrap64 (x110002 * 256)) (wrap64 (rd x0 x1))) x110003) else (none)) else (none)))) else (some (x110000, x110001, x110002, x110003, x1, decide (x110002 ≥ 128)))
end
def spec_Header.f (k : Nat) (l0 : List Int) (a1 : Int) : Option (Int × Int × Int × Bool × Int × Bool) := if a1 ≥ (l0.length : Int) then (some (0, 0, 0, false, 0, false)) else (if 0 ≤ a1 then (if a1 < (l0.length : Int) then (if (wrap64 (Go.bits .and .u8 (rd l0 a1) 31)) = 31 then ((spec_Base128.f k l0 (wrap64 (a1 + 1))).bind fun bt110 => (if bt110.2.2 = true then (if bt110.1 < 31 then (some (0, 0, 0, false, 0, false)) else (spec_Header.j0 k l0 bt110.2.1 (wrap64 ((rd l0 a1) / 64)) bt110.1 0 ((Go.bits .and .u8 (rd l0 a1) 32) != 0))) else (some (0, 0, 0, false, 0, false)))) else (spec_Header.j0 k l0 (wrap64 (a1 + 1)) (wrap64 ((rd l0 a1) / 64)) (wrap64 (Go.bits .and .u8 (rd l0 a1) 31)) 0 ((Go.bits .and .u8 (rd l0 a1) 32) != 0))) else (none)) else (none))
theorem spec_Header.mono_l : ∀ k, (∀ y0 y1 y2 y3 y4 y5, LeO (spec_Header.j0 k y0 y1 y2 y3 y4 y5) (spec_Header.j0 (k + 1) y0 y1 y2 y3 y4 y5)) ∧ (∀ y0 y1 y2 y3 y4 y5 y6 y7, LeO (spec_Header.j1 k y0 y1 y2 y3 y4 y5 y6 y7) (spec_Header.j1 (k + 1) y0 y1 y2 y3 y4 y5 y6 y7)) ∧ (∀ y0 y1 y2 y3 y4 y5 y6 y7, LeO (spec_Header.l0 k y0 y1 y2 y3 y4 y5 y6 y7) (spec_Header.l0 (k + 1) y0 y1 y2 y3 y4 y5 y6 y7))
  | 0 => ⟨fun _ _ _ _ _ _ r h => by simp [spec_Header.j0] at h, fun _ _ _ _ _ _ _ _ r h => by simp [spec_Header.j1] at h, fun _ _ _ _ _ _ _ _ r h => by simp [spec_Header.l0] at h⟩
  | k + 1 => by
    obtain ⟨ih0, ih1, ih2⟩ := spec_Header.mono_l k
    refine ⟨?_, ?_, ?_⟩
    · intro y0 y1 y2 y3 y4 y5
      unfold spec_Header.j0
      repeat' first
      | (with_reducible exact ih0 _ _ _ _ _ _)
      | (with_reducible exact ih1 _ _ _ _ _ _ _ _)
      | (with_reducible exact ih2 _ _ _ _ _ _ _ _)
      | (with_reducible exact spec_Base128.mono _ _ _)
      | (with_reducible exact LeO.refl _)
      | (with_reducible exact LeO.none _)
      | (with_reducible refine LeO.ite ?_ ?_)
      | (with_reducible refine LeO.bind ?_ (fun _ => ?_))
      | exact ih0 _ _ _ _ _ _
      | exact ih1 _ _ _ _ _ _ _ _
      | exact ih2 _ _ _ _ _ _ _ _
      | exact spec_Base128.mono _ _ _
      | exact LeO.none _
      | refine LeO.ite ?_ ?_
      | refine LeO.bind ?_ (fun _ => ?_)
    · intro y0 y1 y2 y3 y4 y5 y6 y7
      unfold spec_Header.j1
      repeat' first
      | (with_reducible exact ih0 _ _ _ _ _ _)
      | (with_reducible exact ih1 _ _ _ _ _ _ _ _)
      | (with_reducible exact ih2 _ _ _ _ _ _ _ _)
      | (with_reducible exact spec_Base128.mono _ _ _)
      | (with_reducible exact LeO.refl _)
      | (with_reducible exact LeO.none _)
      | (with_reducible refine LeO.ite ?_ ?_)
      | (with_reducible refine LeO.bind ?_ (fun _ => ?_))
      | exact ih0 _ _ _ _ _ _
      | exact ih1 _ _ _ _ _ _ _ _
      | exact ih2 _ _ _ _ _ _ _ _
      | exact spec_Base128.mono _ _ _
      | exact LeO.none _
      | refine LeO.ite ?_ ?_
      | refine LeO.bind ?_ (fun _ => ?_)
    · intro y0 y1 y2 y3 y4 y5 y6 y7
      unfold spec_Header.l0
      repeat' first
      | (with_reducible exact ih0 _ _ _ _ _ _)
      | (with_reducible exact ih1 _ _ _ _ _ _ _ _)
      | (with_reducible exact ih2 _ _ _ _ _ _ _ _)
      | (with_reducible exact spec_Base128.mono _ _ _)
      | (with_reducible exact LeO.refl _)
      | (with_reducible exact LeO.none _)
      | (with_reducible refine LeO.ite ?_ ?_)
      | (with_reducible refine LeO.bind ?_ (fun _ => ?_))
      | exact ih0 _ _ _ _ _ _
      | exact ih1 _ _ _ _ _ _ _ _
      | exact ih2 _ _ _ _ _ _ _ _
      | exact spec_Base128.mono _ _ _
      | exact LeO.none _
      | refine LeO.ite ?_ ?_
      | refine LeO.bind ?_ (fun _ => ?_)
theorem spec_Header.mono : ∀ a0 a1 k, LeO (spec_Header.f k a0 a1) (spec_Header.f (k + 1) a0 a1) := by
  intro a0 a1 k
  obtain ⟨ih0, ih1, ih2⟩ := spec_Header.mono_l k
  unfold spec_Header.f
  repeat' first
      | (with_reducible exact ih0 _ _ _ _ _ _)
      | (with_reducible exact ih1 _ _ _ _ _ _ _ _)
      | (with_reducible exact ih2 _ _ _ _ _ _ _ _)
      | (with_reducible exact spec_Base128.mono _ _ _)
      | (with_reducible exact LeO.refl _)
      | (with_reducible exact LeO.none _)
      | (with_reducible refine LeO.ite ?_ ?_)
      | (with_reducible refine LeO.bind ?_ (fun _ => ?_))
      | exact ih0 _ _ _ _ _ _
      | exact ih1 _ _ _ _ _ _ _ _
      | exact ih2 _ _ _ _ _ _ _ _
      | exact spec_Base128.mono _ _ _
      | exact LeO.none _
      | refine LeO.ite ?_ ?_
      | refine LeO.bind ?_ (fun _ => ?_)
def spec_Header.T3 : Bool × List (List Nat × List Nat) := (true, [([], []), ([], []), ([0, 1], [0, 1]), ([2], [2]), ([3], [3]), ([4], [4]), ([], []), ([], []), ([6, 7], [6, 7]), ([8], [8]), ([9], [9]), ([10], [10]), ([], []), ([], []), ([12, 13], [12, 13]), ([14], [14]), ([15], [15]), ([16], [16]), ([5, 11, 17], [5, 11, 17]), ([], []), ([19, 18, 0, 1, 2, 3, 4, 5, 6, 7, 8, 9, 10, 11, 12, 13, 14, 15, 16, 17, 18, 19], [18, 19])])
def spec_Header.B3 : List Nat := [0, 0, 3, 7, 15, 31, 0, 0, 192, 448, 960, 1984, 0, 0, 12288, 28672, 61440, 126976, 262143, 0, 1048575]
theorem spec_Header.tab3 : rtab .any (opsOf Try.f14 3) = spec_Header.T3 := by kernel_rfl
theorem spec_Header.bits3 : waitsOk spec_Header.T3.2 spec_Header.B3 = true := by kernel_rfl
def spec_Header.T25 : Bool × List (List Nat × List Nat) := (true, [([], []), ([0], [0]), ([1], [1]), ([], []), ([], []), ([3, 4], [3, 4]), ([5], [5]), ([6], [6]), ([2, 7], [2, 7]), ([0, 1, 2, 3, 4, 5, 6, 7, 8], []), ([9, 8, 0, 1, 2, 3, 4, 5, 6, 7, 8], [8, 9])])
def spec_Header.B25 : List Nat := [0, 1, 3, 0, 0, 24, 56, 120, 255, 511, 1023]
theorem spec_Header.tab25 : rtab .any (opsOf Try.f14 25) = spec_Header.T25 := by kernel_rfl
theorem spec_Header.bits25 : waitsOk spec_Header.T25.2 spec_Header.B25 = true := by kernel_rfl
def spec_Header.T28 : Bool × List (List Nat × List Nat) := (true, [([], []), ([], []), ([], []), ([2], [2]), ([3], [3]), ([0, 0], [0]), ([1, 5, 0, 1, 5], [1]), ([4, 6, 0, 1, 2, 3, 4, 5, 6], [4])])
def spec_Header.B28 : List Nat := [0, 0, 0, 4, 12, 1, 35, 127]
theorem spec_Header.tab28 : rtab .any (opsOf Try.f14 28) = spec_Header.T28 := by kernel_rfl
theorem spec_Header.bits28 : waitsOk spec_Header.T28.2 spec_Header.B28 = true := by kernel_rfl
set_option maxHeartbeats 8000000 in
set_option maxRecDepth 100000 in
theorem spec_Header.calls (k : Nat) (A0 : Option Addr) (c0 : Nat) (l0 : List Int) (a1 : Int) (r1 : Int) (r2 : Int) (r3 : Int) (r4 : Bool) (r5 : Int) (r6 : Bool) (w : World) (hr0 : Kd.C (Kd.int .u8) w A0 l0.length l0) (hc0 : l0.length ≤ c0) (h : spec_Header.f k l0 a1 = some (r1, r2, r3, r4, r5, r6)) :
    Calls Try.prog 14 #[.slice A0 l0.length c0, .int .i64 a1] w fun e w' => e = .returned (.tuple #[.agg #[.int .i64 r1, .int .i64 r2, .int .i64 r3, .bool r4], .int .i64 r5, .bool r6]) ∧ Below w.heap.size w w' := by
  have hu27 := Try.underlying27
  have HR0 := Aside0.mk hr0
  have HC0 := Aside0.mk hc0
  clear hr0 hc0
  have HB := Aside0.mk (Below.refl w.heap.size w)
  have H : (if a1 ≥ (l0.length : Int) then (some (0, 0, 0, false, 0, false)) else (if 0 ≤ a1 then (if a1 < (l0.length : Int) then (if (wrap64 (Go.bits .and .u8 (rd l0 a1) 31)) = 31 then ((spec_Base128.f k l0 (wrap64 (a1 + 1))).bind fun bt110 => (if bt110.2.2 = true then (if bt110.1 < 31 then (some (0, 0, 0, false, 0, false)) else (spec_Header.j0 k l0 bt110.2.1 (wrap64 ((rd l0 a1) / 64)) bt110.1 0 ((Go.bits .and .u8 (rd l0 a1) 32) != 0))) else (some (0, 0, 0, false, 0, false)))) else (spec_Header.j0 k l0 (wrap64 (a1 + 1)) (wrap64 ((rd l0 a1) / 64)) (wrap64 (Go.bits .and .u8 (rd l0 a1) 31)) 0 ((Go.bits .and .u8 (rd l0 a1) 32) != 0))) else (none)) else (none))) = some (r1, r2, r3, r4, r5, r6) := h
  clear h
  by_cases c3 : a1 ≥ (l0.length : Int)
  · rw [if_pos c3] at H
    have c3b0 : decide ((l0.length : Int) ≤ a1) = true := decide_eq_true c3
    clear c3
    simp only [Option.some.injEq, Prod.mk.injEq] at H
    obtain ⟨rfl, rfl, rfl, rfl, rfl, rfl⟩ := H
    go_enter Try.func14, Try.ntmps14
    go_wp2_with (first | ((with_reducible refine gate_dst (N := 4) rfl ?_); (try (refine gate_guard (by rfl) ?_; dsimp only)); refine box_event ?hg (N := 4) ?hd (cs := #[.int .i64 0, .int .i64 0, .int .i64 0, .bool false]) (t := 27) ?hr ?_; (case hd => rfl); (case hg => rfl); (case hr => first | (go_simp; done) | (go_simp; rfl)); intro gb105 hg w4 hbox hb; have n0_ := Aside0.mk (below_step (by repeat (first | (with_reducible first | exact HB.out | apply below_alloc | apply pw_below_drewN | apply below_drew1) | exact HB.out)) hb); have n1_ := Aside0.mk (hbox); have n2_ := Aside0.mk ((by rw [hg]; exact (below_size (by repeat (first | (with_reducible first | exact HB.out | apply below_alloc | apply pw_below_drewN | apply below_drew1) | exact HB.out))) : w.heap.size ≤ gb105)); have n3_ := Aside0.mk ((by rw [hg]; exact (below_size (by repeat (first | (with_reducible first | exact HB.out | apply below_alloc | apply pw_below_drewN | apply below_drew1) | exact HB.out))) : w.heap.size ≤ gb105)); clear HB; have HB := n0_; have BK105 := n1_; have GW105 := n2_; have GE105 := n3_; clear n0_ n1_ n2_ n3_; clear hb hbox hg; have hcz5_0 : w4.cell? ⟨gb105, 0, none⟩ = some (.int .i64 0) := (blk_cell BK105.out 0).trans rfl; have hcz5_1 : w4.cell? ⟨gb105, 1, none⟩ = some (.int .i64 0) := (blk_cell BK105.out 1).trans rfl; have hcz5_2 : w4.cell? ⟨gb105, 2, none⟩ = some (.int .i64 0) := (blk_cell BK105.out 2).trans rfl; have hcz5_3 : w4.cell? ⟨gb105, 3, none⟩ = some (.bool false) := (blk_cell BK105.out 3).trans rfl; have hfz5_0 := blk_frozen BK105.out 0; have hfz5_1 := blk_frozen BK105.out 1; have hfz5_2 := blk_frozen BK105.out 2; have hfz5_3 := blk_frozen BK105.out 3))
    refine bodyPost_ret (results_ctt rfl _ _ gb105 27 #[.int .i64 0, .int .i64 0, .int .i64 0, .bool false] (0, 0) _ rfl (by (with_reducible repeat (first | refine blk_drewN ?_ _ | refine blk_drew ?_ | refine blk_alloc ?_ _)); refine blk_put (cs := #[.int .i64 0, .int .i64 0, .int .i64 0, .bool false]) ?_ 3 _ rfl; (with_reducible repeat (first | refine blk_drewN ?_ _ | refine blk_drew ?_ | refine blk_alloc ?_ _)); refine blk_put (cs := #[.int .i64 0, .int .i64 0, .int .i64 0, .bool false]) ?_ 2 _ rfl; (with_reducible repeat (first | refine blk_drewN ?_ _ | refine blk_drew ?_ | refine blk_alloc ?_ _)); refine blk_put (cs := #[.int .i64 0, .int .i64 0, .int .i64 0, .bool false]) ?_ 1 _ rfl; (with_reducible repeat (first | refine blk_drewN ?_ _ | refine blk_drew ?_ | refine blk_alloc ?_ _)); refine blk_put (cs := #[.int .i64 0, .int .i64 0, .int .i64 0, .bool false]) ?_ 0 _ rfl; (with_reducible repeat (first | refine blk_drewN ?_ _ | refine blk_drew ?_ | refine blk_alloc ?_ _)); exact BK105.out) Try.underlying27 rfl (by kernel_rfl)) rfl ?_
    exact ⟨by first | rfl | (simp [errW_none, errW_some] <;> rfl) | (simp [*, errW_none, errW_some] <;> rfl), by repeat (first | (with_reducible first | exact HB.out | apply below_alloc | apply pw_below_drewN | apply below_drew1 | refine below_set ?_ GE105.out) | exact HB.out)⟩
  · rw [if_neg c3] at H
    have c3b0 : decide ((l0.length : Int) ≤ a1) = false := decide_eq_false c3
    clear c3
    by_cases c6 : 0 ≤ a1
    · rw [if_pos c6] at H
      have c6b0 : decide (0 ≤ a1) = true := decide_eq_true c6
      clear c6
      by_cases c7 : a1 < (l0.length : Int)
      · rw [if_pos c7] at H
        have c7b0 : decide (a1 < (l0.length : Int)) = true := decide_eq_true c7
        clear c7
        have HC8 := Aside0.mk H
        clear H
        go_enter Try.func14, Try.ntmps14
        try go_wp2_with (first | ((with_reducible refine gate_dst (N := 4) rfl ?_); (try (refine gate_guard (by rfl) ?_; dsimp only)); refine box_event ?hg (N := 4) ?hd (cs := #[.int .i64 0, .int .i64 0, .int .i64 0, .bool false]) (t := 27) ?hr ?_; (case hd => rfl); (case hg => rfl); (case hr => first | (go_simp; done) | (go_simp; rfl)); intro gb105 hg w9 hbox hb; have n0_ := Aside0.mk (below_step (by repeat (first | (with_reducible first | exact HB.out | apply below_alloc | apply pw_below_drewN | apply below_drew1) | exact HB.out)) hb); have n1_ := Aside0.mk (hbox); have n2_ := Aside0.mk ((by rw [hg]; exact (below_size (by repeat (first | (with_reducible first | exact HB.out | apply below_alloc | apply pw_below_drewN | apply below_drew1) | exact HB.out))) : w.heap.size ≤ gb105)); have n3_ := Aside0.mk ((by rw [hg]; exact (below_size (by repeat (first | (with_reducible first | exact HB.out | apply below_alloc | apply pw_below_drewN | apply below_drew1) | exact HB.out))) : w.heap.size ≤ gb105)); clear HB; have HB := n0_; have BK105 := n1_; have GW105 := n2_; have GE105 := n3_; clear n0_ n1_ n2_ n3_; clear hb hbox hg))
        have n0_ := Aside0.mk (blk_drew BK105.out)
        have n1_ := Aside0.mk (below_drew1 HB.out)
        clear BK105
        clear HB
        have BK105 := n0_
        have HB := n1_
        clear n0_ n1_
        have p106 : 0 ≤ (a1 : Int) := of_decide_eq_true (by first | (with_reducible assumption) | assumption)
        have q106 : a1 < (l0.length : Int) := of_decide_eq_true (by first | (with_reducible assumption) | assumption)
        obtain ⟨ad106, e106, hx106_0⟩ := Kd.at_int HR0.out a1 p106 q106
        have hw106_0 := hx106_0
        cases e106
        replace hx106_0 := (HB.out.cell (World.block_lt_of_cell? w _ hx106_0)).trans hx106_0
        replace p106 := eq_true p106
        replace q106 := eq_true q106
        have p107 : 0 ≤ (a1 : Int) := of_decide_eq_true (by first | (with_reducible assumption) | assumption)
        have q107 : a1 < (l0.length : Int) := of_decide_eq_true (by first | (with_reducible assumption) | assumption)
        obtain ⟨ad107, e107, hx107_0⟩ := Kd.at_int HR0.out a1 p107 q107
        have hw107_0 := hx107_0
        obtain rfl : ad106 = ad107 := (by injection e107)
        replace hx107_0 := (HB.out.cell (World.block_lt_of_cell? w _ hx107_0)).trans hx107_0
        replace p107 := eq_true p107
        replace q107 := eq_true q107
        have p108 : 0 ≤ (a1 : Int) := of_decide_eq_true (by first | (with_reducible assumption) | assumption)
        have q108 : a1 < (l0.length : Int) := of_decide_eq_true (by first | (with_reducible assumption) | assumption)
        obtain ⟨ad108, e108, hx108_0⟩ := Kd.at_int HR0.out a1 p108 q108
        have hw108_0 := hx108_0
        obtain rfl : ad106 = ad108 := (by injection e108)
        replace hx108_0 := (HB.out.cell (World.block_lt_of_cell? w _ hx108_0)).trans hx108_0
        replace p108 := eq_true p108
        replace q108 := eq_true q108
        refine start_ (n := 21) (S := fun w' => w'.cell? (ad106.add (a1).toNat) = some (.int .u8 (rd l0 a1)) ∧ w'.cell? (ad106.add (a1).toNat) = some (.int .u8 (rd l0 a1)) ∧ w'.cell? (ad106.add (a1).toNat) = some (.int .u8 (rd l0 a1))) (ds := []) #[false, false, false, false, false, false, false, false, false, false, false, false, false, false, false, false, false, false, false, false, false] (by kernel_rfl) rfl rfl ⟨((HB.out.cell (World.block_lt_of_cell? w _ hw106_0)).trans hw106_0), ((HB.out.cell (World.block_lt_of_cell? w _ hw107_0)).trans hw107_0), ((HB.out.cell (World.block_lt_of_cell? w _ hw108_0)).trans hw108_0)⟩ (fun hHeld => ?_); refine with_tabW spec_Header.tab3 spec_Header.bits3 (fun HT_ HW_ => ?_)
        generalize w9.drew = w10 at BK105 HB hx106_0 hx107_0 hx108_0 hHeld ⊢
        refine pure_ (i := 0) (N := some 19) (v := ?_) (a' := ?_) #[true, false, false, false, false, false, false, false, false, false, false, false, false, false, false, false, false, false, false, false, false] rfl rfl (any_of HT_.out (by kernel_rfl)) (fun _ _ _ h => h) (Or.inl ⟨by rfl, ?_⟩) ?_ ?_
        rotate_left
        · intro w'
          go_simp
          with_reducible rfl
        rotate_left
        · simp only [Act.put, List.setIfInBounds_toArray, List.set_cons_zero, List.set_cons_succ, i64_w, i32_w]
          rfl
        refine pure_ (i := 1) (N := some 20) (v := ?_) (a' := ?_) #[true, true, false, false, false, false, false, false, false, false, false, false, false, false, false, false, false, false, false, false, false] rfl rfl (any_of HT_.out (by kernel_rfl)) (fun _ _ _ h => h) (Or.inl ⟨by rfl, ?_⟩) ?_ ?_
        rotate_left
        · intro w'
          go_simp
          with_reducible rfl
        rotate_left
        · simp only [Act.put, List.setIfInBounds_toArray, List.set_cons_zero, List.set_cons_succ, i64_w, i32_w]
          rfl
        refine pure_ (i := 2) (N := some 21) (v := ?_) (a' := ?_) #[true, true, true, false, false, false, false, false, false, false, false, false, false, false, false, false, false, false, false, false, false] rfl rfl (any_of HT_.out (by kernel_rfl)) (fun _ _ _ h => h) (Or.inl ⟨by rfl, ?_⟩) ?_ ?_
        rotate_left
        · intro w'
          go_simp
          with_reducible rfl
        rotate_left
        · simp only [Act.put, List.setIfInBounds_toArray, List.set_cons_zero, List.set_cons_succ, i64_w, i32_w]
          rfl
        refine pure_ (i := 6) (N := some 25) (v := ?_) (a' := ?_) #[true, true, true, false, false, false, true, false, false, false, false, false, false, false, false, false, false, false, false, false, false] rfl rfl (any_of HT_.out (by kernel_rfl)) (fun _ _ _ h => h) (Or.inl ⟨by rfl, ?_⟩) ?_ ?_
        rotate_left
        · intro w'
          go_simp
          with_reducible rfl
        rotate_left
        · simp only [Act.put, List.setIfInBounds_toArray, List.set_cons_zero, List.set_cons_succ, i64_w, i32_w]
          rfl
        refine pure_ (i := 7) (N := some 26) (v := ?_) (a' := ?_) #[true, true, true, false, false, false, true, true, false, false, false, false, false, false, false, false, false, false, false, false, false] rfl rfl (any_of HT_.out (by kernel_rfl)) (fun _ _ _ h => h) (Or.inl ⟨by rfl, ?_⟩) ?_ ?_
        rotate_left
        · intro w'
          go_simp
          with_reducible rfl
        rotate_left
        · simp only [Act.put, List.setIfInBounds_toArray, List.set_cons_zero, List.set_cons_succ, i64_w, i32_w]
          rfl
        refine pure_ (i := 8) (N := some 27) (v := ?_) (a' := ?_) #[true, true, true, false, false, false, true, true, true, false, false, false, false, false, false, false, false, false, false, false, false] rfl rfl (any_of HT_.out (by kernel_rfl)) (fun _ _ _ h => h) (Or.inl ⟨by rfl, ?_⟩) ?_ ?_
        rotate_left
        · intro w'
          go_simp
          with_reducible rfl
        rotate_left
        · simp only [Act.put, List.setIfInBounds_toArray, List.set_cons_zero, List.set_cons_succ, i64_w, i32_w]
          rfl
        refine pure_ (i := 12) (N := some 31) (v := ?_) (a' := ?_) #[true, true, true, false, false, false, true, true, true, false, false, false, true, false, false, false, false, false, false, false, false] rfl rfl (any_of HT_.out (by kernel_rfl)) (fun _ _ _ h => h) (Or.inl ⟨by rfl, ?_⟩) ?_ ?_
        rotate_left
        · intro w'
          go_simp
          with_reducible rfl
        rotate_left
        · simp only [Act.put, List.setIfInBounds_toArray, List.set_cons_zero, List.set_cons_succ, i64_w, i32_w]
          rfl
        refine pure_ (i := 13) (N := some 32) (v := ?_) (a' := ?_) #[true, true, true, false, false, false, true, true, true, false, false, false, true, true, false, false, false, false, false, false, false] rfl rfl (any_of HT_.out (by kernel_rfl)) (fun _ _ _ h => h) (Or.inl ⟨by rfl, ?_⟩) ?_ ?_
        rotate_left
        · intro w'
          go_simp
          with_reducible rfl
        rotate_left
        · simp only [Act.put, List.setIfInBounds_toArray, List.set_cons_zero, List.set_cons_succ, i64_w, i32_w]
          rfl
        refine pure_ (i := 14) (N := some 33) (v := ?_) (a' := ?_) #[true, true, true, false, false, false, true, true, true, false, false, false, true, true, true, false, false, false, false, false, false] rfl rfl (any_of HT_.out (by kernel_rfl)) (fun _ _ _ h => h) (Or.inl ⟨by rfl, ?_⟩) ?_ ?_
        rotate_left
        · intro w'
          go_simp
          with_reducible rfl
        rotate_left
        · simp only [Act.put, List.setIfInBounds_toArray, List.set_cons_zero, List.set_cons_succ, i64_w, i32_w]
          rfl
        refine take_ (i := 3) (N := some 22) (v := ?_) (a' := ?_) #[true, true, true, true, false, false, true, true, true, false, false, false, true, true, true, false, false, false, false, false, false] rfl rfl (take_ofW HT_.out HW_.out (by kernel_rfl)) (fun _ _ _ h => h) (Or.inl ⟨by rfl, ?_⟩) hHeld ?_ ?_
        rotate_left
        · rintro w' ⟨s0, s1, s2⟩
          go_simp
          with_reducible rfl
        rotate_left
        · simp only [Act.put, List.setIfInBounds_toArray, List.set_cons_zero, List.set_cons_succ, i64_w, i32_w]
          rfl
        refine pure_ (i := 4) (N := some 23) (v := ?_) (a' := ?_) #[true, true, true, true, true, false, true, true, true, false, false, false, true, true, true, false, false, false, false, false, false] rfl rfl (any_of HT_.out (by kernel_rfl)) (fun _ _ _ h => h) (Or.inl ⟨by rfl, ?_⟩) ?_ ?_
        rotate_left
        · intro w'
          go_simp
          with_reducible rfl
        rotate_left
        · simp only [Act.put, List.setIfInBounds_toArray, List.set_cons_zero, List.set_cons_succ, i64_w, i32_w]
          rfl
        refine pure_ (i := 5) (N := some 24) (v := ?_) (a' := ?_) #[true, true, true, true, true, true, true, true, true, false, false, false, true, true, true, false, false, false, false, false, false] rfl rfl (any_of HT_.out (by kernel_rfl)) (fun _ _ _ h => h) (Or.inl ⟨by rfl, ?_⟩) ?_ ?_
        rotate_left
        · intro w'
          go_simp
          with_reducible rfl
        rotate_left
        · simp only [Act.put, List.setIfInBounds_toArray, List.set_cons_zero, List.set_cons_succ, i64_w, i32_w]
          rfl
        refine take_ (i := 9) (N := some 28) (v := ?_) (a' := ?_) #[true, true, true, true, true, true, true, true, true, true, false, false, true, true, true, false, false, false, false, false, false] rfl rfl (take_ofW HT_.out HW_.out (by kernel_rfl)) (fun _ _ _ h => h) (Or.inl ⟨by rfl, ?_⟩) hHeld ?_ ?_
        rotate_left
        · rintro w' ⟨s0, s1, s2⟩
          go_simp
          with_reducible rfl
        rotate_left
        · simp only [Act.put, List.setIfInBounds_toArray, List.set_cons_zero, List.set_cons_succ, i64_w, i32_w]
          rfl
        refine pure_ (i := 10) (N := some 29) (v := ?_) (a' := ?_) #[true, true, true, true, true, true, true, true, true, true, true, false, true, true, true, false, false, false, false, false, false] rfl rfl (any_of HT_.out (by kernel_rfl)) (fun _ _ _ h => h) (Or.inl ⟨by rfl, ?_⟩) ?_ ?_
        rotate_left
        · intro w'
          go_simp
          with_reducible rfl
        rotate_left
        · simp only [Act.put, List.setIfInBounds_toArray, List.set_cons_zero, List.set_cons_succ, i64_w, i32_w]
          rfl
        refine pure_ (i := 11) (N := some 30) (v := ?_) (a' := ?_) #[true, true, true, true, true, true, true, true, true, true, true, true, true, true, true, false, false, false, false, false, false] rfl rfl (any_of HT_.out (by kernel_rfl)) (fun _ _ _ h => h) (Or.inl ⟨by rfl, ?_⟩) ?_ ?_
        rotate_left
        · intro w'
          go_simp
          with_reducible rfl
        rotate_left
        · simp only [Act.put, List.setIfInBounds_toArray, List.set_cons_zero, List.set_cons_succ, i64_w, i32_w]
          rfl
        refine take_ (i := 15) (N := some 34) (v := ?_) (a' := ?_) #[true, true, true, true, true, true, true, true, true, true, true, true, true, true, true, true, false, false, false, false, false] rfl rfl (take_ofW HT_.out HW_.out (by kernel_rfl)) (fun _ _ _ h => h) (Or.inl ⟨by rfl, ?_⟩) hHeld ?_ ?_
        rotate_left
        · rintro w' ⟨s0, s1, s2⟩
          go_simp
          with_reducible rfl
        rotate_left
        · simp only [Act.put, List.setIfInBounds_toArray, List.set_cons_zero, List.set_cons_succ, i64_w, i32_w]
          rfl
        refine pure_ (i := 16) (N := some 35) (v := ?_) (a' := ?_) #[true, true, true, true, true, true, true, true, true, true, true, true, true, true, true, true, true, false, false, false, false] rfl rfl (any_of HT_.out (by kernel_rfl)) (fun _ _ _ h => h) (Or.inl ⟨by rfl, ?_⟩) ?_ ?_
        rotate_left
        · intro w'
          go_simp
          with_reducible rfl
        rotate_left
        · simp only [Act.put, List.setIfInBounds_toArray, List.set_cons_zero, List.set_cons_succ, i64_w, i32_w]
          rfl
        refine pure_ (i := 17) (N := some 36) (v := ?_) (a' := ?_) #[true, true, true, true, true, true, true, true, true, true, true, true, true, true, true, true, true, true, false, false, false] rfl rfl (any_of HT_.out (by kernel_rfl)) (fun _ _ _ h => h) (Or.inl ⟨by rfl, ?_⟩) ?_ ?_
        rotate_left
        · intro w'
          go_simp
          with_reducible rfl
        rotate_left
        · simp only [Act.put, List.setIfInBounds_toArray, List.set_cons_zero, List.set_cons_succ, i64_w, i32_w]
          rfl
        refine pure_ (i := 18) (N := some 37) (v := ?_) (a' := ?_) #[true, true, true, true, true, true, true, true, true, true, true, true, true, true, true, true, true, true, true, false, false] rfl rfl (any_of HT_.out (by kernel_rfl)) (fun _ _ _ h => h) (Or.inl ⟨by rfl, ?_⟩) ?_ ?_
        rotate_left
        · intro w'
          go_simp
          with_reducible rfl
        rotate_left
        · simp only [Act.put, List.setIfInBounds_toArray, List.set_cons_zero, List.set_cons_succ, i64_w, i32_w]
          rfl
        refine one_ (i := 19) (N := some 7) #[true, true, true, true, true, true, true, true, true, true, true, true, true, true, true, true, true, true, true, true, false] rfl rfl (one_of HT_.out (by kernel_rfl)) (by decide) (fun K hK => ?_)
        refine box_step ?hg (N := 7) ?hd (cs := #[.int .i64 0, .int .i64 0, .int .i64 0, .bool false]) (t := 27) ?hr ?_; (case hd => rfl); (case hg => rfl); (case hr => first | (go_simp; done) | (go_simp; rfl))
        intro gb109 hg w11 hbox hb
        have n0_ := Aside0.mk (blk_below (g := gb105) (o := .cells #[.int .i64 0, .int .i64 0, .int .i64 0, .bool false] 27 (0, 0)) (by (with_reducible repeat (first | refine blk_drewN ?_ _ | refine blk_drew ?_ | refine blk_alloc ?_ _)); exact BK105.out) hb)
        have n1_ := Aside0.mk (below_step (by repeat (first | (with_reducible first | exact HB.out | apply below_alloc | apply pw_below_drewN | apply below_drew1 | refine below_set ?_ GE105.out) | exact HB.out)) hb)
        have n2_ := Aside0.mk (hbox)
        have n3_ := Aside0.mk ((by rw [hg]; exact (below_size (by repeat (first | (with_reducible first | exact HB.out | apply below_alloc | apply pw_below_drewN | apply below_drew1 | refine below_set ?_ GE105.out) | exact HB.out))) : w.heap.size ≤ gb109))
        have n4_ := Aside0.mk ((by rw [hg]; exact (below_size (by repeat (first | (with_reducible first | exact HB.out | apply below_alloc | apply pw_below_drewN | apply below_drew1 | refine below_set ?_ GE105.out) | exact HB.out))) : w.heap.size ≤ gb109))
        have n5_ := Aside0.mk ((by rw [hg]; exact Nat.ne_of_lt (blk_lt (g := gb105) (o := .cells #[.int .i64 0, .int .i64 0, .int .i64 0, .bool false] 27 (0, 0)) (by (with_reducible repeat (first | refine blk_drewN ?_ _ | refine blk_drew ?_ | refine blk_alloc ?_ _)); exact BK105.out)) : gb105 ≠ gb109))
        have n6_ := Aside0.mk ((by rw [hg]; exact Nat.ne_of_gt (blk_lt (g := gb105) (o := .cells #[.int .i64 0, .int .i64 0, .int .i64 0, .bool false] 27 (0, 0)) (by (with_reducible repeat (first | refine blk_drewN ?_ _ | refine blk_drew ?_ | refine blk_alloc ?_ _)); exact BK105.out)) : gb109 ≠ gb105))
        clear BK105
        clear HB
        have BK105 := n0_
        have HB := n1_
        have BK109 := n2_
        have GW109 := n3_
        have GE109 := n4_
        have NB105_109 := n5_
        have NB109_105 := n6_
        clear n0_ n1_ n2_ n3_ n4_ n5_ n6_
        clear hb hbox hg
        refine hK.out _ _ ⟨((HB.out.cell (World.block_lt_of_cell? w _ hw106_0)).trans hw106_0), ((HB.out.cell (World.block_lt_of_cell? w _ hw107_0)).trans hw107_0), ((HB.out.cell (World.block_lt_of_cell? w _ hw108_0)).trans hw108_0)⟩ (fun hHeld => ?_)
        clear hK K
        refine norm_ (a' := ?_) ?_ ?_
        rotate_left
        · show Act.put _ (some 7) _ = _
          simp only [Act.put, List.setIfInBounds_toArray, List.set_cons_zero, List.set_cons_succ, i64_w, i32_w]
          rfl
        refine one_ (i := 20) (N := none) #[true, true, true, true, true, true, true, true, true, true, true, true, true, true, true, true, true, true, true, true, true] rfl rfl (one_of HT_.out (by kernel_rfl)) (by decide) (fun K hK => ?_)
        have hs12 : w11.cell? ⟨gb109, 0, none⟩ = some (.int .i64 0) := (blk_cell BK109.out 0).trans rfl
        have hfs12 := blk_frozen BK109.out 0
        have hns12_0 := NB105_109.out
        have hms12_0 := NB109_105.out
        have hs13 : w11.cell? ⟨gb109, 1, none⟩ = some (.int .i64 0) := (blk_cell BK109.out 1).trans rfl
        have hfs13 := blk_frozen BK109.out 1
        have hns13_0 := NB105_109.out
        have hms13_0 := NB109_105.out
        have hs14 : w11.cell? ⟨gb109, 2, none⟩ = some (.int .i64 0) := (blk_cell BK109.out 2).trans rfl
        have hfs14 := blk_frozen BK109.out 2
        have hns14_0 := NB105_109.out
        have hms14_0 := NB109_105.out
        have hs15 : w11.cell? ⟨gb109, 3, none⟩ = some (.bool false) := (blk_cell BK109.out 3).trans rfl
        have hfs15 := blk_frozen BK109.out 3
        have hns15_0 := NB105_109.out
        have hms15_0 := NB109_105.out
        refine skip_ (w1 := ?_) (by rfl) rfl ?_ ?_
        rotate_left
        · go_simp
          rfl
        refine hK.out _ _ ⟨((cell_far (p := ⟨gb109, _, none⟩) (by first | exact Nat.ne_of_lt (Nat.lt_of_lt_of_le (by have := World.block_lt_of_cell? _ _ hw106_0; first | rwa [add_block] at this | exact this) GW109.out) | (rw [add_block]; exact Nat.ne_of_lt (Nat.lt_of_lt_of_le (by have := World.block_lt_of_cell? _ _ hw106_0; first | rwa [add_block] at this | exact this) GW109.out)) | (show (Addr.add _ _).block ≠ _; rw [add_block]; exact Nat.ne_of_lt (Nat.lt_of_lt_of_le (by have := World.block_lt_of_cell? _ _ hw106_0; first | rwa [add_block] at this | exact this) GW109.out)) | (dsimp only; exact Nat.ne_of_lt (Nat.lt_of_lt_of_le (by have := World.block_lt_of_cell? _ _ hw106_0; first | rwa [add_block] at this | exact this) GW109.out))) _).trans (((cell_far (p := ⟨gb109, _, none⟩) (by first | exact Nat.ne_of_lt (Nat.lt_of_lt_of_le (by have := World.block_lt_of_cell? _ _ hw106_0; first | rwa [add_block] at this | exact this) GW109.out) | (rw [add_block]; exact Nat.ne_of_lt (Nat.lt_of_lt_of_le (by have := World.block_lt_of_cell? _ _ hw106_0; first | rwa [add_block] at this | exact this) GW109.out)) | (show (Addr.add _ _).block ≠ _; rw [add_block]; exact Nat.ne_of_lt (Nat.lt_of_lt_of_le (by have := World.block_lt_of_cell? _ _ hw106_0; first | rwa [add_block] at this | exact this) GW109.out)) | (dsimp only; exact Nat.ne_of_lt (Nat.lt_of_lt_of_le (by have := World.block_lt_of_cell? _ _ hw106_0; first | rwa [add_block] at this | exact this) GW109.out))) _).trans (((cell_far (p := ⟨gb109, _, none⟩) (by first | exact Nat.ne_of_lt (Nat.lt_of_lt_of_le (by have := World.block_lt_of_cell? _ _ hw106_0; first | rwa [add_block] at this | exact this) GW109.out) | (rw [add_block]; exact Nat.ne_of_lt (Nat.lt_of_lt_of_le (by have := World.block_lt_of_cell? _ _ hw106_0; first | rwa [add_block] at this | exact this) GW109.out)) | (show (Addr.add _ _).block ≠ _; rw [add_block]; exact Nat.ne_of_lt (Nat.lt_of_lt_of_le (by have := World.block_lt_of_cell? _ _ hw106_0; first | rwa [add_block] at this | exact this) GW109.out)) | (dsimp only; exact Nat.ne_of_lt (Nat.lt_of_lt_of_le (by have := World.block_lt_of_cell? _ _ hw106_0; first | rwa [add_block] at this | exact this) GW109.out))) _).trans (((cell_far (p := ⟨gb109, _, none⟩) (by first | exact Nat.ne_of_lt (Nat.lt_of_lt_of_le (by have := World.block_lt_of_cell? _ _ hw106_0; first | rwa [add_block] at this | exact this) GW109.out) | (rw [add_block]; exact Nat.ne_of_lt (Nat.lt_of_lt_of_le (by have := World.block_lt_of_cell? _ _ hw106_0; first | rwa [add_block] at this | exact this) GW109.out)) | (show (Addr.add _ _).block ≠ _; rw [add_block]; exact Nat.ne_of_lt (Nat.lt_of_lt_of_le (by have := World.block_lt_of_cell? _ _ hw106_0; first | rwa [add_block] at this | exact this) GW109.out)) | (dsimp only; exact Nat.ne_of_lt (Nat.lt_of_lt_of_le (by have := World.block_lt_of_cell? _ _ hw106_0; first | rwa [add_block] at this | exact this) GW109.out))) _).trans (hHeld.1)))))))), ((cell_far (p := ⟨gb109, _, none⟩) (by first | exact Nat.ne_of_lt (Nat.lt_of_lt_of_le (by have := World.block_lt_of_cell? _ _ hw107_0; first | rwa [add_block] at this | exact this) GW109.out) | (rw [add_block]; exact Nat.ne_of_lt (Nat.lt_of_lt_of_le (by have := World.block_lt_of_cell? _ _ hw107_0; first | rwa [add_block] at this | exact this) GW109.out)) | (show (Addr.add _ _).block ≠ _; rw [add_block]; exact Nat.ne_of_lt (Nat.lt_of_lt_of_le (by have := World.block_lt_of_cell? _ _ hw107_0; first | rwa [add_block] at this | exact this) GW109.out)) | (dsimp only; exact Nat.ne_of_lt (Nat.lt_of_lt_of_le (by have := World.block_lt_of_cell? _ _ hw107_0; first | rwa [add_block] at this | exact this) GW109.out))) _).trans (((cell_far (p := ⟨gb109, _, none⟩) (by first | exact Nat.ne_of_lt (Nat.lt_of_lt_of_le (by have := World.block_lt_of_cell? _ _ hw107_0; first | rwa [add_block] at this | exact this) GW109.out) | (rw [add_block]; exact Nat.ne_of_lt (Nat.lt_of_lt_of_le (by have := World.block_lt_of_cell? _ _ hw107_0; first | rwa [add_block] at this | exact this) GW109.out)) | (show (Addr.add _ _).block ≠ _; rw [add_block]; exact Nat.ne_of_lt (Nat.lt_of_lt_of_le (by have := World.block_lt_of_cell? _ _ hw107_0; first | rwa [add_block] at this | exact this) GW109.out)) | (dsimp only; exact Nat.ne_of_lt (Nat.lt_of_lt_of_le (by have := World.block_lt_of_cell? _ _ hw107_0; first | rwa [add_block] at this | exact this) GW109.out))) _).trans (((cell_far (p := ⟨gb109, _, none⟩) (by first | exact Nat.ne_of_lt (Nat.lt_of_lt_of_le (by have := World.block_lt_of_cell? _ _ hw107_0; first | rwa [add_block] at this | exact this) GW109.out) | (rw [add_block]; exact Nat.ne_of_lt (Nat.lt_of_lt_of_le (by have := World.block_lt_of_cell? _ _ hw107_0; first | rwa [add_block] at this | exact this) GW109.out)) | (show (Addr.add _ _).block ≠ _; rw [add_block]; exact Nat.ne_of_lt (Nat.lt_of_lt_of_le (by have := World.block_lt_of_cell? _ _ hw107_0; first | rwa [add_block] at this | exact this) GW109.out)) | (dsimp only; exact Nat.ne_of_lt (Nat.lt_of_lt_of_le (by have := World.block_lt_of_cell? _ _ hw107_0; first | rwa [add_block] at this | exact this) GW109.out))) _).trans (((cell_far (p := ⟨gb109, _, none⟩) (by first | exact Nat.ne_of_lt (Nat.lt_of_lt_of_le (by have := World.block_lt_of_cell? _ _ hw107_0; first | rwa [add_block] at this | exact this) GW109.out) | (rw [add_block]; exact Nat.ne_of_lt (Nat.lt_of_lt_of_le (by have := World.block_lt_of_cell? _ _ hw107_0; first | rwa [add_block] at this | exact this) GW109.out)) | (show (Addr.add _ _).block ≠ _; rw [add_block]; exact Nat.ne_of_lt (Nat.lt_of_lt_of_le (by have := World.block_lt_of_cell? _ _ hw107_0; first | rwa [add_block] at this | exact this) GW109.out)) | (dsimp only; exact Nat.ne_of_lt (Nat.lt_of_lt_of_le (by have := World.block_lt_of_cell? _ _ hw107_0; first | rwa [add_block] at this | exact this) GW109.out))) _).trans (hHeld.2.1)))))))), ((cell_far (p := ⟨gb109, _, none⟩) (by first | exact Nat.ne_of_lt (Nat.lt_of_lt_of_le (by have := World.block_lt_of_cell? _ _ hw108_0; first | rwa [add_block] at this | exact this) GW109.out) | (rw [add_block]; exact Nat.ne_of_lt (Nat.lt_of_lt_of_le (by have := World.block_lt_of_cell? _ _ hw108_0; first | rwa [add_block] at this | exact this) GW109.out)) | (show (Addr.add _ _).block ≠ _; rw [add_block]; exact Nat.ne_of_lt (Nat.lt_of_lt_of_le (by have := World.block_lt_of_cell? _ _ hw108_0; first | rwa [add_block] at this | exact this) GW109.out)) | (dsimp only; exact Nat.ne_of_lt (Nat.lt_of_lt_of_le (by have := World.block_lt_of_cell? _ _ hw108_0; first | rwa [add_block] at this | exact this) GW109.out))) _).trans (((cell_far (p := ⟨gb109, _, none⟩) (by first | exact Nat.ne_of_lt (Nat.lt_of_lt_of_le (by have := World.block_lt_of_cell? _ _ hw108_0; first | rwa [add_block] at this | exact this) GW109.out) | (rw [add_block]; exact Nat.ne_of_lt (Nat.lt_of_lt_of_le (by have := World.block_lt_of_cell? _ _ hw108_0; first | rwa [add_block] at this | exact this) GW109.out)) | (show (Addr.add _ _).block ≠ _; rw [add_block]; exact Nat.ne_of_lt (Nat.lt_of_lt_of_le (by have := World.block_lt_of_cell? _ _ hw108_0; first | rwa [add_block] at this | exact this) GW109.out)) | (dsimp only; exact Nat.ne_of_lt (Nat.lt_of_lt_of_le (by have := World.block_lt_of_cell? _ _ hw108_0; first | rwa [add_block] at this | exact this) GW109.out))) _).trans (((cell_far (p := ⟨gb109, _, none⟩) (by first | exact Nat.ne_of_lt (Nat.lt_of_lt_of_le (by have := World.block_lt_of_cell? _ _ hw108_0; first | rwa [add_block] at this | exact this) GW109.out) | (rw [add_block]; exact Nat.ne_of_lt (Nat.lt_of_lt_of_le (by have := World.block_lt_of_cell? _ _ hw108_0; first | rwa [add_block] at this | exact this) GW109.out)) | (show (Addr.add _ _).block ≠ _; rw [add_block]; exact Nat.ne_of_lt (Nat.lt_of_lt_of_le (by have := World.block_lt_of_cell? _ _ hw108_0; first | rwa [add_block] at this | exact this) GW109.out)) | (dsimp only; exact Nat.ne_of_lt (Nat.lt_of_lt_of_le (by have := World.block_lt_of_cell? _ _ hw108_0; first | rwa [add_block] at this | exact this) GW109.out))) _).trans (((cell_far (p := ⟨gb109, _, none⟩) (by first | exact Nat.ne_of_lt (Nat.lt_of_lt_of_le (by have := World.block_lt_of_cell? _ _ hw108_0; first | rwa [add_block] at this | exact this) GW109.out) | (rw [add_block]; exact Nat.ne_of_lt (Nat.lt_of_lt_of_le (by have := World.block_lt_of_cell? _ _ hw108_0; first | rwa [add_block] at this | exact this) GW109.out)) | (show (Addr.add _ _).block ≠ _; rw [add_block]; exact Nat.ne_of_lt (Nat.lt_of_lt_of_le (by have := World.block_lt_of_cell? _ _ hw108_0; first | rwa [add_block] at this | exact this) GW109.out)) | (dsimp only; exact Nat.ne_of_lt (Nat.lt_of_lt_of_le (by have := World.block_lt_of_cell? _ _ hw108_0; first | rwa [add_block] at this | exact this) GW109.out))) _).trans (hHeld.2.2))))))))⟩ (fun hHeld => ?_)
        clear hK K
        refine done_ (done_of HT_.out (by kernel_rfl)) ?_
        have hnb16 := NB109_105.out
        have hnc16 := NB105_109.out
        have hcz17_0 : w11.cell? ⟨gb109, 0, none⟩ = some (.int .i64 0) := (blk_cell BK109.out 0).trans rfl
        have hcz17_1 : w11.cell? ⟨gb109, 1, none⟩ = some (.int .i64 0) := (blk_cell BK109.out 1).trans rfl
        have hcz17_2 : w11.cell? ⟨gb109, 2, none⟩ = some (.int .i64 0) := (blk_cell BK109.out 2).trans rfl
        have hcz17_3 : w11.cell? ⟨gb109, 3, none⟩ = some (.bool false) := (blk_cell BK109.out 3).trans rfl
        have hfz17_0 := blk_frozen BK109.out 0
        have hfz17_1 := blk_frozen BK109.out 1
        have hfz17_2 := blk_frozen BK109.out 2
        have hfz17_3 := blk_frozen BK109.out 3
        go_upto_if 42 with (fail)
        go_cut [1] (fun v1 wc => ∃ (kq : Nat) (x1_7 : Int) (x106000_7 : Int) (x106001_7 : Int) (x106002_7 : Int) (x106003_7 : Bool) (x110001_7 : Int), v1 = .int .i64 x1_7 ∧ Aside0 (spec_Header.j0 kq l0 x1_7 (wrap64 ((rd l0 a1) / 64)) x110001_7 0 ((Go.bits .and .u8 (rd l0 a1) 32) != 0) = some (r1, r2, r3, r4, r5, r6)) ∧ Aside0 (kq ≤ k) ∧ Aside0 (wc.heap[gb105]? = some (.cells #[.int .i64 x106000_7, .int .i64 x106001_7, .int .i64 x106002_7, .bool x106003_7] 27 (0, 0))) ∧ Aside0 (wc.heap[gb109]? = some (.cells #[.int .i64 (wrap64 ((rd l0 a1) / 64)), .int .i64 x110001_7, .int .i64 0, .bool ((Go.bits .and .u8 (rd l0 a1) 32) != 0)] 27 (0, 0))) ∧ Aside0 (Below w.heap.size w wc))
        case first =>
          have H := HC8.out
          clear HC8
          by_cases c18 : (wrap64 (Go.bits .and .u8 (rd l0 a1) 31)) = 31
          · rw [if_pos c18] at H
            have c18b0 : ((wrap64 (Go.bits .and .u8 (rd l0 a1) 31)) == 31) = true := beq_iff_eq.mpr c18
            have c18b1 : ((wrap64 (Go.bits .and .u8 (rd l0 a1) 31)) != 31) = false := bne_eq_false_iff_eq.mpr c18
            clear c18
            (first | rw [c18b0] | (simp only [i64_w, i32_w]; rw [c18b0]) | skip)
            replace H := Option.bind_eq_some_iff.mp H
            obtain ⟨⟨t110, t111, t112⟩, A190, H⟩ := H
            replace H : (if t112 = true then (if t110 < 31 then (some (0, 0, 0, false, 0, false)) else (spec_Header.j0 k l0 t111 (wrap64 ((rd l0 a1) / 64)) t110 0 ((Go.bits .and .u8 (rd l0 a1) 32) != 0))) else (some (0, 0, 0, false, 0, false))) = some (r1, r2, r3, r4, r5, r6) := H
            have A19 := Aside0.mk A190
            clear A190
            by_cases c20 : t112 = true
            · subst c20
              have H1 : (if t110 < 31 then (some (0, 0, 0, false, 0, false)) else (spec_Header.j0 k l0 t111 (wrap64 ((rd l0 a1) / 64)) t110 0 ((Go.bits .and .u8 (rd l0 a1) 32) != 0))) = some (r1, r2, r3, r4, r5, r6) := by rw [if_pos rfl] at H; exact H
              clear H
              have H := H1
              clear H1
              by_cases c21 : t110 < 31
              · rw [if_pos c21] at H
                have c21b0 : decide (t110 < 31) = true := decide_eq_true c21
                clear c21
                simp only [Option.some.injEq, Prod.mk.injEq] at H
                obtain ⟨rfl, rfl, rfl, rfl, rfl, rfl⟩ := H
                go_wp2_with (first | ((with_reducible refine gate_callee (f := 40) rfl ?_); refine goesL_ (some 46) rfl rfl Try.func40 (by kernel_rfl) rfl #[.slice (some ad106) l0.length c0, .int .i64 (wrap64 (a1 + 1))] rfl (by (try simp only [List.map_toArray, List.map_cons, List.map_nil]); first | done | rfl | (simp only [List.length_drop, List.length_take]; rfl)) ?_; (with_reducible refine (spec_Base128.calls k _ _ l0 (wrap64 (a1 + 1)) t110 t111 true _ ?side1 ?side2 A19.out).mono ?_); (case side1 => exact Kd.C_below HR0.out (by repeat (first | (with_reducible first | exact HB.out | apply below_alloc | apply pw_below_drewN | apply below_drew1 | refine below_set ?_ GE105.out | refine below_set ?_ GE109.out) | exact HB.out))); (case side2 => exact HC0.out); rintro e w22 ⟨rfl, hb⟩; refine ⟨_, rfl, ?_⟩; have n0_ := Aside0.mk (blk_below (g := gb105) (o := .cells #[.int .i64 0, .int .i64 0, .int .i64 0, .bool false] 27 (0, 0)) (by (with_reducible repeat (first | refine blk_drewN ?_ _ | refine blk_drew ?_ | refine blk_alloc ?_ _)); refine blk_far ?_ NB105_109.out _; (with_reducible repeat (first | refine blk_drewN ?_ _ | refine blk_drew ?_ | refine blk_alloc ?_ _)); refine blk_far ?_ NB105_109.out _; (with_reducible repeat (first | refine blk_drewN ?_ _ | refine blk_drew ?_ | refine blk_alloc ?_ _)); refine blk_far ?_ NB105_109.out _; (with_reducible repeat (first | refine blk_drewN ?_ _ | refine blk_drew ?_ | refine blk_alloc ?_ _)); refine blk_far ?_ NB105_109.out _; (with_reducible repeat (first | refine blk_drewN ?_ _ | refine blk_drew ?_ | refine blk_alloc ?_ _)); exact BK105.out) hb); have n1_ := Aside0.mk (blk_below (g := gb109) (o := .cells #[.int .i64 (wrap64 ((rd l0 a1) / 64)), .int .i64 (wrap64 (Go.bits .and .u8 (rd l0 a1) 31)), .int .i64 0, .bool ((Go.bits .and .u8 (rd l0 a1) 32) != 0)] 27 (0, 0)) (by (with_reducible repeat (first | refine blk_drewN ?_ _ | refine blk_drew ?_ | refine blk_alloc ?_ _)); refine blk_put (cs := #[.int .i64 (wrap64 ((rd l0 a1) / 64)), .int .i64 (wrap64 (Go.bits .and .u8 (rd l0 a1) 31)), .int .i64 0, .bool false]) ?_ 3 _ rfl; (with_reducible repeat (first | refine blk_drewN ?_ _ | refine blk_drew ?_ | refine blk_alloc ?_ _)); refine blk_put (cs := #[.int .i64 (wrap64 ((rd l0 a1) / 64)), .int .i64 (wrap64 (Go.bits .and .u8 (rd l0 a1) 31)), .int .i64 0, .bool false]) ?_ 2 _ rfl; (with_reducible repeat (first | refine blk_drewN ?_ _ | refine blk_drew ?_ | refine blk_alloc ?_ _)); refine blk_put (cs := #[.int .i64 (wrap64 ((rd l0 a1) / 64)), .int .i64 0, .int .i64 0, .bool false]) ?_ 1 _ rfl; (with_reducible repeat (first | refine blk_drewN ?_ _ | refine blk_drew ?_ | refine blk_alloc ?_ _)); refine blk_put (cs := #[.int .i64 0, .int .i64 0, .int .i64 0, .bool false]) ?_ 0 _ rfl; (with_reducible repeat (first | refine blk_drewN ?_ _ | refine blk_drew ?_ | refine blk_alloc ?_ _)); exact BK109.out) hb); have n2_ := Aside0.mk (below_step (by repeat (first | (with_reducible first | exact HB.out | apply below_alloc | apply pw_below_drewN | apply below_drew1 | refine below_set ?_ GE105.out | refine below_set ?_ GE109.out) | exact HB.out)) hb); clear BK105; clear BK109; clear HB; have BK105 := n0_; have BK109 := n1_; have HB := n2_; clear n0_ n1_ n2_; (try clear hb); (try clear hb2); (try clear hk); (try clear hi); have hnb23 := NB105_109.out; have hnc23 := NB109_105.out; have hcz24_0 : w22.cell? ⟨gb105, 0, none⟩ = some (.int .i64 0) := (blk_cell BK105.out 0).trans rfl; have hcz24_1 : w22.cell? ⟨gb105, 1, none⟩ = some (.int .i64 0) := (blk_cell BK105.out 1).trans rfl; have hcz24_2 : w22.cell? ⟨gb105, 2, none⟩ = some (.int .i64 0) := (blk_cell BK105.out 2).trans rfl; have hcz24_3 : w22.cell? ⟨gb105, 3, none⟩ = some (.bool false) := (blk_cell BK105.out 3).trans rfl; have hfz24_0 := blk_frozen BK105.out 0; have hfz24_1 := blk_frozen BK105.out 1; have hfz24_2 := blk_frozen BK105.out 2; have hfz24_3 := blk_frozen BK105.out 3))
                refine bodyPost_ret (results_ctt rfl _ _ gb105 27 #[.int .i64 0, .int .i64 0, .int .i64 0, .bool false] (0, 0) _ rfl (by (with_reducible repeat (first | refine blk_drewN ?_ _ | refine blk_drew ?_ | refine blk_alloc ?_ _)); refine blk_put (cs := #[.int .i64 0, .int .i64 0, .int .i64 0, .bool false]) ?_ 3 _ rfl; (with_reducible repeat (first | refine blk_drewN ?_ _ | refine blk_drew ?_ | refine blk_alloc ?_ _)); refine blk_put (cs := #[.int .i64 0, .int .i64 0, .int .i64 0, .bool false]) ?_ 2 _ rfl; (with_reducible repeat (first | refine blk_drewN ?_ _ | refine blk_drew ?_ | refine blk_alloc ?_ _)); refine blk_put (cs := #[.int .i64 0, .int .i64 0, .int .i64 0, .bool false]) ?_ 1 _ rfl; (with_reducible repeat (first | refine blk_drewN ?_ _ | refine blk_drew ?_ | refine blk_alloc ?_ _)); refine blk_put (cs := #[.int .i64 0, .int .i64 0, .int .i64 0, .bool false]) ?_ 0 _ rfl; (with_reducible repeat (first | refine blk_drewN ?_ _ | refine blk_drew ?_ | refine blk_alloc ?_ _)); exact BK105.out) Try.underlying27 rfl (by kernel_rfl)) rfl ?_
                exact ⟨by first | rfl | (simp [errW_none, errW_some] <;> rfl) | (simp [*, errW_none, errW_some] <;> rfl), by repeat (first | (with_reducible first | exact HB.out | apply below_alloc | apply pw_below_drewN | apply below_drew1 | refine below_set ?_ GE105.out | refine below_set ?_ GE109.out) | exact HB.out)⟩
              · rw [if_neg c21] at H
                have c21b0 : decide (t110 < 31) = false := decide_eq_false c21
                clear c21
                have H' := Aside0.mk H
                clear H
                go_wp2_with (first | ((with_reducible refine gate_callee (f := 40) rfl ?_); refine goesL_ (some 46) rfl rfl Try.func40 (by kernel_rfl) rfl #[.slice (some ad106) l0.length c0, .int .i64 (wrap64 (a1 + 1))] rfl (by (try simp only [List.map_toArray, List.map_cons, List.map_nil]); first | done | rfl | (simp only [List.length_drop, List.length_take]; rfl)) ?_; (with_reducible refine (spec_Base128.calls k _ _ l0 (wrap64 (a1 + 1)) t110 t111 true _ ?side1 ?side2 A19.out).mono ?_); (case side1 => exact Kd.C_below HR0.out (by repeat (first | (with_reducible first | exact HB.out | apply below_alloc | apply pw_below_drewN | apply below_drew1 | refine below_set ?_ GE105.out | refine below_set ?_ GE109.out) | exact HB.out))); (case side2 => exact HC0.out); rintro e w25 ⟨rfl, hb⟩; refine ⟨_, rfl, ?_⟩; have n0_ := Aside0.mk (blk_below (g := gb105) (o := .cells #[.int .i64 0, .int .i64 0, .int .i64 0, .bool false] 27 (0, 0)) (by (with_reducible repeat (first | refine blk_drewN ?_ _ | refine blk_drew ?_ | refine blk_alloc ?_ _)); refine blk_far ?_ NB105_109.out _; (with_reducible repeat (first | refine blk_drewN ?_ _ | refine blk_drew ?_ | refine blk_alloc ?_ _)); refine blk_far ?_ NB105_109.out _; (with_reducible repeat (first | refine blk_drewN ?_ _ | refine blk_drew ?_ | refine blk_alloc ?_ _)); refine blk_far ?_ NB105_109.out _; (with_reducible repeat (first | refine blk_drewN ?_ _ | refine blk_drew ?_ | refine blk_alloc ?_ _)); refine blk_far ?_ NB105_109.out _; (with_reducible repeat (first | refine blk_drewN ?_ _ | refine blk_drew ?_ | refine blk_alloc ?_ _)); exact BK105.out) hb); have n1_ := Aside0.mk (blk_below (g := gb109) (o := .cells #[.int .i64 (wrap64 ((rd l0 a1) / 64)), .int .i64 (wrap64 (Go.bits .and .u8 (rd l0 a1) 31)), .int .i64 0, .bool ((Go.bits .and .u8 (rd l0 a1) 32) != 0)] 27 (0, 0)) (by (with_reducible repeat (first | refine blk_drewN ?_ _ | refine blk_drew ?_ | refine blk_alloc ?_ _)); refine blk_put (cs := #[.int .i64 (wrap64 ((rd l0 a1) / 64)), .int .i64 (wrap64 (Go.bits .and .u8 (rd l0 a1) 31)), .int .i64 0, .bool false]) ?_ 3 _ rfl; (with_reducible repeat (first | refine blk_drewN ?_ _ | refine blk_drew ?_ | refine blk_alloc ?_ _)); refine blk_put (cs := #[.int .i64 (wrap64 ((rd l0 a1) / 64)), .int .i64 (wrap64 (Go.bits .and .u8 (rd l0 a1) 31)), .int .i64 0, .bool false]) ?_ 2 _ rfl; (with_reducible repeat (first | refine blk_drewN ?_ _ | refine blk_drew ?_ | refine blk_alloc ?_ _)); refine blk_put (cs := #[.int .i64 (wrap64 ((rd l0 a1) / 64)), .int .i64 0, .int .i64 0, .bool false]) ?_ 1 _ rfl; (with_reducible repeat (first | refine blk_drewN ?_ _ | refine blk_drew ?_ | refine blk_alloc ?_ _)); refine blk_put (cs := #[.int .i64 0, .int .i64 0, .int .i64 0, .bool false]) ?_ 0 _ rfl; (with_reducible repeat (first | refine blk_drewN ?_ _ | refine blk_drew ?_ | refine blk_alloc ?_ _)); exact BK109.out) hb); have n2_ := Aside0.mk (below_step (by repeat (first | (with_reducible first | exact HB.out | apply below_alloc | apply pw_below_drewN | apply below_drew1 | refine below_set ?_ GE105.out | refine below_set ?_ GE109.out) | exact HB.out)) hb); clear BK105; clear BK109; clear HB; have BK105 := n0_; have BK109 := n1_; have HB := n2_; clear n0_ n1_ n2_; (try clear hb); (try clear hb2); (try clear hk); (try clear hi); have hnb26 := NB109_105.out; have hnc26 := NB105_109.out; have hcz27_0 : w25.cell? ⟨gb109, 0, none⟩ = some (.int .i64 (wrap64 ((rd l0 a1) / 64))) := (blk_cell BK109.out 0).trans rfl; have hcz27_1 : w25.cell? ⟨gb109, 1, none⟩ = some (.int .i64 (wrap64 (Go.bits .and .u8 (rd l0 a1) 31))) := (blk_cell BK109.out 1).trans rfl; have hcz27_2 : w25.cell? ⟨gb109, 2, none⟩ = some (.int .i64 0) := (blk_cell BK109.out 2).trans rfl; have hcz27_3 : w25.cell? ⟨gb109, 3, none⟩ = some (.bool ((Go.bits .and .u8 (rd l0 a1) 32) != 0)) := (blk_cell BK109.out 3).trans rfl; have hfz27_0 := blk_frozen BK109.out 0; have hfz27_1 := blk_frozen BK109.out 1; have hfz27_2 := blk_frozen BK109.out 2; have hfz27_3 := blk_frozen BK109.out 3))
                go_meet
                case rel => exact ⟨_, (t111), (0), (0), (0), (false), (t110), (by first | rfl | (simp; done) | (simp [*]; done)), H', ⟨by first | omega | exact Nat.le_refl _⟩, ⟨by (with_reducible repeat (first | refine blk_drewN ?_ _ | refine blk_drew ?_ | refine blk_alloc ?_ _)); refine blk_far ?_ NB105_109.out _; (with_reducible repeat (first | refine blk_drewN ?_ _ | refine blk_drew ?_ | refine blk_alloc ?_ _)); exact BK105.out⟩, ⟨by (with_reducible repeat (first | refine blk_drewN ?_ _ | refine blk_drew ?_ | refine blk_alloc ?_ _)); refine blk_put (cs := #[.int .i64 (wrap64 ((rd l0 a1) / 64)), .int .i64 (wrap64 (Go.bits .and .u8 (rd l0 a1) 31)), .int .i64 0, .bool ((Go.bits .and .u8 (rd l0 a1) 32) != 0)]) ?_ 1 _ rfl; (with_reducible repeat (first | refine blk_drewN ?_ _ | refine blk_drew ?_ | refine blk_alloc ?_ _)); exact BK109.out⟩, ⟨by repeat (first | (with_reducible first | exact HB.out | apply below_alloc | apply pw_below_drewN | apply below_drew1 | refine below_set ?_ GE105.out | refine below_set ?_ GE109.out) | exact HB.out)⟩⟩
            · replace c20 := Bool.eq_false_iff.mpr c20
              subst c20
              have H1 : (some (0, 0, 0, false, 0, false)) = some (r1, r2, r3, r4, r5, r6) := by rw [if_neg (show ¬ (false = true) by decide)] at H; exact H
              clear H
              have H := H1
              clear H1
              simp only [Option.some.injEq, Prod.mk.injEq] at H
              obtain ⟨rfl, rfl, rfl, rfl, rfl, rfl⟩ := H
              go_wp2_with (first | ((with_reducible refine gate_callee (f := 40) rfl ?_); refine goesL_ (some 46) rfl rfl Try.func40 (by kernel_rfl) rfl #[.slice (some ad106) l0.length c0, .int .i64 (wrap64 (a1 + 1))] rfl (by (try simp only [List.map_toArray, List.map_cons, List.map_nil]); first | done | rfl | (simp only [List.length_drop, List.length_take]; rfl)) ?_; (with_reducible refine (spec_Base128.calls k _ _ l0 (wrap64 (a1 + 1)) t110 t111 false _ ?side1 ?side2 A19.out).mono ?_); (case side1 => exact Kd.C_below HR0.out (by repeat (first | (with_reducible first | exact HB.out | apply below_alloc | apply pw_below_drewN | apply below_drew1 | refine below_set ?_ GE105.out | refine below_set ?_ GE109.out) | exact HB.out))); (case side2 => exact HC0.out); rintro e w28 ⟨rfl, hb⟩; refine ⟨_, rfl, ?_⟩; have n0_ := Aside0.mk (blk_below (g := gb105) (o := .cells #[.int .i64 0, .int .i64 0, .int .i64 0, .bool false] 27 (0, 0)) (by (with_reducible repeat (first | refine blk_drewN ?_ _ | refine blk_drew ?_ | refine blk_alloc ?_ _)); refine blk_far ?_ NB105_109.out _; (with_reducible repeat (first | refine blk_drewN ?_ _ | refine blk_drew ?_ | refine blk_alloc ?_ _)); refine blk_far ?_ NB105_109.out _; (with_reducible repeat (first | refine blk_drewN ?_ _ | refine blk_drew ?_ | refine blk_alloc ?_ _)); refine blk_far ?_ NB105_109.out _; (with_reducible repeat (first | refine blk_drewN ?_ _ | refine blk_drew ?_ | refine blk_alloc ?_ _)); refine blk_far ?_ NB105_109.out _; (with_reducible repeat (first | refine blk_drewN ?_ _ | refine blk_drew ?_ | refine blk_alloc ?_ _)); exact BK105.out) hb); have n1_ := Aside0.mk (blk_below (g := gb109) (o := .cells #[.int .i64 (wrap64 ((rd l0 a1) / 64)), .int .i64 (wrap64 (Go.bits .and .u8 (rd l0 a1) 31)), .int .i64 0, .bool ((Go.bits .and .u8 (rd l0 a1) 32) != 0)] 27 (0, 0)) (by (with_reducible repeat (first | refine blk_drewN ?_ _ | refine blk_drew ?_ | refine blk_alloc ?_ _)); refine blk_put (cs := #[.int .i64 (wrap64 ((rd l0 a1) / 64)), .int .i64 (wrap64 (Go.bits .and .u8 (rd l0 a1) 31)), .int .i64 0, .bool false]) ?_ 3 _ rfl; (with_reducible repeat (first | refine blk_drewN ?_ _ | refine blk_drew ?_ | refine blk_alloc ?_ _)); refine blk_put (cs := #[.int .i64 (wrap64 ((rd l0 a1) / 64)), .int .i64 (wrap64 (Go.bits .and .u8 (rd l0 a1) 31)), .int .i64 0, .bool false]) ?_ 2 _ rfl; (with_reducible repeat (first | refine blk_drewN ?_ _ | refine blk_drew ?_ | refine blk_alloc ?_ _)); refine blk_put (cs := #[.int .i64 (wrap64 ((rd l0 a1) / 64)), .int .i64 0, .int .i64 0, .bool false]) ?_ 1 _ rfl; (with_reducible repeat (first | refine blk_drewN ?_ _ | refine blk_drew ?_ | refine blk_alloc ?_ _)); refine blk_put (cs := #[.int .i64 0, .int .i64 0, .int .i64 0, .bool false]) ?_ 0 _ rfl; (with_reducible repeat (first | refine blk_drewN ?_ _ | refine blk_drew ?_ | refine blk_alloc ?_ _)); exact BK109.out) hb); have n2_ := Aside0.mk (below_step (by repeat (first | (with_reducible first | exact HB.out | apply below_alloc | apply pw_below_drewN | apply below_drew1 | refine below_set ?_ GE105.out | refine below_set ?_ GE109.out) | exact HB.out)) hb); clear BK105; clear BK109; clear HB; have BK105 := n0_; have BK109 := n1_; have HB := n2_; clear n0_ n1_ n2_; (try clear hb); (try clear hb2); (try clear hk); (try clear hi); have hnb29 := NB105_109.out; have hnc29 := NB109_105.out; have hcz30_0 : w28.cell? ⟨gb105, 0, none⟩ = some (.int .i64 0) := (blk_cell BK105.out 0).trans rfl; have hcz30_1 : w28.cell? ⟨gb105, 1, none⟩ = some (.int .i64 0) := (blk_cell BK105.out 1).trans rfl; have hcz30_2 : w28.cell? ⟨gb105, 2, none⟩ = some (.int .i64 0) := (blk_cell BK105.out 2).trans rfl; have hcz30_3 : w28.cell? ⟨gb105, 3, none⟩ = some (.bool false) := (blk_cell BK105.out 3).trans rfl; have hfz30_0 := blk_frozen BK105.out 0; have hfz30_1 := blk_frozen BK105.out 1; have hfz30_2 := blk_frozen BK105.out 2; have hfz30_3 := blk_frozen BK105.out 3))
              refine bodyPost_ret (results_ctt rfl _ _ gb105 27 #[.int .i64 0, .int .i64 0, .int .i64 0, .bool false] (0, 0) _ rfl (by (with_reducible repeat (first | refine blk_drewN ?_ _ | refine blk_drew ?_ | refine blk_alloc ?_ _)); refine blk_put (cs := #[.int .i64 0, .int .i64 0, .int .i64 0, .bool false]) ?_ 3 _ rfl; (with_reducible repeat (first | refine blk_drewN ?_ _ | refine blk_drew ?_ | refine blk_alloc ?_ _)); refine blk_put (cs := #[.int .i64 0, .int .i64 0, .int .i64 0, .bool false]) ?_ 2 _ rfl; (with_reducible repeat (first | refine blk_drewN ?_ _ | refine blk_drew ?_ | refine blk_alloc ?_ _)); refine blk_put (cs := #[.int .i64 0, .int .i64 0, .int .i64 0, .bool false]) ?_ 1 _ rfl; (with_reducible repeat (first | refine blk_drewN ?_ _ | refine blk_drew ?_ | refine blk_alloc ?_ _)); refine blk_put (cs := #[.int .i64 0, .int .i64 0, .int .i64 0, .bool false]) ?_ 0 _ rfl; (with_reducible repeat (first | refine blk_drewN ?_ _ | refine blk_drew ?_ | refine blk_alloc ?_ _)); exact BK105.out) Try.underlying27 rfl (by kernel_rfl)) rfl ?_
              exact ⟨by first | rfl | (simp [errW_none, errW_some] <;> rfl) | (simp [*, errW_none, errW_some] <;> rfl), by repeat (first | (with_reducible first | exact HB.out | apply below_alloc | apply pw_below_drewN | apply below_drew1 | refine below_set ?_ GE105.out | refine below_set ?_ GE109.out) | exact HB.out)⟩
          · rw [if_neg c18] at H
            have c18b0 : ((wrap64 (Go.bits .and .u8 (rd l0 a1) 31)) == 31) = false := beq_eq_false_iff_ne.mpr c18
            have c18b1 : ((wrap64 (Go.bits .and .u8 (rd l0 a1) 31)) != 31) = true := bne_iff_ne.mpr c18
            (first | rw [c18b0] | (simp only [i64_w, i32_w]; rw [c18b0]) | skip)
            have H' := Aside0.mk H
            clear H
            go_wp2
            go_meet
            case rel => exact ⟨_, (wrap64 (a1 + 1)), (0), (0), (0), (false), (wrap64 (Go.bits .and .u8 (rd l0 a1) 31)), (by first | rfl | (simp; done) | (simp [*]; done)), H', ⟨by first | omega | exact Nat.le_refl _⟩, ⟨by (with_reducible repeat (first | refine blk_drewN ?_ _ | refine blk_drew ?_ | refine blk_alloc ?_ _)); refine blk_far ?_ NB105_109.out _; (with_reducible repeat (first | refine blk_drewN ?_ _ | refine blk_drew ?_ | refine blk_alloc ?_ _)); refine blk_far ?_ NB105_109.out _; (with_reducible repeat (first | refine blk_drewN ?_ _ | refine blk_drew ?_ | refine blk_alloc ?_ _)); refine blk_far ?_ NB105_109.out _; (with_reducible repeat (first | refine blk_drewN ?_ _ | refine blk_drew ?_ | refine blk_alloc ?_ _)); refine blk_far ?_ NB105_109.out _; (with_reducible repeat (first | refine blk_drewN ?_ _ | refine blk_drew ?_ | refine blk_alloc ?_ _)); exact BK105.out⟩, ⟨by (with_reducible repeat (first | refine blk_drewN ?_ _ | refine blk_drew ?_ | refine blk_alloc ?_ _)); refine blk_put (cs := #[.int .i64 (wrap64 ((rd l0 a1) / 64)), .int .i64 (wrap64 (Go.bits .and .u8 (rd l0 a1) 31)), .int .i64 0, .bool false]) ?_ 3 _ rfl; (with_reducible repeat (first | refine blk_drewN ?_ _ | refine blk_drew ?_ | refine blk_alloc ?_ _)); refine blk_put (cs := #[.int .i64 (wrap64 ((rd l0 a1) / 64)), .int .i64 (wrap64 (Go.bits .and .u8 (rd l0 a1) 31)), .int .i64 0, .bool false]) ?_ 2 _ rfl; (with_reducible repeat (first | refine blk_drewN ?_ _ | refine blk_drew ?_ | refine blk_alloc ?_ _)); refine blk_put (cs := #[.int .i64 (wrap64 ((rd l0 a1) / 64)), .int .i64 0, .int .i64 0, .bool false]) ?_ 1 _ rfl; (with_reducible repeat (first | refine blk_drewN ?_ _ | refine blk_drew ?_ | refine blk_alloc ?_ _)); refine blk_put (cs := #[.int .i64 0, .int .i64 0, .int .i64 0, .bool false]) ?_ 0 _ rfl; (with_reducible repeat (first | refine blk_drewN ?_ _ | refine blk_drew ?_ | refine blk_alloc ?_ _)); exact BK109.out⟩, ⟨by repeat (first | (with_reducible first | exact HB.out | apply below_alloc | apply pw_below_drewN | apply below_drew1 | refine below_set ?_ GE105.out | refine below_set ?_ GE109.out) | exact HB.out)⟩⟩
        case rest =>
          clear HC8
          try clear c1
          try clear p1
          try clear q1
          try clear hx1
          try clear c2
          try clear p2
          try clear c3
          try clear c3b0
          try clear c4
          try clear c6
          try clear c6b0
          try clear p6
          try clear c7
          try clear c7b0
          try clear p10
          try clear q10
          try clear hx10
          try clear c14
          try clear c16
          try clear c18
          try clear c18b0
          try clear c18b1
          try clear c20
          try clear c21
          try clear c21b0
          try clear c23
          try clear c26
          try clear c29
          try clear hcz17_0
          try clear hcz17_1
          try clear hcz17_2
          try clear hcz17_3
          try clear hcz24_0
          try clear hcz24_1
          try clear hcz24_2
          try clear hcz24_3
          try clear hcz27_0
          try clear hcz27_1
          try clear hcz27_2
          try clear hcz27_3
          try clear hcz30_0
          try clear hcz30_1
          try clear hcz30_2
          try clear hcz30_3
          try clear hcz5_0
          try clear hcz5_1
          try clear hcz5_2
          try clear hcz5_3
          try clear hfz17_0
          try clear hfz17_1
          try clear hfz17_2
          try clear hfz17_3
          try clear hfz24_0
          try clear hfz24_1
          try clear hfz24_2
          try clear hfz24_3
          try clear hfz27_0
          try clear hfz27_1
          try clear hfz27_2
          try clear hfz27_3
          try clear hfz30_0
          try clear hfz30_1
          try clear hfz30_2
          try clear hfz30_3
          try clear hfz5_0
          try clear hfz5_1
          try clear hfz5_2
          try clear hfz5_3
          try clear hx106_0
          try clear hx107_0
          try clear hx108_0
          try clear p106
          try clear p107
          try clear p108
          try clear q106
          try clear q107
          try clear q108
          obtain ⟨kq, x1_7, x106000_7, x106001_7, x106002_7, x106003_7, x110001_7, rfl, HA, HJ7, BK105, BK109, HB⟩ := hcut
          cases kq with
          | zero => exact absurd HA.out (by simp [spec_Header.j0])
          | succ kj7 =>
            have H := HA.out
            clear HA
            simp only [spec_Header.j0] at H
            by_cases c31 : x1_7 ≥ (l0.length : Int)
            · rw [if_pos c31] at H
              have c31b0 : decide ((l0.length : Int) ≤ x1_7) = true := decide_eq_true c31
              clear c31
              simp only [Option.some.injEq, Prod.mk.injEq] at H
              obtain ⟨rfl, rfl, rfl, rfl, rfl, rfl⟩ := H
              have hnb32 := NB105_109.out
              have hnc32 := NB109_105.out
              have hcz33_0 : wc.cell? ⟨gb105, 0, none⟩ = some (.int .i64 x106000_7) := (blk_cell BK105.out 0).trans rfl
              have hcz33_1 : wc.cell? ⟨gb105, 1, none⟩ = some (.int .i64 x106001_7) := (blk_cell BK105.out 1).trans rfl
              have hcz33_2 : wc.cell? ⟨gb105, 2, none⟩ = some (.int .i64 x106002_7) := (blk_cell BK105.out 2).trans rfl
              have hcz33_3 : wc.cell? ⟨gb105, 3, none⟩ = some (.bool x106003_7) := (blk_cell BK105.out 3).trans rfl
              have hfz33_0 := blk_frozen BK105.out 0
              have hfz33_1 := blk_frozen BK105.out 1
              have hfz33_2 := blk_frozen BK105.out 2
              have hfz33_3 := blk_frozen BK105.out 3
              go_wp2
              refine bodyPost_ret (results_ctt rfl _ _ gb105 27 #[.int .i64 0, .int .i64 0, .int .i64 0, .bool false] (0, 0) _ rfl (by (with_reducible repeat (first | refine blk_drewN ?_ _ | refine blk_drew ?_ | refine blk_alloc ?_ _)); refine blk_put (cs := #[.int .i64 0, .int .i64 0, .int .i64 0, .bool x106003_7]) ?_ 3 _ rfl; (with_reducible repeat (first | refine blk_drewN ?_ _ | refine blk_drew ?_ | refine blk_alloc ?_ _)); refine blk_put (cs := #[.int .i64 0, .int .i64 0, .int .i64 x106002_7, .bool x106003_7]) ?_ 2 _ rfl; (with_reducible repeat (first | refine blk_drewN ?_ _ | refine blk_drew ?_ | refine blk_alloc ?_ _)); refine blk_put (cs := #[.int .i64 0, .int .i64 x106001_7, .int .i64 x106002_7, .bool x106003_7]) ?_ 1 _ rfl; (with_reducible repeat (first | refine blk_drewN ?_ _ | refine blk_drew ?_ | refine blk_alloc ?_ _)); refine blk_put (cs := #[.int .i64 x106000_7, .int .i64 x106001_7, .int .i64 x106002_7, .bool x106003_7]) ?_ 0 _ rfl; (with_reducible repeat (first | refine blk_drewN ?_ _ | refine blk_drew ?_ | refine blk_alloc ?_ _)); exact BK105.out) Try.underlying27 rfl (by kernel_rfl)) rfl ?_
              exact ⟨by first | rfl | (simp [errW_none, errW_some] <;> rfl) | (simp [*, errW_none, errW_some] <;> rfl), by repeat (first | (with_reducible first | exact HB.out | apply below_alloc | apply pw_below_drewN | apply below_drew1 | refine below_set ?_ GE105.out | refine below_set ?_ GE109.out) | exact HB.out)⟩
            · rw [if_neg c31] at H
              have c31b0 : decide ((l0.length : Int) ≤ x1_7) = false := decide_eq_false c31
              clear c31
              by_cases c34 : 0 ≤ x1_7
              · rw [if_pos c34] at H
                have c34b0 : decide (0 ≤ x1_7) = true := decide_eq_true c34
                clear c34
                by_cases c35 : x1_7 < (l0.length : Int)
                · rw [if_pos c35] at H
                  have c35b0 : decide (x1_7 < (l0.length : Int)) = true := decide_eq_true c35
                  clear c35
                  by_cases c36 : (wrap64 (rd l0 x1_7)) < 128
                  · rw [if_pos c36] at H
                    have c36b0 : decide ((wrap64 (rd l0 x1_7)) < 128) = true := decide_eq_true c36
                    clear c36
                    simp only [Option.some.injEq, Prod.mk.injEq] at H
                    obtain ⟨rfl, rfl, rfl, rfl, rfl, rfl⟩ := H
                    have p113 : 0 ≤ (x1_7 : Int) := of_decide_eq_true (by first | (with_reducible assumption) | assumption)
                    have q113 : x1_7 < (l0.length : Int) := of_decide_eq_true (by first | (with_reducible assumption) | assumption)
                    obtain ⟨ad113, e113, hx113_0⟩ := Kd.at_int HR0.out x1_7 p113 q113
                    obtain rfl : ad106 = ad113 := (by injection e113)
                    replace hx113_0 := (HB.out.cell (World.block_lt_of_cell? w _ hx113_0)).trans hx113_0
                    replace p113 := eq_true p113
                    replace q113 := eq_true q113
                    have hnb37 := NB109_105.out
                    have hnc37 := NB105_109.out
                    have hcz38_0 : wc.cell? ⟨gb109, 0, none⟩ = some (.int .i64 (wrap64 ((rd l0 a1) / 64))) := (blk_cell BK109.out 0).trans rfl
                    have hcz38_1 : wc.cell? ⟨gb109, 1, none⟩ = some (.int .i64 x110001_7) := (blk_cell BK109.out 1).trans rfl
                    have hcz38_2 : wc.cell? ⟨gb109, 2, none⟩ = some (.int .i64 0) := (blk_cell BK109.out 2).trans rfl
                    have hcz38_3 : wc.cell? ⟨gb109, 3, none⟩ = some (.bool ((Go.bits .and .u8 (rd l0 a1) 32) != 0)) := (blk_cell BK109.out 3).trans rfl
                    have hfz38_0 := blk_frozen BK109.out 0
                    have hfz38_1 := blk_frozen BK109.out 1
                    have hfz38_2 := blk_frozen BK109.out 2
                    have hfz38_3 := blk_frozen BK109.out 3
                    have hcz39_0 : wc.cell? ⟨gb105, 0, none⟩ = some (.int .i64 x106000_7) := (blk_cell BK105.out 0).trans rfl
                    have hcz39_1 : wc.cell? ⟨gb105, 1, none⟩ = some (.int .i64 x106001_7) := (blk_cell BK105.out 1).trans rfl
                    have hcz39_2 : wc.cell? ⟨gb105, 2, none⟩ = some (.int .i64 x106002_7) := (blk_cell BK105.out 2).trans rfl
                    have hcz39_3 : wc.cell? ⟨gb105, 3, none⟩ = some (.bool x106003_7) := (blk_cell BK105.out 3).trans rfl
                    have hfz39_0 := blk_frozen BK105.out 0
                    have hfz39_1 := blk_frozen BK105.out 1
                    have hfz39_2 := blk_frozen BK105.out 2
                    have hfz39_3 := blk_frozen BK105.out 3
                    go_wp2
                    refine bodyPost_ret (results_ctt rfl _ _ gb105 27 #[.int .i64 (wrap64 ((rd l0 a1) / 64)), .int .i64 x110001_7, .int .i64 (wrap64 (rd l0 x1_7)), .bool ((Go.bits .and .u8 (rd l0 a1) 32) != 0)] (0, 0) _ rfl (by (with_reducible repeat (first | refine blk_drewN ?_ _ | refine blk_drew ?_ | refine blk_alloc ?_ _)); refine blk_put (cs := #[.int .i64 (wrap64 ((rd l0 a1) / 64)), .int .i64 x110001_7, .int .i64 (wrap64 (rd l0 x1_7)), .bool x106003_7]) ?_ 3 _ rfl; (with_reducible repeat (first | refine blk_drewN ?_ _ | refine blk_drew ?_ | refine blk_alloc ?_ _)); refine blk_put (cs := #[.int .i64 (wrap64 ((rd l0 a1) / 64)), .int .i64 x110001_7, .int .i64 x106002_7, .bool x106003_7]) ?_ 2 _ rfl; (with_reducible repeat (first | refine blk_drewN ?_ _ | refine blk_drew ?_ | refine blk_alloc ?_ _)); refine blk_put (cs := #[.int .i64 (wrap64 ((rd l0 a1) / 64)), .int .i64 x106001_7, .int .i64 x106002_7, .bool x106003_7]) ?_ 1 _ rfl; (with_reducible repeat (first | refine blk_drewN ?_ _ | refine blk_drew ?_ | refine blk_alloc ?_ _)); refine blk_put (cs := #[.int .i64 x106000_7, .int .i64 x106001_7, .int .i64 x106002_7, .bool x106003_7]) ?_ 0 _ rfl; (with_reducible repeat (first | refine blk_drewN ?_ _ | refine blk_drew ?_ | refine blk_alloc ?_ _)); refine blk_far ?_ NB105_109.out _; (with_reducible repeat (first | refine blk_drewN ?_ _ | refine blk_drew ?_ | refine blk_alloc ?_ _)); exact BK105.out) Try.underlying27 rfl (by kernel_rfl)) rfl ?_
                    exact ⟨by first | rfl | (simp [errW_none, errW_some] <;> rfl) | (simp [*, errW_none, errW_some] <;> rfl), by repeat (first | (with_reducible first | exact HB.out | apply below_alloc | apply pw_below_drewN | apply below_drew1 | refine below_set ?_ GE105.out | refine below_set ?_ GE109.out) | exact HB.out)⟩
                  · rw [if_neg c36] at H
                    have c36b0 : decide ((wrap64 (rd l0 x1_7)) < 128) = false := decide_eq_false c36
                    clear c36
                    have HC40 := Aside0.mk H
                    clear H
                    have p113 : 0 ≤ (x1_7 : Int) := of_decide_eq_true (by first | (with_reducible assumption) | assumption)
                    have q113 : x1_7 < (l0.length : Int) := of_decide_eq_true (by first | (with_reducible assumption) | assumption)
                    obtain ⟨ad113, e113, hx113_0⟩ := Kd.at_int HR0.out x1_7 p113 q113
                    obtain rfl : ad106 = ad113 := (by injection e113)
                    replace hx113_0 := (HB.out.cell (World.block_lt_of_cell? w _ hx113_0)).trans hx113_0
                    replace p113 := eq_true p113
                    replace q113 := eq_true q113
                    go_upto_region 18 with (fail)
                    go_cut [89] (fun v89 wc => ∃ (kq : Nat) (x89_39 : Bool), v89 = .bool x89_39 ∧ Aside0 (spec_Header.j1 kq l0 (wrap64 (x1_7 + 1)) (Go.bits .and .i64 (wrap64 (rd l0 x1_7)) 127) x89_39 (wrap64 ((rd l0 a1) / 64)) x110001_7 0 ((Go.bits .and .u8 (rd l0 a1) 32) != 0) = some (r1, r2, r3, r4, r5, r6)) ∧ Aside0 (kq ≤ kj7) ∧ Aside0 (wc.heap[gb105]? = some (.cells #[.int .i64 x106000_7, .int .i64 x106001_7, .int .i64 x106002_7, .bool x106003_7] 27 (0, 0))) ∧ Aside0 (wc.heap[gb109]? = some (.cells #[.int .i64 (wrap64 ((rd l0 a1) / 64)), .int .i64 x110001_7, .int .i64 0, .bool ((Go.bits .and .u8 (rd l0 a1) 32) != 0)] 27 (0, 0))) ∧ Aside0 (Below w.heap.size w wc))
                    case first =>
                      have H := HC40.out
                      clear HC40
                      by_cases c41 : (Go.bits .and .i64 (wrap64 (rd l0 x1_7)) 127) = 0
                      · rw [if_pos c41] at H
                        have c41b0 : ((Go.bits .and .i64 (wrap64 (rd l0 x1_7)) 127) == 0) = true := beq_iff_eq.mpr c41
                        have c41b1 : ((Go.bits .and .i64 (wrap64 (rd l0 x1_7)) 127) != 0) = false := bne_eq_false_iff_eq.mpr c41
                        clear c41
                        (first | rw [c41b0] | (simp only [i64_w, i32_w]; rw [c41b0]) | skip)
                        have H' := Aside0.mk H
                        clear H
                        go_wp2
                        go_meet
                        case rel => exact ⟨_, (true), (by first | rfl | (simp; done) | (simp [*]; done)), H', ⟨by have := HJ7.out; first | omega | exact Nat.le_refl _⟩, ⟨by (with_reducible repeat (first | refine blk_drewN ?_ _ | refine blk_drew ?_ | refine blk_alloc ?_ _)); exact BK105.out⟩, ⟨by (with_reducible repeat (first | refine blk_drewN ?_ _ | refine blk_drew ?_ | refine blk_alloc ?_ _)); exact BK109.out⟩, ⟨by repeat (first | (with_reducible first | exact HB.out | apply below_alloc | apply pw_below_drewN | apply below_drew1 | refine below_set ?_ GE105.out | refine below_set ?_ GE109.out) | exact HB.out)⟩⟩
                      · rw [if_neg c41] at H
                        have c41b0 : ((Go.bits .and .i64 (wrap64 (rd l0 x1_7)) 127) == 0) = false := beq_eq_false_iff_ne.mpr c41
                        have c41b1 : ((Go.bits .and .i64 (wrap64 (rd l0 x1_7)) 127) != 0) = true := bne_iff_ne.mpr c41
                        (first | rw [c41b0] | (simp only [i64_w, i32_w]; rw [c41b0]) | skip)
                        have H' := Aside0.mk H
                        clear H
                        go_wp2
                        go_meet
                        case rel => exact ⟨_, (decide ((Go.bits .and .i64 (wrap64 (rd l0 x1_7)) 127) > (wrap64 ((l0.length : Int) - (wrap64 (x1_7 + 1)))))), (by first | rfl | (simp; done) | (simp [*]; done)), H', ⟨by have := HJ7.out; first | omega | exact Nat.le_refl _⟩, ⟨by (with_reducible repeat (first | refine blk_drewN ?_ _ | refine blk_drew ?_ | refine blk_alloc ?_ _)); exact BK105.out⟩, ⟨by (with_reducible repeat (first | refine blk_drewN ?_ _ | refine blk_drew ?_ | refine blk_alloc ?_ _)); exact BK109.out⟩, ⟨by repeat (first | (with_reducible first | exact HB.out | apply below_alloc | apply pw_below_drewN | apply below_drew1 | refine below_set ?_ GE105.out | refine below_set ?_ GE109.out) | exact HB.out)⟩⟩
                    case rest =>
                      clear HC40
                      try clear c1
                      try clear p1
                      try clear q1
                      try clear hx1
                      try clear c2
                      try clear p2
                      try clear c3
                      try clear c3b0
                      try clear c4
                      try clear c6
                      try clear c6b0
                      try clear p6
                      try clear c7
                      try clear c7b0
                      try clear p10
                      try clear q10
                      try clear hx10
                      try clear p11
                      try clear q11
                      try clear hx11
                      try clear c14
                      try clear c16
                      try clear c18
                      try clear c18b0
                      try clear c18b1
                      try clear c20
                      try clear c21
                      try clear c21b0
                      try clear c23
                      try clear c26
                      try clear c29
                      try clear c31
                      try clear c31b0
                      try clear c32
                      try clear c34
                      try clear c34b0
                      try clear c35
                      try clear c35b0
                      try clear c36
                      try clear c36b0
                      try clear c37
                      try clear c40
                      try clear c41
                      try clear c41b0
                      try clear c41b1
                      try clear hcz17_0
                      try clear hcz17_1
                      try clear hcz17_2
                      try clear hcz17_3
                      try clear hcz24_0
                      try clear hcz24_1
                      try clear hcz24_2
                      try clear hcz24_3
                      try clear hcz27_0
                      try clear hcz27_1
                      try clear hcz27_2
                      try clear hcz27_3
                      try clear hcz30_0
                      try clear hcz30_1
                      try clear hcz30_2
                      try clear hcz30_3
                      try clear hcz33_0
                      try clear hcz33_1
                      try clear hcz33_2
                      try clear hcz33_3
                      try clear hcz38_0
                      try clear hcz38_1
                      try clear hcz38_2
                      try clear hcz38_3
                      try clear hcz39_0
                      try clear hcz39_1
                      try clear hcz39_2
                      try clear hcz39_3
                      try clear hcz5_0
                      try clear hcz5_1
                      try clear hcz5_2
                      try clear hcz5_3
                      try clear hfz17_0
                      try clear hfz17_1
                      try clear hfz17_2
                      try clear hfz17_3
                      try clear hfz24_0
                      try clear hfz24_1
                      try clear hfz24_2
                      try clear hfz24_3
                      try clear hfz27_0
                      try clear hfz27_1
                      try clear hfz27_2
                      try clear hfz27_3
                      try clear hfz30_0
                      try clear hfz30_1
                      try clear hfz30_2
                      try clear hfz30_3
                      try clear hfz33_0
                      try clear hfz33_1
                      try clear hfz33_2
                      try clear hfz33_3
                      try clear hfz38_0
                      try clear hfz38_1
                      try clear hfz38_2
                      try clear hfz38_3
                      try clear hfz39_0
                      try clear hfz39_1
                      try clear hfz39_2
                      try clear hfz39_3
                      try clear hfz5_0
                      try clear hfz5_1
                      try clear hfz5_2
                      try clear hfz5_3
                      try clear hx106_0
                      try clear hx107_0
                      try clear hx108_0
                      try clear hx113_0
                      try clear p1
                      try clear p10
                      try clear p106
                      try clear p107
                      try clear p108
                      try clear p113
                      try clear p2
                      try clear p6
                      try clear q1
                      try clear q10
                      try clear q106
                      try clear q107
                      try clear q108
                      try clear q113
                      obtain ⟨kq, x89_39, rfl, HA, HJ39, BK105, BK109, HB⟩ := hcut
                      cases kq with
                      | zero => exact absurd HA.out (by simp [spec_Header.j1])
                      | succ kj39 =>
                        have H := HA.out
                        clear HA
                        simp only [spec_Header.j1] at H
                        by_cases c42 : x89_39 = true
                        · subst c42
                          have H1 : (some (0, 0, 0, false, 0, false)) = some (r1, r2, r3, r4, r5, r6) := by rw [if_pos rfl] at H; exact H
                          clear H
                          have H := H1
                          clear H1
                          simp only [Option.some.injEq, Prod.mk.injEq] at H
                          obtain ⟨rfl, rfl, rfl, rfl, rfl, rfl⟩ := H
                          have hnb43 := NB105_109.out
                          have hnc43 := NB109_105.out
                          have hcz44_0 : wc.cell? ⟨gb105, 0, none⟩ = some (.int .i64 x106000_7) := (blk_cell BK105.out 0).trans rfl
                          have hcz44_1 : wc.cell? ⟨gb105, 1, none⟩ = some (.int .i64 x106001_7) := (blk_cell BK105.out 1).trans rfl
                          have hcz44_2 : wc.cell? ⟨gb105, 2, none⟩ = some (.int .i64 x106002_7) := (blk_cell BK105.out 2).trans rfl
                          have hcz44_3 : wc.cell? ⟨gb105, 3, none⟩ = some (.bool x106003_7) := (blk_cell BK105.out 3).trans rfl
                          have hfz44_0 := blk_frozen BK105.out 0
                          have hfz44_1 := blk_frozen BK105.out 1
                          have hfz44_2 := blk_frozen BK105.out 2
                          have hfz44_3 := blk_frozen BK105.out 3
                          go_wp2
                          refine bodyPost_ret (results_ctt rfl _ _ gb105 27 #[.int .i64 0, .int .i64 0, .int .i64 0, .bool false] (0, 0) _ rfl (by (with_reducible repeat (first | refine blk_drewN ?_ _ | refine blk_drew ?_ | refine blk_alloc ?_ _)); refine blk_put (cs := #[.int .i64 0, .int .i64 0, .int .i64 0, .bool x106003_7]) ?_ 3 _ rfl; (with_reducible repeat (first | refine blk_drewN ?_ _ | refine blk_drew ?_ | refine blk_alloc ?_ _)); refine blk_put (cs := #[.int .i64 0, .int .i64 0, .int .i64 x106002_7, .bool x106003_7]) ?_ 2 _ rfl; (with_reducible repeat (first | refine blk_drewN ?_ _ | refine blk_drew ?_ | refine blk_alloc ?_ _)); refine blk_put (cs := #[.int .i64 0, .int .i64 x106001_7, .int .i64 x106002_7, .bool x106003_7]) ?_ 1 _ rfl; (with_reducible repeat (first | refine blk_drewN ?_ _ | refine blk_drew ?_ | refine blk_alloc ?_ _)); refine blk_put (cs := #[.int .i64 x106000_7, .int .i64 x106001_7, .int .i64 x106002_7, .bool x106003_7]) ?_ 0 _ rfl; (with_reducible repeat (first | refine blk_drewN ?_ _ | refine blk_drew ?_ | refine blk_alloc ?_ _)); exact BK105.out) Try.underlying27 rfl (by kernel_rfl)) rfl ?_
                          exact ⟨by first | rfl | (simp [errW_none, errW_some] <;> rfl) | (simp [*, errW_none, errW_some] <;> rfl), by repeat (first | (with_reducible first | exact HB.out | apply below_alloc | apply pw_below_drewN | apply below_drew1 | refine below_set ?_ GE105.out | refine below_set ?_ GE109.out) | exact HB.out)⟩
                        · replace c42 := Bool.eq_false_iff.mpr c42
                          subst c42
                          have H1 : (spec_Header.l0 kj39 l0 (wrap64 (x1_7 + 1)) (Go.bits .and .i64 (wrap64 (rd l0 x1_7)) 127) 0 (wrap64 ((rd l0 a1) / 64)) x110001_7 0 ((Go.bits .and .u8 (rd l0 a1) 32) != 0)) = some (r1, r2, r3, r4, r5, r6) := by rw [if_neg (show ¬ (false = true) by decide)] at H; exact H
                          clear H
                          have H := H1
                          clear H1
                          have H' := Aside0.mk H
                          clear H
                          go_wp2
                          go_loopg [1, 92] kj39 (fun kq v1 v92 w' => ∃ (x1_3 : Int) (x92_3 : Int) (x106000_3 : Int) (x106001_3 : Int) (x106002_3 : Int) (x106003_3 : Bool) (x110002_3 : Int), v1 = .int .i64 x1_3 ∧ v92 = .int .i64 x92_3 ∧ Aside0 (spec_Header.l0 kq l0 x1_3 (Go.bits .and .i64 (wrap64 (rd l0 x1_7)) 127) x92_3 (wrap64 ((rd l0 a1) / 64)) x110001_7 x110002_3 ((Go.bits .and .u8 (rd l0 a1) 32) != 0) = some (r1, r2, r3, r4, r5, r6)) ∧ Aside0 (kq ≤ kj39) ∧ Aside0 (w'.heap[gb105]? = some (.cells #[.int .i64 x106000_3, .int .i64 x106001_3, .int .i64 x106002_3, .bool x106003_3] 27 (0, 0))) ∧ Aside0 (w'.heap[gb109]? = some (.cells #[.int .i64 (wrap64 ((rd l0 a1) / 64)), .int .i64 x110001_7, .int .i64 x110002_3, .bool ((Go.bits .and .u8 (rd l0 a1) 32) != 0)] 27 (0, 0))) ∧ Aside0 (Below w.heap.size w w'))
                          case atStart => exact ⟨((wrap64 (x1_7 + 1))), (0), (x106000_7), (x106001_7), (x106002_7), (x106003_7), (0), (by first | rfl | (simp; done) | (simp [*]; done)), (by first | rfl | (simp; done) | (simp [*]; done)), H', ⟨Nat.le_refl _⟩, ⟨by (with_reducible repeat (first | refine blk_drewN ?_ _ | refine blk_drew ?_ | refine blk_alloc ?_ _)); exact BK105.out⟩, ⟨by (with_reducible repeat (first | refine blk_drewN ?_ _ | refine blk_drew ?_ | refine blk_alloc ?_ _)); exact BK109.out⟩, ⟨by repeat (first | (with_reducible first | exact HB.out | apply below_alloc | apply pw_below_drewN | apply below_drew1 | refine below_set ?_ GE105.out | refine below_set ?_ GE109.out) | exact HB.out)⟩⟩
                          case round =>
                            clear H'
                            try clear c1
                            try clear p1
                            try clear q1
                            try clear hx1
                            try clear c2
                            try clear p2
                            try clear c3
                            try clear c3b0
                            try clear c4
                            try clear c6
                            try clear c6b0
                            try clear p6
                            try clear c7
                            try clear c7b0
                            try clear p10
                            try clear q10
                            try clear hx10
                            try clear p11
                            try clear q11
                            try clear hx11
                            try clear c14
                            try clear c16
                            try clear c18
                            try clear c18b0
                            try clear c18b1
                            try clear c20
                            try clear c21
                            try clear c21b0
                            try clear c23
                            try clear c26
                            try clear c29
                            try clear c31
                            try clear c31b0
                            try clear c32
                            try clear c34
                            try clear c34b0
                            try clear c35
                            try clear c35b0
                            try clear c36
                            try clear c36b0
                            try clear c37
                            try clear c40
                            try clear c41
                            try clear c41b0
                            try clear c41b1
                            try clear c42
                            try clear c43
                            try clear hcz17_0
                            try clear hcz17_1
                            try clear hcz17_2
                            try clear hcz17_3
                            try clear hcz24_0
                            try clear hcz24_1
                            try clear hcz24_2
                            try clear hcz24_3
                            try clear hcz27_0
                            try clear hcz27_1
                            try clear hcz27_2
                            try clear hcz27_3
                            try clear hcz30_0
                            try clear hcz30_1
                            try clear hcz30_2
                            try clear hcz30_3
                            try clear hcz33_0
                            try clear hcz33_1
                            try clear hcz33_2
                            try clear hcz33_3
                            try clear hcz38_0
                            try clear hcz38_1
                            try clear hcz38_2
                            try clear hcz38_3
                            try clear hcz39_0
                            try clear hcz39_1
                            try clear hcz39_2
                            try clear hcz39_3
                            try clear hcz44_0
                            try clear hcz44_1
                            try clear hcz44_2
                            try clear hcz44_3
                            try clear hcz5_0
                            try clear hcz5_1
                            try clear hcz5_2
                            try clear hcz5_3
                            try clear hfz17_0
                            try clear hfz17_1
                            try clear hfz17_2
                            try clear hfz17_3
                            try clear hfz24_0
                            try clear hfz24_1
                            try clear hfz24_2
                            try clear hfz24_3
                            try clear hfz27_0
                            try clear hfz27_1
                            try clear hfz27_2
                            try clear hfz27_3
                            try clear hfz30_0
                            try clear hfz30_1
                            try clear hfz30_2
                            try clear hfz30_3
                            try clear hfz33_0
                            try clear hfz33_1
                            try clear hfz33_2
                            try clear hfz33_3
                            try clear hfz38_0
                            try clear hfz38_1
                            try clear hfz38_2
                            try clear hfz38_3
                            try clear hfz39_0
                            try clear hfz39_1
                            try clear hfz39_2
                            try clear hfz39_3
                            try clear hfz44_0
                            try clear hfz44_1
                            try clear hfz44_2
                            try clear hfz44_3
                            try clear hfz5_0
                            try clear hfz5_1
                            try clear hfz5_2
                            try clear hfz5_3
                            try clear hx106_0
                            try clear hx107_0
                            try clear hx108_0
                            try clear hx113_0
                            try clear p1
                            try clear p10
                            try clear p106
                            try clear p107
                            try clear p108
                            try clear p11
                            try clear p113
                            try clear p2
                            try clear p6
                            try clear q1
                            try clear q10
                            try clear q106
                            try clear q107
                            try clear q108
                            try clear q11
                            try clear q113
                            obtain ⟨x1_3, x92_3, x106000_3, x106001_3, x106002_3, x106003_3, x110002_3, rfl, rfl, HA, HK3, BK105, BK109, HB⟩ := hrel
                            cases gk with
                            | zero => exact absurd HA.out (by simp [spec_Header.l0])
                            | succ k3 =>
                              have H := HA.out
                              clear HA
                              simp only [spec_Header.l0] at H
                              by_cases c45 : x92_3 < (Go.bits .and .i64 (wrap64 (rd l0 x1_7)) 127)
                              · rw [if_pos c45] at H
                                have c45b0 : decide (x92_3 < (Go.bits .and .i64 (wrap64 (rd l0 x1_7)) 127)) = true := decide_eq_true c45
                                clear c45
                                by_cases c46 : x92_3 = 0
                                · rw [if_pos c46] at H
                                  have c46b0 : (x92_3 == 0) = true := beq_iff_eq.mpr c46
                                  have c46b1 : (x92_3 != 0) = false := bne_eq_false_iff_eq.mpr c46
                                  clear c46
                                  by_cases c47 : 0 ≤ x1_3
                                  · rw [if_pos c47] at H
                                    have c47b0 : decide (0 ≤ x1_3) = true := decide_eq_true c47
                                    clear c47
                                    by_cases c48 : x1_3 < (l0.length : Int)
                                    · rw [if_pos c48] at H
                                      have c48b0 : decide (x1_3 < (l0.length : Int)) = true := decide_eq_true c48
                                      clear c48
                                      by_cases c49 : (rd l0 x1_3) = 0
                                      · rw [if_pos c49] at H
                                        have c49b0 : ((rd l0 x1_3) == 0) = true := beq_iff_eq.mpr c49
                                        have c49b1 : ((rd l0 x1_3) != 0) = false := bne_eq_false_iff_eq.mpr c49
                                        clear c49
                                        simp only [Option.some.injEq, Prod.mk.injEq] at H
                                        obtain ⟨rfl, rfl, rfl, rfl, rfl, rfl⟩ := H
                                        have p114 : 0 ≤ (x1_3 : Int) := of_decide_eq_true (by first | (with_reducible assumption) | assumption)
                                        have q114 : x1_3 < (l0.length : Int) := of_decide_eq_true (by first | (with_reducible assumption) | assumption)
                                        obtain ⟨ad114, e114, hx114_0⟩ := Kd.at_int HR0.out x1_3 p114 q114
                                        obtain rfl : ad106 = ad114 := (by injection e114)
                                        replace hx114_0 := (HB.out.cell (World.block_lt_of_cell? w _ hx114_0)).trans hx114_0
                                        replace p114 := eq_true p114
                                        replace q114 := eq_true q114
                                        have hnb50 := NB105_109.out
                                        have hnc50 := NB109_105.out
                                        have hcz51_0 : wr.cell? ⟨gb105, 0, none⟩ = some (.int .i64 x106000_3) := (blk_cell BK105.out 0).trans rfl
                                        have hcz51_1 : wr.cell? ⟨gb105, 1, none⟩ = some (.int .i64 x106001_3) := (blk_cell BK105.out 1).trans rfl
                                        have hcz51_2 : wr.cell? ⟨gb105, 2, none⟩ = some (.int .i64 x106002_3) := (blk_cell BK105.out 2).trans rfl
                                        have hcz51_3 : wr.cell? ⟨gb105, 3, none⟩ = some (.bool x106003_3) := (blk_cell BK105.out 3).trans rfl
                                        have hfz51_0 := blk_frozen BK105.out 0
                                        have hfz51_1 := blk_frozen BK105.out 1
                                        have hfz51_2 := blk_frozen BK105.out 2
                                        have hfz51_3 := blk_frozen BK105.out 3
                                        go_wp2
                                        refine bodyPost_ret (results_ctt rfl _ _ gb105 27 #[.int .i64 0, .int .i64 0, .int .i64 0, .bool false] (0, 0) _ rfl (by (with_reducible repeat (first | refine blk_drewN ?_ _ | refine blk_drew ?_ | refine blk_alloc ?_ _)); refine blk_put (cs := #[.int .i64 0, .int .i64 0, .int .i64 0, .bool x106003_3]) ?_ 3 _ rfl; (with_reducible repeat (first | refine blk_drewN ?_ _ | refine blk_drew ?_ | refine blk_alloc ?_ _)); refine blk_put (cs := #[.int .i64 0, .int .i64 0, .int .i64 x106002_3, .bool x106003_3]) ?_ 2 _ rfl; (with_reducible repeat (first | refine blk_drewN ?_ _ | refine blk_drew ?_ | refine blk_alloc ?_ _)); refine blk_put (cs := #[.int .i64 0, .int .i64 x106001_3, .int .i64 x106002_3, .bool x106003_3]) ?_ 1 _ rfl; (with_reducible repeat (first | refine blk_drewN ?_ _ | refine blk_drew ?_ | refine blk_alloc ?_ _)); refine blk_put (cs := #[.int .i64 x106000_3, .int .i64 x106001_3, .int .i64 x106002_3, .bool x106003_3]) ?_ 0 _ rfl; (with_reducible repeat (first | refine blk_drewN ?_ _ | refine blk_drew ?_ | refine blk_alloc ?_ _)); exact BK105.out) Try.underlying27 rfl (by kernel_rfl)) rfl ?_
                                        exact ⟨by first | rfl | (simp [errW_none, errW_some] <;> rfl) | (simp [*, errW_none, errW_some] <;> rfl), by repeat (first | (with_reducible first | exact HB.out | apply below_alloc | apply pw_below_drewN | apply below_drew1 | refine below_set ?_ GE105.out | refine below_set ?_ GE109.out) | exact HB.out)⟩
                                      · rw [if_neg c49] at H
                                        have c49b0 : ((rd l0 x1_3) == 0) = false := beq_eq_false_iff_ne.mpr c49
                                        have c49b1 : ((rd l0 x1_3) != 0) = true := bne_iff_ne.mpr c49
                                        by_cases c52 : x110002_3 ≥ 8388608
                                        · rw [if_pos c52] at H
                                          have c52b0 : decide (8388608 ≤ x110002_3) = true := decide_eq_true c52
                                          clear c52
                                          simp only [Option.some.injEq, Prod.mk.injEq] at H
                                          obtain ⟨rfl, rfl, rfl, rfl, rfl, rfl⟩ := H
                                          have p114 : 0 ≤ (x1_3 : Int) := of_decide_eq_true (by first | (with_reducible assumption) | assumption)
                                          have q114 : x1_3 < (l0.length : Int) := of_decide_eq_true (by first | (with_reducible assumption) | assumption)
                                          obtain ⟨ad114, e114, hx114_0⟩ := Kd.at_int HR0.out x1_3 p114 q114
                                          obtain rfl : ad106 = ad114 := (by injection e114)
                                          replace hx114_0 := (HB.out.cell (World.block_lt_of_cell? w _ hx114_0)).trans hx114_0
                                          replace p114 := eq_true p114
                                          replace q114 := eq_true q114
                                          have hnb53 := NB109_105.out
                                          have hnc53 := NB105_109.out
                                          have hcz54_0 : wr.cell? ⟨gb109, 0, none⟩ = some (.int .i64 (wrap64 ((rd l0 a1) / 64))) := (blk_cell BK109.out 0).trans rfl
                                          have hcz54_1 : wr.cell? ⟨gb109, 1, none⟩ = some (.int .i64 x110001_7) := (blk_cell BK109.out 1).trans rfl
                                          have hcz54_2 : wr.cell? ⟨gb109, 2, none⟩ = some (.int .i64 x110002_3) := (blk_cell BK109.out 2).trans rfl
                                          have hcz54_3 : wr.cell? ⟨gb109, 3, none⟩ = some (.bool ((Go.bits .and .u8 (rd l0 a1) 32) != 0)) := (blk_cell BK109.out 3).trans rfl
                                          have hfz54_0 := blk_frozen BK109.out 0
                                          have hfz54_1 := blk_frozen BK109.out 1
                                          have hfz54_2 := blk_frozen BK109.out 2
                                          have hfz54_3 := blk_frozen BK109.out 3
                                          have hcz55_0 : wr.cell? ⟨gb105, 0, none⟩ = some (.int .i64 x106000_3) := (blk_cell BK105.out 0).trans rfl
                                          have hcz55_1 : wr.cell? ⟨gb105, 1, none⟩ = some (.int .i64 x106001_3) := (blk_cell BK105.out 1).trans rfl
                                          have hcz55_2 : wr.cell? ⟨gb105, 2, none⟩ = some (.int .i64 x106002_3) := (blk_cell BK105.out 2).trans rfl
                                          have hcz55_3 : wr.cell? ⟨gb105, 3, none⟩ = some (.bool x106003_3) := (blk_cell BK105.out 3).trans rfl
                                          have hfz55_0 := blk_frozen BK105.out 0
                                          have hfz55_1 := blk_frozen BK105.out 1
                                          have hfz55_2 := blk_frozen BK105.out 2
                                          have hfz55_3 := blk_frozen BK105.out 3
                                          go_wp2
                                          refine bodyPost_ret (results_ctt rfl _ _ gb105 27 #[.int .i64 0, .int .i64 0, .int .i64 0, .bool false] (0, 0) _ rfl (by (with_reducible repeat (first | refine blk_drewN ?_ _ | refine blk_drew ?_ | refine blk_alloc ?_ _)); refine blk_put (cs := #[.int .i64 0, .int .i64 0, .int .i64 0, .bool x106003_3]) ?_ 3 _ rfl; (with_reducible repeat (first | refine blk_drewN ?_ _ | refine blk_drew ?_ | refine blk_alloc ?_ _)); refine blk_put (cs := #[.int .i64 0, .int .i64 0, .int .i64 x106002_3, .bool x106003_3]) ?_ 2 _ rfl; (with_reducible repeat (first | refine blk_drewN ?_ _ | refine blk_drew ?_ | refine blk_alloc ?_ _)); refine blk_put (cs := #[.int .i64 0, .int .i64 x106001_3, .int .i64 x106002_3, .bool x106003_3]) ?_ 1 _ rfl; (with_reducible repeat (first | refine blk_drewN ?_ _ | refine blk_drew ?_ | refine blk_alloc ?_ _)); refine blk_put (cs := #[.int .i64 x106000_3, .int .i64 x106001_3, .int .i64 x106002_3, .bool x106003_3]) ?_ 0 _ rfl; (with_reducible repeat (first | refine blk_drewN ?_ _ | refine blk_drew ?_ | refine blk_alloc ?_ _)); exact BK105.out) Try.underlying27 rfl (by kernel_rfl)) rfl ?_
                                          exact ⟨by first | rfl | (simp [errW_none, errW_some] <;> rfl) | (simp [*, errW_none, errW_some] <;> rfl), by repeat (first | (with_reducible first | exact HB.out | apply below_alloc | apply pw_below_drewN | apply below_drew1 | refine below_set ?_ GE105.out | refine below_set ?_ GE109.out) | exact HB.out)⟩
                                        · rw [if_neg c52] at H
                                          have c52b0 : decide (8388608 ≤ x110002_3) = false := decide_eq_false c52
                                          clear c52
                                          have H' := Aside0.mk H
                                          clear H
                                          have p114 : 0 ≤ (x1_3 : Int) := of_decide_eq_true (by first | (with_reducible assumption) | assumption)
                                          have q114 : x1_3 < (l0.length : Int) := of_decide_eq_true (by first | (with_reducible assumption) | assumption)
                                          obtain ⟨ad114, e114, hx114_0⟩ := Kd.at_int HR0.out x1_3 p114 q114
                                          obtain rfl : ad106 = ad114 := (by injection e114)
                                          replace hx114_0 := (HB.out.cell (World.block_lt_of_cell? w _ hx114_0)).trans hx114_0
                                          replace p114 := eq_true p114
                                          replace q114 := eq_true q114
                                          have hnb56 := NB109_105.out
                                          have hnc56 := NB105_109.out
                                          have hcz57_0 : wr.cell? ⟨gb109, 0, none⟩ = some (.int .i64 (wrap64 ((rd l0 a1) / 64))) := (blk_cell BK109.out 0).trans rfl
                                          have hcz57_1 : wr.cell? ⟨gb109, 1, none⟩ = some (.int .i64 x110001_7) := (blk_cell BK109.out 1).trans rfl
                                          have hcz57_2 : wr.cell? ⟨gb109, 2, none⟩ = some (.int .i64 x110002_3) := (blk_cell BK109.out 2).trans rfl
                                          have hcz57_3 : wr.cell? ⟨gb109, 3, none⟩ = some (.bool ((Go.bits .and .u8 (rd l0 a1) 32) != 0)) := (blk_cell BK109.out 3).trans rfl
                                          have hfz57_0 := blk_frozen BK109.out 0
                                          have hfz57_1 := blk_frozen BK109.out 1
                                          have hfz57_2 := blk_frozen BK109.out 2
                                          have hfz57_3 := blk_frozen BK109.out 3
                                          try go_wp2
                                          have n0_ := Aside0.mk (blk_drew BK105.out)
                                          have n1_ := Aside0.mk (blk_drew BK109.out)
                                          have n2_ := Aside0.mk (below_drew1 HB.out)
                                          clear BK105
                                          clear BK109
                                          clear HB
                                          have BK105 := n0_
                                          have BK109 := n1_
                                          have HB := n2_
                                          clear n0_ n1_ n2_
                                          have p115 : 0 ≤ (x1_3 : Int) := of_decide_eq_true (by first | (with_reducible assumption) | assumption)
                                          have q115 : x1_3 < (l0.length : Int) := of_decide_eq_true (by first | (with_reducible assumption) | assumption)
                                          obtain ⟨ad115, e115, hx115_0⟩ := Kd.at_int HR0.out x1_3 p115 q115
                                          have hw115_0 := hx115_0
                                          obtain rfl : ad106 = ad115 := (by injection e115)
                                          replace hx115_0 := (HB.out.cell (World.block_lt_of_cell? w _ hx115_0)).trans hx115_0
                                          replace p115 := eq_true p115
                                          replace q115 := eq_true q115
                                          refine start_ (n := 11) (S := fun w' => w'.cell? ⟨gb109, 0, none⟩ = some (.int .i64 (wrap64 ((rd l0 a1) / 64))) ∧ w'.cell? ⟨gb109, 1, none⟩ = some (.int .i64 x110001_7) ∧ w'.cell? ⟨gb109, 2, none⟩ = some (.int .i64 x110002_3) ∧ w'.cell? ⟨gb109, 3, none⟩ = some (.bool ((Go.bits .and .u8 (rd l0 a1) 32) != 0)) ∧ w'.cell? (ad106.add (x1_3).toNat) = some (.int .u8 (rd l0 x1_3))) (ds := [10]) #[false, false, false, false, false, false, false, false, false, false, false] (by kernel_rfl) rfl rfl ⟨(blk_cell BK109.out 0).trans rfl, (blk_cell BK109.out 1).trans rfl, (blk_cell BK109.out 2).trans rfl, (blk_cell BK109.out 3).trans rfl, ((HB.out.cell (World.block_lt_of_cell? w _ hw115_0)).trans hw115_0)⟩ (fun hHeld => ?_); refine with_tabW spec_Header.tab25 spec_Header.bits25 (fun HT_ HW_ => ?_)
                                          generalize wr.drew = w58 at BK105 BK109 HB hx115_0 hHeld ⊢
                                          refine pure_ (i := 0) (N := some 110) (v := ?_) (a' := ?_) #[true, false, false, false, false, false, false, false, false, false, false] rfl rfl (any_of HT_.out (by kernel_rfl)) (fun _ _ _ h => h) (Or.inl ⟨by rfl, ?_⟩) ?_ ?_
                                          rotate_left
                                          · intro w'
                                            go_simp
                                            with_reducible rfl
                                          rotate_left
                                          · simp only [Act.put, List.setIfInBounds_toArray, List.set_cons_zero, List.set_cons_succ, i64_w, i32_w]
                                            rfl
                                          refine pure_ (i := 3) (N := some 113) (v := ?_) (a' := ?_) #[true, false, false, true, false, false, false, false, false, false, false] rfl rfl (any_of HT_.out (by kernel_rfl)) (fun _ _ _ h => h) (Or.inl ⟨by rfl, ?_⟩) ?_ ?_
                                          rotate_left
                                          · intro w'
                                            go_simp
                                            with_reducible rfl
                                          rotate_left
                                          · simp only [Act.put, List.setIfInBounds_toArray, List.set_cons_zero, List.set_cons_succ, i64_w, i32_w]
                                            rfl
                                          refine pure_ (i := 4) (N := some 114) (v := ?_) (a' := ?_) #[true, false, false, true, true, false, false, false, false, false, false] rfl rfl (any_of HT_.out (by kernel_rfl)) (fun _ _ _ h => h) (Or.inl ⟨by rfl, ?_⟩) ?_ ?_
                                          rotate_left
                                          · intro w'
                                            go_simp
                                            with_reducible rfl
                                          rotate_left
                                          · simp only [Act.put, List.setIfInBounds_toArray, List.set_cons_zero, List.set_cons_succ, i64_w, i32_w]
                                            rfl
                                          refine pure_ (i := 5) (N := some 115) (v := ?_) (a' := ?_) #[true, false, false, true, true, true, false, false, false, false, false] rfl rfl (any_of HT_.out (by kernel_rfl)) (fun _ _ _ h => h) (Or.inl ⟨by rfl, ?_⟩) ?_ ?_
                                          rotate_left
                                          · intro w'
                                            go_simp
                                            with_reducible rfl
                                          rotate_left
                                          · simp only [Act.put, List.setIfInBounds_toArray, List.set_cons_zero, List.set_cons_succ, i64_w, i32_w]
                                            rfl
                                          refine take_ (i := 1) (N := some 111) (v := ?_) (a' := ?_) #[true, true, false, true, true, true, false, false, false, false, false] rfl rfl (take_ofW HT_.out HW_.out (by kernel_rfl)) (fun _ _ _ h => h) (Or.inl ⟨by rfl, ?_⟩) hHeld ?_ ?_
                                          rotate_left
                                          · rintro w' ⟨s0, s1, s2, s3, s4⟩
                                            go_simp
                                            with_reducible rfl
                                          rotate_left
                                          · simp only [Act.put, List.setIfInBounds_toArray, List.set_cons_zero, List.set_cons_succ, i64_w, i32_w]
                                            rfl
                                          refine pure_ (i := 2) (N := some 112) (v := ?_) (a' := ?_) #[true, true, true, true, true, true, false, false, false, false, false] rfl rfl (any_of HT_.out (by kernel_rfl)) (fun _ _ _ h => h) (Or.inl ⟨by rfl, ?_⟩) ?_ ?_
                                          rotate_left
                                          · intro w'
                                            go_simp
                                            with_reducible rfl
                                          rotate_left
                                          · simp only [Act.put, List.setIfInBounds_toArray, List.set_cons_zero, List.set_cons_succ, i64_w, i32_w]
                                            rfl
                                          refine take_ (i := 6) (N := some 116) (v := ?_) (a' := ?_) #[true, true, true, true, true, true, true, false, false, false, false] rfl rfl (take_ofW HT_.out HW_.out (by kernel_rfl)) (fun _ _ _ h => h) (Or.inl ⟨by rfl, ?_⟩) hHeld ?_ ?_
                                          rotate_left
                                          · rintro w' ⟨s0, s1, s2, s3, s4⟩
                                            go_simp
                                            with_reducible rfl
                                          rotate_left
                                          · simp only [Act.put, List.setIfInBounds_toArray, List.set_cons_zero, List.set_cons_succ, i64_w, i32_w]
                                            rfl
                                          refine pure_ (i := 7) (N := some 117) (v := ?_) (a' := ?_) #[true, true, true, true, true, true, true, true, false, false, false] rfl rfl (any_of HT_.out (by kernel_rfl)) (fun _ _ _ h => h) (Or.inl ⟨by rfl, ?_⟩) ?_ ?_
                                          rotate_left
                                          · intro w'
                                            go_simp
                                            with_reducible rfl
                                          rotate_left
                                          · simp only [Act.put, List.setIfInBounds_toArray, List.set_cons_zero, List.set_cons_succ, i64_w, i32_w]
                                            rfl
                                          refine pure_ (i := 8) (N := some 118) (v := ?_) (a' := ?_) #[true, true, true, true, true, true, true, true, true, false, false] rfl rfl (any_of HT_.out (by kernel_rfl)) (fun _ _ _ h => h) (Or.inl ⟨by rfl, ?_⟩) ?_ ?_
                                          rotate_left
                                          · intro w'
                                            go_simp
                                            with_reducible rfl
                                          rotate_left
                                          · simp only [Act.put, List.setIfInBounds_toArray, List.set_cons_zero, List.set_cons_succ, i64_w, i32_w]
                                            rfl
                                          refine pure_ (i := 9) (N := some 119) (v := ?_) (a' := ?_) #[true, true, true, true, true, true, true, true, true, true, false] rfl rfl (any_of HT_.out (by kernel_rfl)) (fun _ _ _ h => h) (Or.inl ⟨by rfl, ?_⟩) ?_ ?_
                                          rotate_left
                                          · intro w'
                                            go_simp
                                            with_reducible rfl
                                          rotate_left
                                          · simp only [Act.put, List.setIfInBounds_toArray, List.set_cons_zero, List.set_cons_succ, i64_w, i32_w]
                                            rfl
                                          refine last_ (i := 10) (N := none) #[true, true, true, true, true, true, true, true, true, true, true] rfl rfl (one_of HT_.out (by kernel_rfl)) (by decide) (fun K hK => ?_)
                                          have hs59 : w58.cell? ⟨gb109, 2, none⟩ = some (.int .i64 x110002_3) := (blk_cell BK109.out 2).trans rfl
                                          have hfs59 := blk_frozen BK109.out 2
                                          have hns59_0 := NB105_109.out
                                          have hms59_0 := NB109_105.out
                                          refine skip_ (w1 := ?_) (by rfl) rfl ?_ ?_
                                          rotate_left
                                          · go_simp
                                            rfl
                                          refine hK.out _ _ ?_
                                          clear hK K
                                          refine done_ (done_of HT_.out (by kernel_rfl)) ?_
                                          try go_wp2
                                          go_roundg k3
                                          case measure => have := HJ7.out; have := HJ39.out; have := HK3.out; omega
                                          case rel => exact ⟨(wrap64 (x1_3 + 1)), (wrap64 (x92_3 + 1)), (x106000_3), (x106001_3), (x106002_3), (x106003_3), (Go.bits .or .i64 (wrap64 (x110002_3 * 256)) (wrap64 (rd l0 x1_3))), (by first | rfl | (simp; done) | (simp [*]; done)), (by first | rfl | (simp; done) | (simp [*]; done)), H', ⟨by have := HJ7.out; have := HJ39.out; have := HK3.out; omega⟩, ⟨by (with_reducible repeat (first | refine blk_drewN ?_ _ | refine blk_drew ?_ | refine blk_alloc ?_ _)); refine blk_far ?_ NB105_109.out _; (with_reducible repeat (first | refine blk_drewN ?_ _ | refine blk_drew ?_ | refine blk_alloc ?_ _)); exact BK105.out⟩, ⟨by (with_reducible repeat (first | refine blk_drewN ?_ _ | refine blk_drew ?_ | refine blk_alloc ?_ _)); refine blk_put (cs := #[.int .i64 (wrap64 ((rd l0 a1) / 64)), .int .i64 x110001_7, .int .i64 x110002_3, .bool ((Go.bits .and .u8 (rd l0 a1) 32) != 0)]) ?_ 2 _ rfl; (with_reducible repeat (first | refine blk_drewN ?_ _ | refine blk_drew ?_ | refine blk_alloc ?_ _)); exact BK109.out⟩, ⟨by repeat (first | (with_reducible first | exact HB.out | apply below_alloc | apply pw_below_drewN | apply below_drew1 | refine below_set ?_ GE105.out | refine below_set ?_ GE109.out) | exact HB.out)⟩⟩
                                    · rw [if_neg c48] at H
                                      exact absurd H (by simp)
                                  · rw [if_neg c47] at H
                                    exact absurd H (by simp)
                                · rw [if_neg c46] at H
                                  have c46b0 : (x92_3 == 0) = false := beq_eq_false_iff_ne.mpr c46
                                  have c46b1 : (x92_3 != 0) = true := bne_iff_ne.mpr c46
                                  by_cases c60 : x110002_3 ≥ 8388608
                                  · rw [if_pos c60] at H
                                    have c60b0 : decide (8388608 ≤ x110002_3) = true := decide_eq_true c60
                                    clear c60
                                    simp only [Option.some.injEq, Prod.mk.injEq] at H
                                    obtain ⟨rfl, rfl, rfl, rfl, rfl, rfl⟩ := H
                                    have hnb61 := NB109_105.out
                                    have hnc61 := NB105_109.out
                                    have hcz62_0 : wr.cell? ⟨gb109, 0, none⟩ = some (.int .i64 (wrap64 ((rd l0 a1) / 64))) := (blk_cell BK109.out 0).trans rfl
                                    have hcz62_1 : wr.cell? ⟨gb109, 1, none⟩ = some (.int .i64 x110001_7) := (blk_cell BK109.out 1).trans rfl
                                    have hcz62_2 : wr.cell? ⟨gb109, 2, none⟩ = some (.int .i64 x110002_3) := (blk_cell BK109.out 2).trans rfl
                                    have hcz62_3 : wr.cell? ⟨gb109, 3, none⟩ = some (.bool ((Go.bits .and .u8 (rd l0 a1) 32) != 0)) := (blk_cell BK109.out 3).trans rfl
                                    have hfz62_0 := blk_frozen BK109.out 0
                                    have hfz62_1 := blk_frozen BK109.out 1
                                    have hfz62_2 := blk_frozen BK109.out 2
                                    have hfz62_3 := blk_frozen BK109.out 3
                                    have hcz63_0 : wr.cell? ⟨gb105, 0, none⟩ = some (.int .i64 x106000_3) := (blk_cell BK105.out 0).trans rfl
                                    have hcz63_1 : wr.cell? ⟨gb105, 1, none⟩ = some (.int .i64 x106001_3) := (blk_cell BK105.out 1).trans rfl
                                    have hcz63_2 : wr.cell? ⟨gb105, 2, none⟩ = some (.int .i64 x106002_3) := (blk_cell BK105.out 2).trans rfl
                                    have hcz63_3 : wr.cell? ⟨gb105, 3, none⟩ = some (.bool x106003_3) := (blk_cell BK105.out 3).trans rfl
                                    have hfz63_0 := blk_frozen BK105.out 0
                                    have hfz63_1 := blk_frozen BK105.out 1
                                    have hfz63_2 := blk_frozen BK105.out 2
                                    have hfz63_3 := blk_frozen BK105.out 3
                                    go_wp2
                                    refine bodyPost_ret (results_ctt rfl _ _ gb105 27 #[.int .i64 0, .int .i64 0, .int .i64 0, .bool false] (0, 0) _ rfl (by (with_reducible repeat (first | refine blk_drewN ?_ _ | refine blk_drew ?_ | refine blk_alloc ?_ _)); refine blk_put (cs := #[.int .i64 0, .int .i64 0, .int .i64 0, .bool x106003_3]) ?_ 3 _ rfl; (with_reducible repeat (first | refine blk_drewN ?_ _ | refine blk_drew ?_ | refine blk_alloc ?_ _)); refine blk_put (cs := #[.int .i64 0, .int .i64 0, .int .i64 x106002_3, .bool x106003_3]) ?_ 2 _ rfl; (with_reducible repeat (first | refine blk_drewN ?_ _ | refine blk_drew ?_ | refine blk_alloc ?_ _)); refine blk_put (cs := #[.int .i64 0, .int .i64 x106001_3, .int .i64 x106002_3, .bool x106003_3]) ?_ 1 _ rfl; (with_reducible repeat (first | refine blk_drewN ?_ _ | refine blk_drew ?_ | refine blk_alloc ?_ _)); refine blk_put (cs := #[.int .i64 x106000_3, .int .i64 x106001_3, .int .i64 x106002_3, .bool x106003_3]) ?_ 0 _ rfl; (with_reducible repeat (first | refine blk_drewN ?_ _ | refine blk_drew ?_ | refine blk_alloc ?_ _)); exact BK105.out) Try.underlying27 rfl (by kernel_rfl)) rfl ?_
                                    exact ⟨by first | rfl | (simp [errW_none, errW_some] <;> rfl) | (simp [*, errW_none, errW_some] <;> rfl), by repeat (first | (with_reducible first | exact HB.out | apply below_alloc | apply pw_below_drewN | apply below_drew1 | refine below_set ?_ GE105.out | refine below_set ?_ GE109.out) | exact HB.out)⟩
                                  · rw [if_neg c60] at H
                                    have c60b0 : decide (8388608 ≤ x110002_3) = false := decide_eq_false c60
                                    clear c60
                                    by_cases c64 : 0 ≤ x1_3
                                    · rw [if_pos c64] at H
                                      have c64b0 : decide (0 ≤ x1_3) = true := decide_eq_true c64
                                      clear c64
                                      by_cases c65 : x1_3 < (l0.length : Int)
                                      · rw [if_pos c65] at H
                                        have c65b0 : decide (x1_3 < (l0.length : Int)) = true := decide_eq_true c65
                                        clear c65
                                        have H' := Aside0.mk H
                                        clear H
                                        have hnb66 := NB109_105.out
                                        have hnc66 := NB105_109.out
                                        have hcz67_0 : wr.cell? ⟨gb109, 0, none⟩ = some (.int .i64 (wrap64 ((rd l0 a1) / 64))) := (blk_cell BK109.out 0).trans rfl
                                        have hcz67_1 : wr.cell? ⟨gb109, 1, none⟩ = some (.int .i64 x110001_7) := (blk_cell BK109.out 1).trans rfl
                                        have hcz67_2 : wr.cell? ⟨gb109, 2, none⟩ = some (.int .i64 x110002_3) := (blk_cell BK109.out 2).trans rfl
                                        have hcz67_3 : wr.cell? ⟨gb109, 3, none⟩ = some (.bool ((Go.bits .and .u8 (rd l0 a1) 32) != 0)) := (blk_cell BK109.out 3).trans rfl
                                        have hfz67_0 := blk_frozen BK109.out 0
                                        have hfz67_1 := blk_frozen BK109.out 1
                                        have hfz67_2 := blk_frozen BK109.out 2
                                        have hfz67_3 := blk_frozen BK109.out 3
                                        try go_wp2
                                        have n0_ := Aside0.mk (blk_drew BK105.out)
                                        have n1_ := Aside0.mk (blk_drew BK109.out)
                                        have n2_ := Aside0.mk (below_drew1 HB.out)
                                        clear BK105
                                        clear BK109
                                        clear HB
                                        have BK105 := n0_
                                        have BK109 := n1_
                                        have HB := n2_
                                        clear n0_ n1_ n2_
                                        have p116 : 0 ≤ (x1_3 : Int) := of_decide_eq_true (by first | (with_reducible assumption) | assumption)
                                        have q116 : x1_3 < (l0.length : Int) := of_decide_eq_true (by first | (with_reducible assumption) | assumption)
                                        obtain ⟨ad116, e116, hx116_0⟩ := Kd.at_int HR0.out x1_3 p116 q116
                                        have hw116_0 := hx116_0
                                        obtain rfl : ad106 = ad116 := (by injection e116)
                                        replace hx116_0 := (HB.out.cell (World.block_lt_of_cell? w _ hx116_0)).trans hx116_0
                                        replace p116 := eq_true p116
                                        replace q116 := eq_true q116
                                        refine start_ (n := 11) (S := fun w' => w'.cell? ⟨gb109, 0, none⟩ = some (.int .i64 (wrap64 ((rd l0 a1) / 64))) ∧ w'.cell? ⟨gb109, 1, none⟩ = some (.int .i64 x110001_7) ∧ w'.cell? ⟨gb109, 2, none⟩ = some (.int .i64 x110002_3) ∧ w'.cell? ⟨gb109, 3, none⟩ = some (.bool ((Go.bits .and .u8 (rd l0 a1) 32) != 0)) ∧ w'.cell? (ad106.add (x1_3).toNat) = some (.int .u8 (rd l0 x1_3))) (ds := [10]) #[false, false, false, false, false, false, false, false, false, false, false] (by kernel_rfl) rfl rfl ⟨(blk_cell BK109.out 0).trans rfl, (blk_cell BK109.out 1).trans rfl, (blk_cell BK109.out 2).trans rfl, (blk_cell BK109.out 3).trans rfl, ((HB.out.cell (World.block_lt_of_cell? w _ hw116_0)).trans hw116_0)⟩ (fun hHeld => ?_); refine with_tabW spec_Header.tab25 spec_Header.bits25 (fun HT_ HW_ => ?_)
                                        generalize wr.drew = w68 at BK105 BK109 HB hx116_0 hHeld ⊢
                                        refine pure_ (i := 0) (N := some 110) (v := ?_) (a' := ?_) #[true, false, false, false, false, false, false, false, false, false, false] rfl rfl (any_of HT_.out (by kernel_rfl)) (fun _ _ _ h => h) (Or.inl ⟨by rfl, ?_⟩) ?_ ?_
                                        rotate_left
                                        · intro w'
                                          go_simp
                                          with_reducible rfl
                                        rotate_left
                                        · simp only [Act.put, List.setIfInBounds_toArray, List.set_cons_zero, List.set_cons_succ, i64_w, i32_w]
                                          rfl
                                        refine pure_ (i := 3) (N := some 113) (v := ?_) (a' := ?_) #[true, false, false, true, false, false, false, false, false, false, false] rfl rfl (any_of HT_.out (by kernel_rfl)) (fun _ _ _ h => h) (Or.inl ⟨by rfl, ?_⟩) ?_ ?_
                                        rotate_left
                                        · intro w'
                                          go_simp
                                          with_reducible rfl
                                        rotate_left
                                        · simp only [Act.put, List.setIfInBounds_toArray, List.set_cons_zero, List.set_cons_succ, i64_w, i32_w]
                                          rfl
                                        refine pure_ (i := 4) (N := some 114) (v := ?_) (a' := ?_) #[true, false, false, true, true, false, false, false, false, false, false] rfl rfl (any_of HT_.out (by kernel_rfl)) (fun _ _ _ h => h) (Or.inl ⟨by rfl, ?_⟩) ?_ ?_
                                        rotate_left
                                        · intro w'
                                          go_simp
                                          with_reducible rfl
                                        rotate_left
                                        · simp only [Act.put, List.setIfInBounds_toArray, List.set_cons_zero, List.set_cons_succ, i64_w, i32_w]
                                          rfl
                                        refine pure_ (i := 5) (N := some 115) (v := ?_) (a' := ?_) #[true, false, false, true, true, true, false, false, false, false, false] rfl rfl (any_of HT_.out (by kernel_rfl)) (fun _ _ _ h => h) (Or.inl ⟨by rfl, ?_⟩) ?_ ?_
                                        rotate_left
                                        · intro w'
                                          go_simp
                                          with_reducible rfl
                                        rotate_left
                                        · simp only [Act.put, List.setIfInBounds_toArray, List.set_cons_zero, List.set_cons_succ, i64_w, i32_w]
                                          rfl
                                        refine take_ (i := 1) (N := some 111) (v := ?_) (a' := ?_) #[true, true, false, true, true, true, false, false, false, false, false] rfl rfl (take_ofW HT_.out HW_.out (by kernel_rfl)) (fun _ _ _ h => h) (Or.inl ⟨by rfl, ?_⟩) hHeld ?_ ?_
                                        rotate_left
                                        · rintro w' ⟨s0, s1, s2, s3, s4⟩
                                          go_simp
                                          with_reducible rfl
                                        rotate_left
                                        · simp only [Act.put, List.setIfInBounds_toArray, List.set_cons_zero, List.set_cons_succ, i64_w, i32_w]
                                          rfl
                                        refine pure_ (i := 2) (N := some 112) (v := ?_) (a' := ?_) #[true, true, true, true, true, true, false, false, false, false, false] rfl rfl (any_of HT_.out (by kernel_rfl)) (fun _ _ _ h => h) (Or.inl ⟨by rfl, ?_⟩) ?_ ?_
                                        rotate_left
                                        · intro w'
                                          go_simp
                                          with_reducible rfl
                                        rotate_left
                                        · simp only [Act.put, List.setIfInBounds_toArray, List.set_cons_zero, List.set_cons_succ, i64_w, i32_w]
                                          rfl
                                        refine take_ (i := 6) (N := some 116) (v := ?_) (a' := ?_) #[true, true, true, true, true, true, true, false, false, false, false] rfl rfl (take_ofW HT_.out HW_.out (by kernel_rfl)) (fun _ _ _ h => h) (Or.inl ⟨by rfl, ?_⟩) hHeld ?_ ?_
                                        rotate_left
                                        · rintro w' ⟨s0, s1, s2, s3, s4⟩
                                          go_simp
                                          with_reducible rfl
                                        rotate_left
                                        · simp only [Act.put, List.setIfInBounds_toArray, List.set_cons_zero, List.set_cons_succ, i64_w, i32_w]
                                          rfl
                                        refine pure_ (i := 7) (N := some 117) (v := ?_) (a' := ?_) #[true, true, true, true, true, true, true, true, false, false, false] rfl rfl (any_of HT_.out (by kernel_rfl)) (fun _ _ _ h => h) (Or.inl ⟨by rfl, ?_⟩) ?_ ?_
                                        rotate_left
                                        · intro w'
                                          go_simp
                                          with_reducible rfl
                                        rotate_left
                                        · simp only [Act.put, List.setIfInBounds_toArray, List.set_cons_zero, List.set_cons_succ, i64_w, i32_w]
                                          rfl
                                        refine pure_ (i := 8) (N := some 118) (v := ?_) (a' := ?_) #[true, true, true, true, true, true, true, true, true, false, false] rfl rfl (any_of HT_.out (by kernel_rfl)) (fun _ _ _ h => h) (Or.inl ⟨by rfl, ?_⟩) ?_ ?_
                                        rotate_left
                                        · intro w'
                                          go_simp
                                          with_reducible rfl
                                        rotate_left
                                        · simp only [Act.put, List.setIfInBounds_toArray, List.set_cons_zero, List.set_cons_succ, i64_w, i32_w]
                                          rfl
                                        refine pure_ (i := 9) (N := some 119) (v := ?_) (a' := ?_) #[true, true, true, true, true, true, true, true, true, true, false] rfl rfl (any_of HT_.out (by kernel_rfl)) (fun _ _ _ h => h) (Or.inl ⟨by rfl, ?_⟩) ?_ ?_
                                        rotate_left
                                        · intro w'
                                          go_simp
                                          with_reducible rfl
                                        rotate_left
                                        · simp only [Act.put, List.setIfInBounds_toArray, List.set_cons_zero, List.set_cons_succ, i64_w, i32_w]
                                          rfl
                                        refine last_ (i := 10) (N := none) #[true, true, true, true, true, true, true, true, true, true, true] rfl rfl (one_of HT_.out (by kernel_rfl)) (by decide) (fun K hK => ?_)
                                        have hs69 : w68.cell? ⟨gb109, 2, none⟩ = some (.int .i64 x110002_3) := (blk_cell BK109.out 2).trans rfl
                                        have hfs69 := blk_frozen BK109.out 2
                                        have hns69_0 := NB105_109.out
                                        have hms69_0 := NB109_105.out
                                        refine skip_ (w1 := ?_) (by rfl) rfl ?_ ?_
                                        rotate_left
                                        · go_simp
                                          rfl
                                        refine hK.out _ _ ?_
                                        clear hK K
                                        refine done_ (done_of HT_.out (by kernel_rfl)) ?_
                                        try go_wp2
                                        go_roundg k3
                                        case measure => have := HJ7.out; have := HJ39.out; have := HK3.out; omega
                                        case rel => exact ⟨(wrap64 (x1_3 + 1)), (wrap64 (x92_3 + 1)), (x106000_3), (x106001_3), (x106002_3), (x106003_3), (Go.bits .or .i64 (wrap64 (x110002_3 * 256)) (wrap64 (rd l0 x1_3))), (by first | rfl | (simp; done) | (simp [*]; done)), (by first | rfl | (simp; done) | (simp [*]; done)), H', ⟨by have := HJ7.out; have := HJ39.out; have := HK3.out; omega⟩, ⟨by (with_reducible repeat (first | refine blk_drewN ?_ _ | refine blk_drew ?_ | refine blk_alloc ?_ _)); refine blk_far ?_ NB105_109.out _; (with_reducible repeat (first | refine blk_drewN ?_ _ | refine blk_drew ?_ | refine blk_alloc ?_ _)); exact BK105.out⟩, ⟨by (with_reducible repeat (first | refine blk_drewN ?_ _ | refine blk_drew ?_ | refine blk_alloc ?_ _)); refine blk_put (cs := #[.int .i64 (wrap64 ((rd l0 a1) / 64)), .int .i64 x110001_7, .int .i64 x110002_3, .bool ((Go.bits .and .u8 (rd l0 a1) 32) != 0)]) ?_ 2 _ rfl; (with_reducible repeat (first | refine blk_drewN ?_ _ | refine blk_drew ?_ | refine blk_alloc ?_ _)); exact BK109.out⟩, ⟨by repeat (first | (with_reducible first | exact HB.out | apply below_alloc | apply pw_below_drewN | apply below_drew1 | refine below_set ?_ GE105.out | refine below_set ?_ GE109.out) | exact HB.out)⟩⟩
                                      · rw [if_neg c65] at H
                                        exact absurd H (by simp)
                                    · rw [if_neg c64] at H
                                      exact absurd H (by simp)
                              · rw [if_neg c45] at H
                                have c45b0 : decide (x92_3 < (Go.bits .and .i64 (wrap64 (rd l0 x1_7)) 127)) = false := decide_eq_false c45
                                clear c45
                                simp only [Option.some.injEq, Prod.mk.injEq] at H
                                obtain ⟨rfl, rfl, rfl, rfl, rfl, rfl⟩ := H
                                try go_wp2
                                have n0_ := Aside0.mk (blk_drew BK105.out)
                                have n1_ := Aside0.mk (blk_drew BK109.out)
                                have n2_ := Aside0.mk (below_drew1 HB.out)
                                clear BK105
                                clear BK109
                                clear HB
                                have BK105 := n0_
                                have BK109 := n1_
                                have HB := n2_
                                clear n0_ n1_ n2_
                                refine start_ (n := 8) (S := fun w' => w'.cell? ⟨gb109, 0, none⟩ = some (.int .i64 (wrap64 ((rd l0 a1) / 64))) ∧ w'.cell? ⟨gb109, 1, none⟩ = some (.int .i64 x110001_7) ∧ w'.cell? ⟨gb109, 2, none⟩ = some (.int .i64 x110002_3) ∧ w'.cell? ⟨gb109, 3, none⟩ = some (.bool ((Go.bits .and .u8 (rd l0 a1) 32) != 0))) (ds := []) #[false, false, false, false, false, false, false, false] (by kernel_rfl) rfl rfl ⟨(blk_cell BK109.out 0).trans rfl, (blk_cell BK109.out 1).trans rfl, (blk_cell BK109.out 2).trans rfl, (blk_cell BK109.out 3).trans rfl⟩ (fun hHeld => ?_); refine with_tabW spec_Header.tab28 spec_Header.bits28 (fun HT_ HW_ => ?_)
                                generalize wr.drew = w70 at BK105 BK109 HB hHeld ⊢
                                refine pure_ (i := 1) (N := some 124) (v := ?_) (a' := ?_) #[false, true, false, false, false, false, false, false] rfl rfl (any_of HT_.out (by kernel_rfl)) (fun _ _ _ h => h) (Or.inl ⟨by rfl, ?_⟩) ?_ ?_
                                rotate_left
                                · intro w'
                                  go_simp
                                  with_reducible rfl
                                rotate_left
                                · simp only [Act.put, List.setIfInBounds_toArray, List.set_cons_zero, List.set_cons_succ, i64_w, i32_w]
                                  rfl
                                refine pure_ (i := 2) (N := some 125) (v := ?_) (a' := ?_) #[false, true, true, false, false, false, false, false] rfl rfl (any_of HT_.out (by kernel_rfl)) (fun _ _ _ h => h) (Or.inl ⟨by rfl, ?_⟩) ?_ ?_
                                rotate_left
                                · intro w'
                                  go_simp
                                  with_reducible rfl
                                rotate_left
                                · simp only [Act.put, List.setIfInBounds_toArray, List.set_cons_zero, List.set_cons_succ, i64_w, i32_w]
                                  rfl
                                refine take_ (i := 0) (N := some 123) (v := ?_) (a' := ?_) #[true, true, true, false, false, false, false, false] rfl rfl (take_ofW HT_.out HW_.out (by kernel_rfl)) (fun _ _ _ h => h) (Or.inl ⟨by rfl, ?_⟩) hHeld ?_ ?_
                                rotate_left
                                · rintro w' ⟨s0, s1, s2, s3⟩
                                  go_simp
                                  with_reducible rfl
                                rotate_left
                                · simp only [Act.put, List.setIfInBounds_toArray, List.set_cons_zero, List.set_cons_succ, i64_w, i32_w]
                                  rfl
                                refine take_ (i := 3) (N := some 126) (v := ?_) (a' := ?_) #[true, true, true, true, false, false, false, false] rfl rfl (take_ofW HT_.out HW_.out (by kernel_rfl)) (fun _ _ _ h => h) (Or.inl ⟨by rfl, ?_⟩) hHeld ?_ ?_
                                rotate_left
                                · rintro w' ⟨s0, s1, s2, s3⟩
                                  go_simp
                                  with_reducible rfl
                                rotate_left
                                · simp only [Act.put, List.setIfInBounds_toArray, List.set_cons_zero, List.set_cons_succ, i64_w, i32_w]
                                  rfl
                                refine pure_ (i := 4) (N := some 127) (v := ?_) (a' := ?_) #[true, true, true, true, true, false, false, false] rfl rfl (any_of HT_.out (by kernel_rfl)) (fun _ _ _ h => h) (Or.inl ⟨by rfl, ?_⟩) ?_ ?_
                                rotate_left
                                · intro w'
                                  go_simp
                                  with_reducible rfl
                                rotate_left
                                · simp only [Act.put, List.setIfInBounds_toArray, List.set_cons_zero, List.set_cons_succ, i64_w, i32_w]
                                  rfl
                                refine one_ (i := 5) (N := none) #[true, true, true, true, true, true, false, false] rfl rfl (one_of HT_.out (by kernel_rfl)) (by decide) (fun K hK => ?_)
                                have hs71 : w70.cell? ⟨gb105, 0, none⟩ = some (.int .i64 x106000_3) := (blk_cell BK105.out 0).trans rfl
                                have hfs71 := blk_frozen BK105.out 0
                                have hns71_1 := NB109_105.out
                                have hms71_1 := NB105_109.out
                                have hs72 : w70.cell? ⟨gb105, 1, none⟩ = some (.int .i64 x106001_3) := (blk_cell BK105.out 1).trans rfl
                                have hfs72 := blk_frozen BK105.out 1
                                have hns72_1 := NB109_105.out
                                have hms72_1 := NB105_109.out
                                have hs73 : w70.cell? ⟨gb105, 2, none⟩ = some (.int .i64 x106002_3) := (blk_cell BK105.out 2).trans rfl
                                have hfs73 := blk_frozen BK105.out 2
                                have hns73_1 := NB109_105.out
                                have hms73_1 := NB105_109.out
                                have hs74 : w70.cell? ⟨gb105, 3, none⟩ = some (.bool x106003_3) := (blk_cell BK105.out 3).trans rfl
                                have hfs74 := blk_frozen BK105.out 3
                                have hns74_1 := NB109_105.out
                                have hms74_1 := NB105_109.out
                                refine skip_ (w1 := ?_) (by rfl) rfl ?_ ?_
                                rotate_left
                                · go_simp
                                  rfl
                                refine hK.out _ _ ⟨((cell_far (p := ⟨gb105, _, none⟩) NB109_105.out _).trans (((cell_far (p := ⟨gb105, _, none⟩) NB109_105.out _).trans (((cell_far (p := ⟨gb105, _, none⟩) NB109_105.out _).trans (((cell_far (p := ⟨gb105, _, none⟩) NB109_105.out _).trans (hHeld.1)))))))), ((cell_far (p := ⟨gb105, _, none⟩) NB109_105.out _).trans (((cell_far (p := ⟨gb105, _, none⟩) NB109_105.out _).trans (((cell_far (p := ⟨gb105, _, none⟩) NB109_105.out _).trans (((cell_far (p := ⟨gb105, _, none⟩) NB109_105.out _).trans (hHeld.2.1)))))))), ((cell_far (p := ⟨gb105, _, none⟩) NB109_105.out _).trans (((cell_far (p := ⟨gb105, _, none⟩) NB109_105.out _).trans (((cell_far (p := ⟨gb105, _, none⟩) NB109_105.out _).trans (((cell_far (p := ⟨gb105, _, none⟩) NB109_105.out _).trans (hHeld.2.2.1)))))))), ((cell_far (p := ⟨gb105, _, none⟩) NB109_105.out _).trans (((cell_far (p := ⟨gb105, _, none⟩) NB109_105.out _).trans (((cell_far (p := ⟨gb105, _, none⟩) NB109_105.out _).trans (((cell_far (p := ⟨gb105, _, none⟩) NB109_105.out _).trans (hHeld.2.2.2))))))))⟩ (fun hHeld => ?_)
                                clear hK K
                                refine pure_ (i := 6) (N := some 5) (v := ?_) (a' := ?_) #[true, true, true, true, true, true, true, false] rfl rfl (any_of HT_.out (by kernel_rfl)) (fun _ _ _ h => h) (Or.inl ⟨by rfl, ?_⟩) ?_ ?_
                                rotate_left
                                · intro w'
                                  go_simp
                                  with_reducible rfl
                                rotate_left
                                · simp only [Act.put, List.setIfInBounds_toArray, List.set_cons_zero, List.set_cons_succ, i64_w, i32_w]
                                  rfl
                                refine pure_ (i := 7) (N := some 6) (v := ?_) (a' := ?_) #[true, true, true, true, true, true, true, true] rfl rfl (any_of HT_.out (by kernel_rfl)) (fun _ _ _ h => h) (Or.inl ⟨by rfl, ?_⟩) ?_ ?_
                                rotate_left
                                · intro w'
                                  go_simp
                                  with_reducible rfl
                                rotate_left
                                · simp only [Act.put, List.setIfInBounds_toArray, List.set_cons_zero, List.set_cons_succ, i64_w, i32_w]
                                  rfl
                                refine done_ (done_of HT_.out (by kernel_rfl)) ?_
                                try go_wp2
                                refine bodyPost_ret (results_ctt rfl _ _ gb105 27 #[.int .i64 (wrap64 ((rd l0 a1) / 64)), .int .i64 x110001_7, .int .i64 x110002_3, .bool ((Go.bits .and .u8 (rd l0 a1) 32) != 0)] (0, 0) _ rfl (by (with_reducible repeat (first | refine blk_drewN ?_ _ | refine blk_drew ?_ | refine blk_alloc ?_ _)); refine blk_put (cs := #[.int .i64 (wrap64 ((rd l0 a1) / 64)), .int .i64 x110001_7, .int .i64 x110002_3, .bool x106003_3]) ?_ 3 _ rfl; (with_reducible repeat (first | refine blk_drewN ?_ _ | refine blk_drew ?_ | refine blk_alloc ?_ _)); refine blk_put (cs := #[.int .i64 (wrap64 ((rd l0 a1) / 64)), .int .i64 x110001_7, .int .i64 x106002_3, .bool x106003_3]) ?_ 2 _ rfl; (with_reducible repeat (first | refine blk_drewN ?_ _ | refine blk_drew ?_ | refine blk_alloc ?_ _)); refine blk_put (cs := #[.int .i64 (wrap64 ((rd l0 a1) / 64)), .int .i64 x106001_3, .int .i64 x106002_3, .bool x106003_3]) ?_ 1 _ rfl; (with_reducible repeat (first | refine blk_drewN ?_ _ | refine blk_drew ?_ | refine blk_alloc ?_ _)); refine blk_put (cs := #[.int .i64 x106000_3, .int .i64 x106001_3, .int .i64 x106002_3, .bool x106003_3]) ?_ 0 _ rfl; (with_reducible repeat (first | refine blk_drewN ?_ _ | refine blk_drew ?_ | refine blk_alloc ?_ _)); exact BK105.out) Try.underlying27 rfl (by kernel_rfl)) rfl ?_
                                exact ⟨by first | rfl | (simp [errW_none, errW_some] <;> rfl) | (simp [*, errW_none, errW_some] <;> rfl), by repeat (first | (with_reducible first | exact HB.out | apply below_alloc | apply pw_below_drewN | apply below_drew1 | refine below_set ?_ GE105.out | refine below_set ?_ GE109.out) | exact HB.out)⟩
                · rw [if_neg c35] at H
                  exact absurd H (by simp)
              · rw [if_neg c34] at H
                exact absurd H (by simp)
      · rw [if_neg c7] at H
        exact absurd H (by simp)
    · rw [if_neg c6] at H
      exact absurd H (by simp)

end Go.Proofs.Ytmiemfgcggkbnaa.QS
