-- Written by a program of this work (wip/patch_print.py) for this claim.
import Derived.Test.YtapnkngcnlomhaaQAx0
import Derived.Test.YtapnkngcnlomhaaQAx3
namespace Go.Proofs.Ytapnkngcnlomhaa.QA
open Go.RowKit Go.Proofs.YtapnkngcnlomhaaW.PrintWords Go.Proofs.YtapnkngcnlomhaaW.PrintLast Go.Proofs.YtapnkngcnlomhaaW.PrintMore
attribute [local go_sem] max2_int min2_int max_two min_two max_three min_three max_four min_four   -- for this text's walks alone
set_option linter.unusedVariables false
set_option linter.unusedSimpArgs false

/-! ### spec_PutHeader: function 27 -/
mutual
def spec_PutHeader.j0 : Nat → Int → Int → Int → Int → Bool → Option (List Int)
  | 0, _, _, _, _, _ => none
  | k + 1, x3, x334000, x334001, x334002, x334003 => (some (([] : List Int) : List Int)).bind fun y334 => (if x334001 ≥ 31 then (if y334.length < 140737488355328 then ((some (y334 ++ [(Go.bits .or .i64 x3 31) % 256] : List Int)).bind fun y337 => ((spec_Put128.f k x334001).bind fun t340 => (if y337.length + t340.length < 140737488355328 then (spec_PutHeader.j1 k (y337 ++ t340) x334000 x334001 x334002 x334003) else (none)))) else (none)) else (if y334.length < 140737488355328 then (spec_PutHeader.j1 k (y334 ++ [(Go.bits .or .i64 x3 x334001) % 256]) x334000 x334001 x334002 x334003) else (none)))
def spec_PutHeader.j1 : Nat → List Int → Int → Int → Int → Bool → Option (List Int)
  | 0, _, _, _, _, _ => none
  | k + 1, x4, x334000, x334001, x334002, x334003 => if x334002 < 128 then (if x4.length < 140737488355328 then (some (x4 ++ [(x334002) % 256])) else (none)) else (spec_PutHeader.l0 k x4 (([] : List Int)) x334002)
def spec_PutHeader.l0 : Nat → List Int → List Int → Int → Option (List Int)
  | 0, _, _, _ => none
  | k + 1, x4, x5, x6 => if x6 > 0 then ((some (([(x6) % 256] : List Int) : List Int)).bind fun y355 => (if y355.length + x5.length < 140737488355328 then (spec_PutHeader.l0 k x4 (y355 ++ x5) (x6 / 256)) else (none))) else (if x4.length < 140737488355328 then ((some (x4 ++ [(Go.bits .or .i64 128 (x5.length : Int)) % 256] : List Int)).bind fun y361 => (if y361.length + x5.length < 140737488355328 then (some (y361 ++ x5)) else (none))) else (none))
end
def spec_PutHeader.f (k : Nat) (a0_0 : Int) (a0_1 : Int) (a0_2 : Int) (a0_3 : Bool) : Option (List Int) := if a0_3 = true then (spec_PutHeader.j0 k (Go.bits .or .i64 (wrap64 (a0_0 * 64)) 32) a0_0 a0_1 a0_2 a0_3) else (spec_PutHeader.j0 k (wrap64 (a0_0 * 64)) a0_0 a0_1 a0_2 a0_3)
theorem spec_PutHeader.mono_l : ∀ k, (∀ y0 y1 y2 y3 y4, LeO (spec_PutHeader.j0 k y0 y1 y2 y3 y4) (spec_PutHeader.j0 (k + 1) y0 y1 y2 y3 y4)) ∧ (∀ y0 y1 y2 y3 y4, LeO (spec_PutHeader.j1 k y0 y1 y2 y3 y4) (spec_PutHeader.j1 (k + 1) y0 y1 y2 y3 y4)) ∧ (∀ y0 y1 y2, LeO (spec_PutHeader.l0 k y0 y1 y2) (spec_PutHeader.l0 (k + 1) y0 y1 y2))
  | 0 => ⟨fun _ _ _ _ _ r h => by simp [spec_PutHeader.j0] at h, fun _ _ _ _ _ r h => by simp [spec_PutHeader.j1] at h, fun _ _ _ r h => by simp [spec_PutHeader.l0] at h⟩
  | k + 1 => by
    obtain ⟨ih0, ih1, ih2⟩ := spec_PutHeader.mono_l k
    refine ⟨?_, ?_, ?_⟩
    · intro y0 y1 y2 y3 y4
      unfold spec_PutHeader.j0
      repeat' first
      | (with_reducible exact ih0 _ _ _ _ _)
      | (with_reducible exact ih1 _ _ _ _ _)
      | (with_reducible exact ih2 _ _ _)
      | (with_reducible exact spec_Put128.mono _ _)
      | (with_reducible exact LeO.refl _)
      | (with_reducible exact LeO.none _)
      | (with_reducible refine LeO.ite ?_ ?_)
      | (with_reducible refine LeO.bind ?_ (fun _ => ?_))
      | exact ih0 _ _ _ _ _
      | exact ih1 _ _ _ _ _
      | exact ih2 _ _ _
      | exact spec_Put128.mono _ _
      | exact LeO.none _
      | refine LeO.ite ?_ ?_
      | refine LeO.bind ?_ (fun _ => ?_)
    · intro y0 y1 y2 y3 y4
      unfold spec_PutHeader.j1
      repeat' first
      | (with_reducible exact ih0 _ _ _ _ _)
      | (with_reducible exact ih1 _ _ _ _ _)
      | (with_reducible exact ih2 _ _ _)
      | (with_reducible exact spec_Put128.mono _ _)
      | (with_reducible exact LeO.refl _)
      | (with_reducible exact LeO.none _)
      | (with_reducible refine LeO.ite ?_ ?_)
      | (with_reducible refine LeO.bind ?_ (fun _ => ?_))
      | exact ih0 _ _ _ _ _
      | exact ih1 _ _ _ _ _
      | exact ih2 _ _ _
      | exact spec_Put128.mono _ _
      | exact LeO.none _
      | refine LeO.ite ?_ ?_
      | refine LeO.bind ?_ (fun _ => ?_)
    · intro y0 y1 y2
      unfold spec_PutHeader.l0
      repeat' first
      | (with_reducible exact ih0 _ _ _ _ _)
      | (with_reducible exact ih1 _ _ _ _ _)
      | (with_reducible exact ih2 _ _ _)
      | (with_reducible exact spec_Put128.mono _ _)
      | (with_reducible exact LeO.refl _)
      | (with_reducible exact LeO.none _)
      | (with_reducible refine LeO.ite ?_ ?_)
      | (with_reducible refine LeO.bind ?_ (fun _ => ?_))
      | exact ih0 _ _ _ _ _
      | exact ih1 _ _ _ _ _
      | exact ih2 _ _ _
      | exact spec_Put128.mono _ _
      | exact LeO.none _
      | refine LeO.ite ?_ ?_
      | refine LeO.bind ?_ (fun _ => ?_)
theorem spec_PutHeader.mono : ∀ a0 a1 a2 a3 k, LeO (spec_PutHeader.f k a0 a1 a2 a3) (spec_PutHeader.f (k + 1) a0 a1 a2 a3) := by
  intro a0 a1 a2 a3 k
  obtain ⟨ih0, ih1, ih2⟩ := spec_PutHeader.mono_l k
  unfold spec_PutHeader.f
  repeat' first
      | (with_reducible exact ih0 _ _ _ _ _)
      | (with_reducible exact ih1 _ _ _ _ _)
      | (with_reducible exact ih2 _ _ _)
      | (with_reducible exact spec_Put128.mono _ _)
      | (with_reducible exact LeO.refl _)
      | (with_reducible exact LeO.none _)
      | (with_reducible refine LeO.ite ?_ ?_)
      | (with_reducible refine LeO.bind ?_ (fun _ => ?_))
      | exact ih0 _ _ _ _ _
      | exact ih1 _ _ _ _ _
      | exact ih2 _ _ _
      | exact spec_Put128.mono _ _
      | exact LeO.none _
      | refine LeO.ite ?_ ?_
      | refine LeO.bind ?_ (fun _ => ?_)
def spec_PutHeader.T6 : Bool × List (List Nat × List Nat) := (true, [([], []), ([], []), ([1], [1]), ([2], [2]), ([3], [3]), ([0, 4], [0, 4]), ([], []), ([6], [6]), ([7, 5], [7]), ([5, 8, 8], [5, 8]), ([9, 9, 0, 1, 2, 3, 4, 5, 6, 7, 8, 9], [0, 9])])
def spec_PutHeader.B6 : List Nat := [0, 0, 2, 6, 14, 31, 0, 64, 255, 511, 1023]
theorem spec_PutHeader.tab6 : rtab .any (opsOf Try.f27 6) = spec_PutHeader.T6 := by kernel_rfl
theorem spec_PutHeader.bits6 : waitsOk spec_PutHeader.T6.2 spec_PutHeader.B6 = true := by kernel_rfl
set_option maxHeartbeats 8000000 in
set_option maxRecDepth 100000 in
theorem spec_PutHeader.calls (k : Nat) (a0_0 : Int) (a0_1 : Int) (a0_2 : Int) (a0_3 : Bool) (r : List Int) (w : World) (h : spec_PutHeader.f k a0_0 a0_1 a0_2 a0_3 = some r) :
    Calls Try.prog 27 #[.agg #[.int .i64 a0_0, .int .i64 a0_1, .int .i64 a0_2, .bool a0_3]] w fun e w' => ∃ v0_ : Value, e = .returned (v0_) ∧ Kd.R (Kd.int .u8) 5 w' w.heap.size (fun _ => True) v0_ r ∧ Below w.heap.size w w' := by
  have hu44 := Try.underlying44
  have HB := Aside0.mk (Below.refl w.heap.size w)
  have H : (if a0_3 = true then (spec_PutHeader.j0 k (Go.bits .or .i64 (wrap64 (a0_0 * 64)) 32) a0_0 a0_1 a0_2 a0_3) else (spec_PutHeader.j0 k (wrap64 (a0_0 * 64)) a0_0 a0_1 a0_2 a0_3)) = some r := h
  clear h
  have HC2 := Aside0.mk H
  clear H
  go_enter Try.func27, Try.ntmps27
  go_upto_if 11 with (first | ((with_reducible refine gate_dst (N := 1) rfl ?_); refine box_event ?hg (N := 1) ?hd (cs := #[.int .i64 a0_0, .int .i64 a0_1, .int .i64 a0_2, .bool a0_3]) (t := 44) ?hr ?_; (case hd => rfl); (case hg => rfl); (case hr => first | (go_simp; done) | (go_simp; rfl)); intro gb333 hg w3 hbox hb; have n0_ := Aside0.mk (below_step (by repeat (first | (with_reducible first | exact HB.out | apply below_alloc | apply pw_below_drewN | apply below_drew1) | exact HB.out)) hb); have n1_ := Aside0.mk (hbox); have n2_ := Aside0.mk ((by rw [hg]; exact (below_size (by repeat (first | (with_reducible first | exact HB.out | apply below_alloc | apply pw_below_drewN | apply below_drew1) | exact HB.out))) : w.heap.size ≤ gb333)); have n3_ := Aside0.mk ((by rw [hg]; exact (below_size (by repeat (first | (with_reducible first | exact HB.out | apply below_alloc | apply pw_below_drewN | apply below_drew1) | exact HB.out))) : w.heap.size ≤ gb333)); clear HB; have HB := n0_; have BK333 := n1_; have GW333 := n2_; have GE333 := n3_; clear n0_ n1_ n2_ n3_; clear hb hbox hg; have hcz4_0 : w3.cell? ⟨gb333, 0, none⟩ = some (.int .i64 a0_0) := (blk_cell BK333.out 0).trans rfl; have hcz4_1 : w3.cell? ⟨gb333, 1, none⟩ = some (.int .i64 a0_1) := (blk_cell BK333.out 1).trans rfl; have hcz4_2 : w3.cell? ⟨gb333, 2, none⟩ = some (.int .i64 a0_2) := (blk_cell BK333.out 2).trans rfl; have hcz4_3 : w3.cell? ⟨gb333, 3, none⟩ = some (.bool a0_3) := (blk_cell BK333.out 3).trans rfl; have hfz4_0 := blk_frozen BK333.out 0; have hfz4_1 := blk_frozen BK333.out 1; have hfz4_2 := blk_frozen BK333.out 2; have hfz4_3 := blk_frozen BK333.out 3))
  (try simp only [Act.put, List.setIfInBounds_toArray, List.set_cons_zero, List.set_cons_succ])
  go_cut [3] (fun v3 wc => ∃ (kq : Nat) (x3_1 : Int), v3 = .int .i64 x3_1 ∧ Aside0 (spec_PutHeader.j0 kq x3_1 a0_0 a0_1 a0_2 a0_3 = some r) ∧ Aside0 (kq ≤ k) ∧ Aside0 (wc.heap[gb333]? = some (.cells #[.int .i64 a0_0, .int .i64 a0_1, .int .i64 a0_2, .bool a0_3] 44 (0, 0))) ∧ Aside0 (Below w.heap.size w wc))
  case first =>
    have H := HC2.out
    clear HC2
    by_cases c5 : a0_3 = true
    · subst c5
      have H1 : (spec_PutHeader.j0 k (Go.bits .or .i64 (wrap64 (a0_0 * 64)) 32) a0_0 a0_1 a0_2 true) = some r := by rw [if_pos rfl] at H; exact H
      clear H
      have H := H1
      clear H1
      have H' := Aside0.mk H
      clear H
      go_wp2
      go_meet
      case rel => exact ⟨_, (Go.bits .or .i64 (wrap64 (a0_0 * 64)) 32), (by first | rfl | (simp; done) | (simp [*]; done)), H', ⟨by first | omega | exact Nat.le_refl _⟩, ⟨by (with_reducible repeat (first | refine blk_drewN ?_ _ | refine blk_drew ?_ | refine blk_alloc ?_ _)); exact BK333.out⟩, ⟨by repeat (first | (with_reducible first | exact HB.out | apply below_alloc | apply pw_below_drewN | apply below_drew1 | refine below_set ?_ GE333.out) | exact HB.out)⟩⟩
    · replace c5 := Bool.eq_false_iff.mpr c5
      subst c5
      have H1 : (spec_PutHeader.j0 k (wrap64 (a0_0 * 64)) a0_0 a0_1 a0_2 false) = some r := by rw [if_neg (show ¬ (false = true) by decide)] at H; exact H
      clear H
      have H := H1
      clear H1
      have H' := Aside0.mk H
      clear H
      go_wp2
      go_meet
      case rel => exact ⟨_, (wrap64 (a0_0 * 64)), (by first | rfl | (simp; done) | (simp [*]; done)), H', ⟨by first | omega | exact Nat.le_refl _⟩, ⟨by (with_reducible repeat (first | refine blk_drewN ?_ _ | refine blk_drew ?_ | refine blk_alloc ?_ _)); exact BK333.out⟩, ⟨by repeat (first | (with_reducible first | exact HB.out | apply below_alloc | apply pw_below_drewN | apply below_drew1 | refine below_set ?_ GE333.out) | exact HB.out)⟩⟩
  case rest =>
    clear HC2
    try clear c2
    try clear p2
    try clear c5
    try clear hcz4_0
    try clear hcz4_1
    try clear hcz4_2
    try clear hcz4_3
    try clear hfz4_0
    try clear hfz4_1
    try clear hfz4_2
    try clear hfz4_3
    obtain ⟨kq, x3_1, rfl, HA, HJ1, BK333, HB⟩ := hcut
    cases kq with
    | zero => exact absurd HA.out (by simp [spec_PutHeader.j0])
    | succ kj1 =>
      have H := HA.out
      clear HA
      simp only [spec_PutHeader.j0] at H
      obtain ⟨y334, hy334⟩ : ∃ y_ : List Int, y_ = (([] : List Int)) := ⟨_, rfl⟩
      replace H : (if a0_1 ≥ 31 then (if y334.length < 140737488355328 then ((some (y334 ++ [(Go.bits .or .i64 x3_1 31) % 256] : List Int)).bind fun y337 => ((spec_Put128.f kj1 a0_1).bind fun t340 => (if y337.length + t340.length < 140737488355328 then (spec_PutHeader.j1 kj1 (y337 ++ t340) a0_0 a0_1 a0_2 a0_3) else (none)))) else (none)) else (if y334.length < 140737488355328 then (spec_PutHeader.j1 kj1 (y334 ++ [(Go.bits .or .i64 x3_1 a0_1) % 256]) a0_0 a0_1 a0_2 a0_3) else (none))) = some r := by first | (rw [hy334]; with_reducible exact H) | (have H2_ := (Option.bind_some _ _).symm.trans H; rw [hy334]; with_reducible exact H2_) | (have H2_ := (Option.bind_some _ _).symm.trans H; with_reducible exact H2_) | with_reducible exact H | (rw [hy334]; exact H) | exact H
      have Ny334 := Aside0.mk hy334
      clear hy334
      have HC6 := Aside0.mk H
      clear H
      go_upto_if 17 with (first | ((with_reducible refine gate_dst (N := 14) rfl ?_); refine Kd.R_lit (Kd.int .u8) _ 5 ?hg (N := 14) ?hd (xs := ([] : List Int)) (inner := []) (ok := fun _ => True) (okp := fun _ => True) ?hr ?hp (fun _ hk => hk) trivial (Below.refl _ _) (Nat.le_refl _) (by simp) ?_; (case hd => rfl); (case hg => rfl); (case hr => first | (go_simp; done) | (go_simp; rfl)); (case hp => exact (Reps.none _ _)); intro v335 w7 ho8 hb hg_ hnew_; clear hg_ hnew_; (first | rw [← Ny334.out] at ho8 | (simp only [Int.reduceToNat] at ho8; rw [← Ny334.out] at ho8)); have n0_ := Aside0.mk (Kd.R_lower ho8 (below_size (by repeat (first | (with_reducible first | exact HB.out | apply below_alloc | apply pw_below_drewN | apply below_drew1 | refine below_set ?_ GE333.out) | exact HB.out)))); have n1_ := Aside0.mk (blk_below (g := gb333) (o := .cells #[.int .i64 a0_0, .int .i64 a0_1, .int .i64 a0_2, .bool a0_3] 44 (0, 0)) (by (with_reducible repeat (first | refine blk_drewN ?_ _ | refine blk_drew ?_ | refine blk_alloc ?_ _)); exact BK333.out) hb); have n2_ := Aside0.mk (below_step (by repeat (first | (with_reducible first | exact HB.out | apply below_alloc | apply pw_below_drewN | apply below_drew1 | refine below_set ?_ GE333.out) | exact HB.out)) hb); clear BK333; clear HB; have HO336 := n0_; have BK333 := n1_; have HB := n2_; clear n0_ n1_ n2_; clear hb ho8; have hcz9_0 : w7.cell? ⟨gb333, 0, none⟩ = some (.int .i64 a0_0) := (blk_cell BK333.out 0).trans rfl; have hcz9_1 : w7.cell? ⟨gb333, 1, none⟩ = some (.int .i64 a0_1) := (blk_cell BK333.out 1).trans rfl; have hcz9_2 : w7.cell? ⟨gb333, 2, none⟩ = some (.int .i64 a0_2) := (blk_cell BK333.out 2).trans rfl; have hcz9_3 : w7.cell? ⟨gb333, 3, none⟩ = some (.bool a0_3) := (blk_cell BK333.out 3).trans rfl; have hfz9_0 := blk_frozen BK333.out 0; have hfz9_1 := blk_frozen BK333.out 1; have hfz9_2 := blk_frozen BK333.out 2; have hfz9_3 := blk_frozen BK333.out 3))
      (try simp only [Act.put, List.setIfInBounds_toArray, List.set_cons_zero, List.set_cons_succ])
      go_cut [4] (fun v4 wc => ∃ (kq : Nat) (x4_5 : List Int), Aside0 (spec_PutHeader.j1 kq x4_5 a0_0 a0_1 a0_2 a0_3 = some r) ∧ Aside0 (kq ≤ kj1) ∧ Aside0 (Kd.R (Kd.int .u8) 5 wc w.heap.size (fun _ => True) v4 x4_5) ∧ Aside0 (wc.heap[gb333]? = some (.cells #[.int .i64 a0_0, .int .i64 a0_1, .int .i64 a0_2, .bool a0_3] 44 (0, 0))) ∧ Aside0 (Below w.heap.size w wc))
      case first =>
        have H := HC6.out
        clear HC6
        by_cases c10 : a0_1 ≥ 31
        · rw [if_pos c10] at H
          have c10b0 : decide (31 ≤ a0_1) = true := decide_eq_true c10
          clear c10
          (first | rw [c10b0] | (simp only [i64_w, i32_w]; rw [c10b0]) | skip)
          by_cases c11 : y334.length < 140737488355328
          · rw [if_pos c11] at H
            have LMc11 := Aside0.mk c11
            clear c11
            obtain ⟨y337, hy337⟩ : ∃ y_ : List Int, y_ = (y334 ++ [(Go.bits .or .i64 x3_1 31) % 256]) := ⟨_, rfl⟩
            replace H : ((spec_Put128.f kj1 a0_1).bind fun t340 => (if y337.length + t340.length < 140737488355328 then (spec_PutHeader.j1 kj1 (y337 ++ t340) a0_0 a0_1 a0_2 a0_3) else (none))) = some r := by first | (rw [hy337]; with_reducible exact H) | (have H2_ := (Option.bind_some _ _).symm.trans H; rw [hy337]; with_reducible exact H2_) | (have H2_ := (Option.bind_some _ _).symm.trans H; with_reducible exact H2_) | with_reducible exact H | (rw [hy337]; exact H) | exact H
            have Ny337 := Aside0.mk hy337
            clear hy337
            replace H := Option.bind_eq_some_iff.mp H
            obtain ⟨t340, A120, H⟩ := H
            replace H : (if y337.length + t340.length < 140737488355328 then (spec_PutHeader.j1 kj1 (y337 ++ t340) a0_0 a0_1 a0_2 a0_3) else (none)) = some r := H
            have A12 := Aside0.mk A120
            clear A120
            by_cases c13 : y337.length + t340.length < 140737488355328
            · rw [if_pos c13] at H
              have LMc13 := Aside0.mk c13
              clear c13
              obtain ⟨y343, hy343⟩ : ∃ y_ : List Int, y_ = (y337 ++ t340) := ⟨_, rfl⟩
              replace H : (spec_PutHeader.j1 kj1 y343 a0_0 a0_1 a0_2 a0_3) = some r := by first | (rw [hy343]; with_reducible exact H) | (have H2_ := (Option.bind_some _ _).symm.trans H; rw [hy343]; with_reducible exact H2_) | (have H2_ := (Option.bind_some _ _).symm.trans H; with_reducible exact H2_) | with_reducible exact H | (rw [hy343]; exact H) | exact H
              have Ny343 := Aside0.mk hy343
              clear hy343
              have H' := Aside0.mk H
              clear H
              try go_wp2
              have n0_ := Aside0.mk (Kd.R_drew HO336.out)
              have n1_ := Aside0.mk (blk_drew BK333.out)
              have n2_ := Aside0.mk (below_drew1 HB.out)
              clear HO336
              clear BK333
              clear HB
              have HO336 := n0_
              have BK333 := n1_
              have HB := n2_
              clear n0_ n1_ n2_
              refine start_ (n := 11) (S := fun w' => w'.cell? ⟨gb333, 0, none⟩ = some (.int .i64 a0_0) ∧ w'.cell? ⟨gb333, 1, none⟩ = some (.int .i64 a0_1) ∧ w'.cell? ⟨gb333, 2, none⟩ = some (.int .i64 a0_2) ∧ w'.cell? ⟨gb333, 3, none⟩ = some (.bool a0_3)) (ds := []) #[false, false, false, false, false, false, false, false, false, false, false] (by kernel_rfl) rfl rfl ⟨(blk_cell BK333.out 0).trans rfl, (blk_cell BK333.out 1).trans rfl, (blk_cell BK333.out 2).trans rfl, (blk_cell BK333.out 3).trans rfl⟩ (fun hHeld => ?_); refine with_tabW spec_PutHeader.tab6 spec_PutHeader.bits6 (fun HT_ HW_ => ?_)
              generalize w7.drew = w14 at HO336 BK333 HB hHeld ⊢
              refine pure_ (i := 0) (N := some 18) (v := ?_) (a' := ?_) #[true, false, false, false, false, false, false, false, false, false, false] rfl rfl (any_of HT_.out (by kernel_rfl)) (fun _ _ _ h => h) (Or.inl ⟨by rfl, ?_⟩) ?_ ?_
              rotate_left
              · intro w'
                go_simp
                with_reducible rfl
              rotate_left
              · simp only [Act.put, List.setIfInBounds_toArray, List.set_cons_zero, List.set_cons_succ, i64_w, i32_w]
                rfl
              refine pure_ (i := 1) (N := some 19) (v := ?_) (a' := ?_) #[true, true, false, false, false, false, false, false, false, false, false] rfl rfl (any_of HT_.out (by kernel_rfl)) (fun _ _ _ h => h) (Or.inl ⟨by rfl, ?_⟩) ?_ ?_
              rotate_left
              · intro w'
                go_simp
                with_reducible rfl
              rotate_left
              · simp only [Act.put, List.setIfInBounds_toArray, List.set_cons_zero, List.set_cons_succ, i64_w, i32_w]
                rfl
              refine pure_ (i := 2) (N := some 20) (v := ?_) (a' := ?_) #[true, true, true, false, false, false, false, false, false, false, false] rfl rfl (any_of HT_.out (by kernel_rfl)) (fun _ _ _ h => h) (Or.inl ⟨by rfl, ?_⟩) ?_ ?_
              rotate_left
              · intro w'
                go_simp
                with_reducible rfl
              rotate_left
              · simp only [Act.put, List.setIfInBounds_toArray, List.set_cons_zero, List.set_cons_succ, i64_w, i32_w]
                rfl
              refine pure_ (i := 3) (N := some 21) (v := ?_) (a' := ?_) #[true, true, true, true, false, false, false, false, false, false, false] rfl rfl (any_of HT_.out (by kernel_rfl)) (fun _ _ _ h => h) (Or.inl ⟨by rfl, ?_⟩) ?_ ?_
              rotate_left
              · intro w'
                go_simp
                with_reducible rfl
              rotate_left
              · simp only [Act.put, List.setIfInBounds_toArray, List.set_cons_zero, List.set_cons_succ, i64_w, i32_w]
                rfl
              refine pure_ (i := 6) (N := some 24) (v := ?_) (a' := ?_) #[true, true, true, true, false, false, true, false, false, false, false] rfl rfl (any_of HT_.out (by kernel_rfl)) (fun _ _ _ h => h) (Or.inl ⟨by rfl, ?_⟩) ?_ ?_
              rotate_left
              · intro w'
                go_simp
                with_reducible rfl
              rotate_left
              · simp only [Act.put, List.setIfInBounds_toArray, List.set_cons_zero, List.set_cons_succ, i64_w, i32_w]
                rfl
              refine take_ (i := 7) (N := some 25) (v := ?_) (a' := ?_) #[true, true, true, true, false, false, true, true, false, false, false] rfl rfl (take_ofW HT_.out HW_.out (by kernel_rfl)) (fun _ _ _ h => h) (Or.inl ⟨by rfl, ?_⟩) hHeld ?_ ?_
              rotate_left
              · rintro w' ⟨s0, s1, s2, s3⟩
                go_simp
                with_reducible rfl
              rotate_left
              · simp only [Act.put, List.setIfInBounds_toArray, List.set_cons_zero, List.set_cons_succ, i64_w, i32_w]
                rfl
              refine one_ (i := 4) (N := some 22) #[true, true, true, true, true, false, true, true, false, false, false] rfl rfl (one_of HT_.out (by kernel_rfl)) (by decide) (fun K hK => ?_)
              refine value_ (w1 := ?_) (v := ?_) (by rfl) rfl ?_ ?_
              rotate_left 2
              · go_simp
                constructor
                · rfl
                · rfl
              refine hK.out _ _ ⟨(blk_cell (blk_alloc BK333.out _) 0).trans rfl, (blk_cell (blk_alloc BK333.out _) 1).trans rfl, (blk_cell (blk_alloc BK333.out _) 2).trans rfl, (blk_cell (blk_alloc BK333.out _) 3).trans rfl⟩ (fun hHeld => ?_)
              clear hK K
              refine norm_ (a' := ?_) ?_ ?_
              rotate_left
              · show Act.put _ (some 22) _ = _
                simp only [Act.put, List.setIfInBounds_toArray, List.set_cons_zero, List.set_cons_succ, i64_w, i32_w]
                rfl
              refine one_ (i := 5) (N := some 23) #[true, true, true, true, true, true, true, true, false, false, false] rfl rfl (one_of HT_.out (by kernel_rfl)) (by decide) (fun K hK => ?_)
              refine Kd.R_append_step (Kd.int .u8) (w0 := w) w.heap.size (by rfl) (.tmp 18) (.tmp 22) 22 5 (.int .u8 0) 1 rfl Try.underlying22 info5 rfl (by decide) (by omega) v335 y334 ((Go.bits .or .i64 x3_1 31) % 256) [.int .u8 ((Go.bits .or .i64 x3_1 31) % 256)] (fun _ => True) (fun _ => False) rfl rfl ?aP (fun _ hk => hk.elim) ?aF ?aO ?aB ?aS ?aL ?_
              (case aP => exact rfl)
              (case aB => exact (by repeat (first | (with_reducible first | exact HB.out | apply below_alloc | apply pw_below_drewN | apply below_drew1 | refine below_set ?_ GE333.out) | exact HB.out)))
              (case aF => exact (fun _ _ => trivial))
              (case aO => exact (by (with_reducible repeat (first | apply Kd.R_alloc | apply Kd.R_drewN | apply Kd.R_drew)); exact HO336.out))
              (case aS => exact (below_size (by repeat (first | (with_reducible first | exact HB.out | apply below_alloc | apply pw_below_drewN | apply below_drew1 | refine below_set ?_ GE333.out) | exact HB.out))))
              (case aL => have := LMc11.out; omega)
              intro v338 w15 ho hb hg hat
              rw [← Ny337.out] at ho
              have n0_ := Aside0.mk (blk_grown (g := gb333) (o := .cells #[.int .i64 a0_0, .int .i64 a0_1, .int .i64 a0_2, .bool a0_3] 44 (0, 0)) (by (with_reducible repeat (first | refine blk_drewN ?_ _ | refine blk_drew ?_ | refine blk_alloc ?_ _)); exact BK333.out) hg (Kd.R_ne HO336.out BK333.out (by decide)))
              have n1_ := Aside0.mk (hb)
              have n2_ := Aside0.mk (ho)
              clear BK333
              clear HB
              clear HO336
              have BK333 := n0_
              have HB := n1_
              have HO339 := n2_
              clear n0_ n1_ n2_
              clear ho hb hg hat
              refine hK.out _ _ ⟨(blk_cell BK333.out 0).trans rfl, (blk_cell BK333.out 1).trans rfl, (blk_cell BK333.out 2).trans rfl, (blk_cell BK333.out 3).trans rfl⟩ (fun hHeld => ?_)
              clear hK K
              refine norm_ (a' := ?_) ?_ ?_
              rotate_left
              · show Act.put _ (some 23) _ = _
                simp only [Act.put, List.setIfInBounds_toArray, List.set_cons_zero, List.set_cons_succ, i64_w, i32_w]
                rfl
              refine one_ (i := 8) (N := some 26) #[true, true, true, true, true, true, true, true, true, false, false] rfl rfl (one_of HT_.out (by kernel_rfl)) (by decide) (fun K hK => ?_)
              refine goes_ Try.func20 (by kernel_rfl) rfl #[.int .i64 a0_1] (by rfl) rfl rfl (by (try simp only [List.map_toArray, List.map_cons, List.map_nil]); first | done | rfl | (simp only [List.length_drop, List.length_take]; rfl)) ?_
              with_reducible refine (spec_Put128.calls kj1 a0_1 t340 _ A12.out).mono ?_
              rintro e w16 ⟨v341, rfl, ho0, hb⟩
              refine ⟨_, rfl, ?_⟩
              have n0_ := Aside0.mk (Kd.R_elder' (by (with_reducible repeat (first | apply Kd.R_alloc | apply Kd.R_drewN | apply Kd.R_drew)); exact HO339.out) (Kd.R_base ho0) hb)
              have n1_ := Aside0.mk (Kd.R_lower (Kd.R_new' ho0 (Kd.R_lt (by (with_reducible repeat (first | apply Kd.R_alloc | apply Kd.R_drewN | apply Kd.R_drew)); exact HO339.out))) (below_size (by repeat (first | (with_reducible first | exact HB.out | apply below_alloc | apply pw_below_drewN | apply below_drew1 | refine below_set ?_ GE333.out) | exact HB.out))))
              have n2_ := Aside0.mk (blk_below (g := gb333) (o := .cells #[.int .i64 a0_0, .int .i64 a0_1, .int .i64 a0_2, .bool a0_3] 44 (0, 0)) (by (with_reducible repeat (first | refine blk_drewN ?_ _ | refine blk_drew ?_ | refine blk_alloc ?_ _)); exact BK333.out) hb)
              have n3_ := Aside0.mk (below_step (by repeat (first | (with_reducible first | exact HB.out | apply below_alloc | apply pw_below_drewN | apply below_drew1 | refine below_set ?_ GE333.out) | exact HB.out)) hb)
              clear HO339
              clear BK333
              clear HB
              have HO339 := n0_
              have HO342 := n1_
              have BK333 := n2_
              have HB := n3_
              clear n0_ n1_ n2_ n3_
              (try clear hb)
              (try clear hb2)
              (try clear hk)
              (try clear hi)
              (try clear ho0)
              obtain ⟨Ao18, co18, eo18⟩ := Kd.R_slice HO342.out
              (first | subst eo18 | (injection eo18 with f1_ f2_ f3_; have f4_ := f1_.symm; have f5_ := f3_.symm; clear f1_ f2_ f3_; subst f4_; subst f5_))
              refine hK.out _ _ ⟨(blk_cell BK333.out 0).trans rfl, (blk_cell BK333.out 1).trans rfl, (blk_cell BK333.out 2).trans rfl, (blk_cell BK333.out 3).trans rfl⟩ (fun hHeld => ?_)
              clear hK K
              refine norm_ (a' := ?_) ?_ ?_
              rotate_left
              · show Act.put _ (some 26) _ = _
                simp only [Act.put, List.setIfInBounds_toArray, List.set_cons_zero, List.set_cons_succ, i64_w, i32_w]
                rfl
              refine one_ (i := 9) (N := some 27) #[true, true, true, true, true, true, true, true, true, true, false] rfl rfl (one_of HT_.out (by kernel_rfl)) (by decide) (fun K hK => ?_)
              refine Kd.R_append_rows_step (Kd.int .u8) (w0 := w) w.heap.size (by rfl) (.tmp 23) (.tmp 26) 22 5 (.int .u8 0) 1 rfl Try.underlying22 info5 rfl (by decide) (by omega) v338 y337 t340 _ _ _ (fun k_ => some k_ ≠ (.slice Ao18 t340.length co18 : Value).ownBlock) (fun _ => False) rfl rfl ?aO ?aR (fun _ _ h => h) (fun _ h => h.elim) ?aF ?aB ?aS ?aL ?_
              (case aR => repeat (first | exact (Kd.R_reads' HO342.out).2.2 | (with_reducible refine Kd.C_alloc ?_ _) | (with_reducible refine Kd.C_drewN ?_ _) | (with_reducible refine Kd.C_drew ?_)))
              (case aB => exact (by repeat (first | (with_reducible first | exact HB.out | apply below_alloc | apply pw_below_drewN | apply below_drew1 | refine below_set ?_ GE333.out) | exact HB.out)))
              (case aF => exact (fun k_ hk => Kd.fresh' (Kd.R_lt (by (with_reducible repeat (first | apply Kd.R_alloc | apply Kd.R_drewN | apply Kd.R_drew)); exact HO342.out)) k_ hk))
              (case aO => exact (by (with_reducible repeat (first | apply Kd.R_alloc | apply Kd.R_drewN | apply Kd.R_drew)); exact Kd.R_mono HO339.out (fun _ hk => hk.2)))
              (case aS => exact (below_size (by repeat (first | (with_reducible first | exact HB.out | apply below_alloc | apply pw_below_drewN | apply below_drew1 | refine below_set ?_ GE333.out) | exact HB.out))))
              (case aL => have := LMc13.out; omega)
              intro v344 w17 ho hb hg hat
              rw [← Ny343.out] at ho
              have n0_ := Aside0.mk (blk_grown (g := gb333) (o := .cells #[.int .i64 a0_0, .int .i64 a0_1, .int .i64 a0_2, .bool a0_3] 44 (0, 0)) (by (with_reducible repeat (first | refine blk_drewN ?_ _ | refine blk_drew ?_ | refine blk_alloc ?_ _)); exact BK333.out) hg (Kd.R_ne HO339.out BK333.out (by decide)))
              have n1_ := Aside0.mk (Kd.R_after (ok := (fun _ => True)) (by (with_reducible repeat (first | apply Kd.R_alloc | apply Kd.R_drewN | apply Kd.R_drew)); exact HO342.out) hg hat)
              have n2_ := Aside0.mk (hb)
              have n3_ := Aside0.mk (ho)
              clear BK333
              clear HO342
              clear HB
              clear HO339
              have BK333 := n0_
              have HO342 := n1_
              have HB := n2_
              have HO345 := n3_
              clear n0_ n1_ n2_ n3_
              clear ho hb hg hat
              refine hK.out _ _ ⟨(blk_cell BK333.out 0).trans rfl, (blk_cell BK333.out 1).trans rfl, (blk_cell BK333.out 2).trans rfl, (blk_cell BK333.out 3).trans rfl⟩ (fun hHeld => ?_)
              clear hK K
              refine norm_ (a' := ?_) ?_ ?_
              rotate_left
              · show Act.put _ (some 27) _ = _
                simp only [Act.put, List.setIfInBounds_toArray, List.set_cons_zero, List.set_cons_succ, i64_w, i32_w]
                rfl
              refine pure_ (i := 10) (N := some 4) (v := ?_) (a' := ?_) #[true, true, true, true, true, true, true, true, true, true, true] rfl rfl (any_of HT_.out (by kernel_rfl)) (fun _ _ _ h => h) (Or.inl ⟨by rfl, ?_⟩) ?_ ?_
              rotate_left
              · intro w'
                go_simp
                with_reducible rfl
              rotate_left
              · simp only [Act.put, List.setIfInBounds_toArray, List.set_cons_zero, List.set_cons_succ, i64_w, i32_w]
                rfl
              refine done_ (done_of HT_.out (by kernel_rfl)) ?_
              try go_wp2
              go_meet
              case rel => exact ⟨_, (y343), H', ⟨by have := HJ1.out; first | omega | exact Nat.le_refl _⟩, ⟨by (with_reducible repeat (first | apply Kd.R_alloc | apply Kd.R_drewN | apply Kd.R_drew)); exact Kd.R_mono HO345.out (fun _ hk => trivial)⟩, ⟨by (with_reducible repeat (first | refine blk_drewN ?_ _ | refine blk_drew ?_ | refine blk_alloc ?_ _)); exact BK333.out⟩, ⟨by repeat (first | (with_reducible first | exact HB.out | apply below_alloc | apply pw_below_drewN | apply below_drew1 | refine below_set ?_ GE333.out) | exact HB.out)⟩⟩
            · rw [if_neg c13] at H
              exact absurd H (by simp)
          · rw [if_neg c11] at H
            exact absurd H (by simp)
        · rw [if_neg c10] at H
          have c10b0 : decide (31 ≤ a0_1) = false := decide_eq_false c10
          clear c10
          (first | rw [c10b0] | (simp only [i64_w, i32_w]; rw [c10b0]) | skip)
          by_cases c19 : y334.length < 140737488355328
          · rw [if_pos c19] at H
            have LMc19 := Aside0.mk c19
            clear c19
            obtain ⟨y346, hy346⟩ : ∃ y_ : List Int, y_ = (y334 ++ [(Go.bits .or .i64 x3_1 a0_1) % 256]) := ⟨_, rfl⟩
            replace H : (spec_PutHeader.j1 kj1 y346 a0_0 a0_1 a0_2 a0_3) = some r := by first | (rw [hy346]; with_reducible exact H) | (have H2_ := (Option.bind_some _ _).symm.trans H; rw [hy346]; with_reducible exact H2_) | (have H2_ := (Option.bind_some _ _).symm.trans H; with_reducible exact H2_) | with_reducible exact H | (rw [hy346]; exact H) | exact H
            have Ny346 := Aside0.mk hy346
            clear hy346
            have H' := Aside0.mk H
            clear H
            have hcz20_0 : w7.cell? ⟨gb333, 0, none⟩ = some (.int .i64 a0_0) := (blk_cell BK333.out 0).trans rfl
            have hcz20_1 : w7.cell? ⟨gb333, 1, none⟩ = some (.int .i64 a0_1) := (blk_cell BK333.out 1).trans rfl
            have hcz20_2 : w7.cell? ⟨gb333, 2, none⟩ = some (.int .i64 a0_2) := (blk_cell BK333.out 2).trans rfl
            have hcz20_3 : w7.cell? ⟨gb333, 3, none⟩ = some (.bool a0_3) := (blk_cell BK333.out 3).trans rfl
            have hfz20_0 := blk_frozen BK333.out 0
            have hfz20_1 := blk_frozen BK333.out 1
            have hfz20_2 := blk_frozen BK333.out 2
            have hfz20_3 := blk_frozen BK333.out 3
            go_wp2_with (first | ((with_reducible refine gate_builtin (b := .append) (xs := #[.tmp 28, .tmp 34]) rfl ?_); at_builtin; refine Kd.R_append (Kd.int .u8) (w0 := w) w.heap.size rfl (.tmp 28) (.tmp 34) 22 5 (.int .u8 0) 1 rfl Try.underlying22 info5 rfl (by decide) (by omega) v335 y334 ((Go.bits .or .i64 x3_1 a0_1) % 256) [.int .u8 ((Go.bits .or .i64 x3_1 a0_1) % 256)] (fun _ => True) (fun _ => False) rfl rfl ?aP (fun _ hk => hk.elim) ?aF ?aO ?aB ?aS ?aL ?_; (case aP => exact rfl); (case aB => exact (by repeat (first | (with_reducible first | exact HB.out | apply below_alloc | apply pw_below_drewN | apply below_drew1 | refine below_set ?_ GE333.out) | exact HB.out))); (case aF => exact (fun _ _ => trivial)); (case aO => exact (by (with_reducible repeat (first | apply Kd.R_alloc | apply Kd.R_drewN | apply Kd.R_drew)); exact HO336.out)); (case aS => exact (below_size (by repeat (first | (with_reducible first | exact HB.out | apply below_alloc | apply pw_below_drewN | apply below_drew1 | refine below_set ?_ GE333.out) | exact HB.out)))); (case aL => have := LMc19.out; omega); intro v347 w21 ho hb hg hat; rw [← Ny346.out] at ho; have n0_ := Aside0.mk (blk_grown (g := gb333) (o := .cells #[.int .i64 a0_0, .int .i64 a0_1, .int .i64 a0_2, .bool a0_3] 44 (0, 0)) (by (with_reducible repeat (first | refine blk_drewN ?_ _ | refine blk_drew ?_ | refine blk_alloc ?_ _)); exact BK333.out) hg (Kd.R_ne HO336.out BK333.out (by decide))); have n1_ := Aside0.mk (hb); have n2_ := Aside0.mk (ho); clear BK333; clear HB; clear HO336; have BK333 := n0_; have HB := n1_; have HO348 := n2_; clear n0_ n1_ n2_; clear ho hb hg hat))
            go_meet
            case rel => exact ⟨_, (y346), H', ⟨by have := HJ1.out; first | omega | exact Nat.le_refl _⟩, ⟨by (with_reducible repeat (first | apply Kd.R_alloc | apply Kd.R_drewN | apply Kd.R_drew)); exact HO348.out⟩, ⟨by (with_reducible repeat (first | refine blk_drewN ?_ _ | refine blk_drew ?_ | refine blk_alloc ?_ _)); exact BK333.out⟩, ⟨by repeat (first | (with_reducible first | exact HB.out | apply below_alloc | apply pw_below_drewN | apply below_drew1 | refine below_set ?_ GE333.out) | exact HB.out)⟩⟩
          · rw [if_neg c19] at H
            exact absurd H (by simp)
      case rest =>
        clear HC6
        try clear c1
        try clear c2
        try clear p2
        try clear c5
        try clear p6
        try clear c10
        try clear c10b0
        try clear c11
        try clear c13
        try clear c19
        try clear c20
        try clear hcz20_0
        try clear hcz20_1
        try clear hcz20_2
        try clear hcz20_3
        try clear hcz4_0
        try clear hcz4_1
        try clear hcz4_2
        try clear hcz4_3
        try clear hcz9_0
        try clear hcz9_1
        try clear hcz9_2
        try clear hcz9_3
        try clear hfz20_0
        try clear hfz20_1
        try clear hfz20_2
        try clear hfz20_3
        try clear hfz4_0
        try clear hfz4_1
        try clear hfz4_2
        try clear hfz4_3
        try clear hfz9_0
        try clear hfz9_1
        try clear hfz9_2
        try clear hfz9_3
        try clear p2
        obtain ⟨kq, x4_5, HA, HJ5, HO_4, BK333, HB⟩ := hcut
        cases kq with
        | zero => exact absurd HA.out (by simp [spec_PutHeader.j1])
        | succ kj5 =>
          have H := HA.out
          clear HA
          simp only [spec_PutHeader.j1] at H
          by_cases c22 : a0_2 < 128
          · rw [if_pos c22] at H
            have c22b0 : decide (a0_2 < 128) = true := decide_eq_true c22
            clear c22
            by_cases c23 : x4_5.length < 140737488355328
            · rw [if_pos c23] at H
              have LMc23 := Aside0.mk c23
              clear c23
              obtain ⟨y349, hy349⟩ : ∃ y_ : List Int, y_ = (x4_5 ++ [(a0_2) % 256]) := ⟨_, rfl⟩
              replace H : (some y349) = some r := by first | (rw [hy349]; with_reducible exact H) | (have H2_ := (Option.bind_some _ _).symm.trans H; rw [hy349]; with_reducible exact H2_) | (have H2_ := (Option.bind_some _ _).symm.trans H; with_reducible exact H2_) | with_reducible exact H | (rw [hy349]; exact H) | exact H
              have Ny349 := Aside0.mk hy349
              clear hy349
              obtain rfl := Option.some.inj H
              have hcz24_0 : wc.cell? ⟨gb333, 0, none⟩ = some (.int .i64 a0_0) := (blk_cell BK333.out 0).trans rfl
              have hcz24_1 : wc.cell? ⟨gb333, 1, none⟩ = some (.int .i64 a0_1) := (blk_cell BK333.out 1).trans rfl
              have hcz24_2 : wc.cell? ⟨gb333, 2, none⟩ = some (.int .i64 a0_2) := (blk_cell BK333.out 2).trans rfl
              have hcz24_3 : wc.cell? ⟨gb333, 3, none⟩ = some (.bool a0_3) := (blk_cell BK333.out 3).trans rfl
              have hfz24_0 := blk_frozen BK333.out 0
              have hfz24_1 := blk_frozen BK333.out 1
              have hfz24_2 := blk_frozen BK333.out 2
              have hfz24_3 := blk_frozen BK333.out 3
              go_wp2_with (first | ((with_reducible refine gate_builtin (b := .append) (xs := #[.tmp 39, .tmp 43]) rfl ?_); at_builtin; refine Kd.R_append (Kd.int .u8) (w0 := w) w.heap.size rfl (.tmp 39) (.tmp 43) 22 5 (.int .u8 0) 1 rfl Try.underlying22 info5 rfl (by decide) (by omega) u4 x4_5 ((a0_2) % 256) [.int .u8 ((a0_2) % 256)] (fun _ => True) (fun _ => False) rfl rfl ?aP (fun _ hk => hk.elim) ?aF ?aO ?aB ?aS ?aL ?_; (case aP => exact rfl); (case aB => exact (by repeat (first | (with_reducible first | exact HB.out | apply below_alloc | apply pw_below_drewN | apply below_drew1 | refine below_set ?_ GE333.out) | exact HB.out))); (case aF => exact (fun _ _ => trivial)); (case aO => exact (by (with_reducible repeat (first | apply Kd.R_alloc | apply Kd.R_drewN | apply Kd.R_drew)); exact HO_4.out)); (case aS => exact (below_size (by repeat (first | (with_reducible first | exact HB.out | apply below_alloc | apply pw_below_drewN | apply below_drew1 | refine below_set ?_ GE333.out) | exact HB.out)))); (case aL => have := LMc23.out; omega); intro v350 w25 ho hb hg hat; rw [← Ny349.out] at ho; have n0_ := Aside0.mk (blk_grown (g := gb333) (o := .cells #[.int .i64 a0_0, .int .i64 a0_1, .int .i64 a0_2, .bool a0_3] 44 (0, 0)) (by (with_reducible repeat (first | refine blk_drewN ?_ _ | refine blk_drew ?_ | refine blk_alloc ?_ _)); exact BK333.out) hg (Kd.R_ne HO_4.out BK333.out (by decide))); have n1_ := Aside0.mk (hb); have n2_ := Aside0.mk (ho); clear BK333; clear HB; clear HO_4; have BK333 := n0_; have HB := n1_; have HO351 := n2_; clear n0_ n1_ n2_; clear ho hb hg hat))
              go_ret
              exact ⟨_, by first | rfl | (simp [errW_none, errW_some] <;> rfl) | (simp [*, errW_none, errW_some] <;> rfl), by (with_reducible repeat (first | apply Kd.R_alloc | apply Kd.R_drewN | apply Kd.R_drew)); exact HO351.out, by repeat (first | (with_reducible first | exact HB.out | apply below_alloc | apply pw_below_drewN | apply below_drew1 | refine below_set ?_ GE333.out) | exact HB.out)⟩
            · rw [if_neg c23] at H
              exact absurd H (by simp)
          · rw [if_neg c22] at H
            have c22b0 : decide (a0_2 < 128) = false := decide_eq_false c22
            clear c22
            obtain ⟨y352, hy352⟩ : ∃ y_ : List Int, y_ = (([] : List Int)) := ⟨_, rfl⟩
            replace H : (spec_PutHeader.l0 kj5 x4_5 y352 a0_2) = some r := by first | (rw [hy352]; with_reducible exact H) | (have H2_ := (Option.bind_some _ _).symm.trans H; rw [hy352]; with_reducible exact H2_) | (have H2_ := (Option.bind_some _ _).symm.trans H; with_reducible exact H2_) | with_reducible exact H | (rw [hy352]; exact H) | exact H
            have Ny352 := Aside0.mk hy352
            clear hy352
            have H' := Aside0.mk H
            clear H
            have hcz26_0 : wc.cell? ⟨gb333, 0, none⟩ = some (.int .i64 a0_0) := (blk_cell BK333.out 0).trans rfl
            have hcz26_1 : wc.cell? ⟨gb333, 1, none⟩ = some (.int .i64 a0_1) := (blk_cell BK333.out 1).trans rfl
            have hcz26_2 : wc.cell? ⟨gb333, 2, none⟩ = some (.int .i64 a0_2) := (blk_cell BK333.out 2).trans rfl
            have hcz26_3 : wc.cell? ⟨gb333, 3, none⟩ = some (.bool a0_3) := (blk_cell BK333.out 3).trans rfl
            have hfz26_0 := blk_frozen BK333.out 0
            have hfz26_1 := blk_frozen BK333.out 1
            have hfz26_2 := blk_frozen BK333.out 2
            have hfz26_3 := blk_frozen BK333.out 3
            go_wp2_with (first | ((with_reducible refine gate_dst (N := 45) rfl ?_); refine Kd.R_lit (Kd.int .u8) _ 5 ?hg (N := 45) ?hd (xs := ([] : List Int)) (inner := []) (ok := fun _ => True) (okp := fun _ => True) ?hr ?hp (fun _ hk => hk) trivial (Below.refl _ _) (Nat.le_refl _) (by simp) ?_; (case hd => rfl); (case hg => rfl); (case hr => first | (go_simp; done) | (go_simp; rfl)); (case hp => exact (Reps.none _ _)); intro v353 w27 ho28 hb hg_ hnew_; clear hg_ hnew_; (first | rw [← Ny352.out] at ho28 | (simp only [Int.reduceToNat] at ho28; rw [← Ny352.out] at ho28)); have n0_ := Aside0.mk (Kd.R_elder' (by (with_reducible repeat (first | apply Kd.R_alloc | apply Kd.R_drewN | apply Kd.R_drew)); exact HO_4.out) (Kd.R_base ho28) hb); have n1_ := Aside0.mk (Kd.R_lower (Kd.R_new' ho28 (Kd.R_lt (by (with_reducible repeat (first | apply Kd.R_alloc | apply Kd.R_drewN | apply Kd.R_drew)); exact HO_4.out))) (below_size (by repeat (first | (with_reducible first | exact HB.out | apply below_alloc | apply pw_below_drewN | apply below_drew1 | refine below_set ?_ GE333.out) | exact HB.out)))); have n2_ := Aside0.mk (blk_below (g := gb333) (o := .cells #[.int .i64 a0_0, .int .i64 a0_1, .int .i64 a0_2, .bool a0_3] 44 (0, 0)) (by (with_reducible repeat (first | refine blk_drewN ?_ _ | refine blk_drew ?_ | refine blk_alloc ?_ _)); exact BK333.out) hb); have n3_ := Aside0.mk (below_step (by repeat (first | (with_reducible first | exact HB.out | apply below_alloc | apply pw_below_drewN | apply below_drew1 | refine below_set ?_ GE333.out) | exact HB.out)) hb); clear HO_4; clear BK333; clear HB; have HO_4 := n0_; have HO354 := n1_; have BK333 := n2_; have HB := n3_; clear n0_ n1_ n2_ n3_; clear hb ho28; have hcz29_0 : w27.cell? ⟨gb333, 0, none⟩ = some (.int .i64 a0_0) := (blk_cell BK333.out 0).trans rfl; have hcz29_1 : w27.cell? ⟨gb333, 1, none⟩ = some (.int .i64 a0_1) := (blk_cell BK333.out 1).trans rfl; have hcz29_2 : w27.cell? ⟨gb333, 2, none⟩ = some (.int .i64 a0_2) := (blk_cell BK333.out 2).trans rfl; have hcz29_3 : w27.cell? ⟨gb333, 3, none⟩ = some (.bool a0_3) := (blk_cell BK333.out 3).trans rfl; have hfz29_0 := blk_frozen BK333.out 0; have hfz29_1 := blk_frozen BK333.out 1; have hfz29_2 := blk_frozen BK333.out 2; have hfz29_3 := blk_frozen BK333.out 3))
            go_loopg [5, 6] kj5 (fun kq v5 v6 w' => ∃ (x5_3 : List Int) (x6_3 : Int), v6 = .int .i64 x6_3 ∧ Aside0 (spec_PutHeader.l0 kq x4_5 x5_3 x6_3 = some r) ∧ Aside0 (kq ≤ kj5) ∧ Aside0 (Kd.R (Kd.int .u8) 5 w' w.heap.size (fun k_ => some k_ ≠ (v5 : Value).ownBlock) u4 x4_5) ∧ Aside0 (Kd.R (Kd.int .u8) 5 w' w.heap.size (fun k_ => some k_ ≠ (u4 : Value).ownBlock) v5 x5_3) ∧ Aside0 (w'.heap[gb333]? = some (.cells #[.int .i64 a0_0, .int .i64 a0_1, .int .i64 a0_2, .bool a0_3] 44 (0, 0))) ∧ Aside0 (Below w.heap.size w w'))
            case atStart => exact ⟨(y352), (a0_2), (by first | rfl | (simp; done) | (simp [*]; done)), H', ⟨Nat.le_refl _⟩, ⟨by (with_reducible repeat (first | apply Kd.R_alloc | apply Kd.R_drewN | apply Kd.R_drew)); exact Kd.R_mono HO_4.out (fun _ hk => hk.2)⟩, ⟨by (with_reducible repeat (first | apply Kd.R_alloc | apply Kd.R_drewN | apply Kd.R_drew)); exact Kd.R_mono HO354.out (fun _ hk => hk.2)⟩, ⟨by (with_reducible repeat (first | refine blk_drewN ?_ _ | refine blk_drew ?_ | refine blk_alloc ?_ _)); exact BK333.out⟩, ⟨by repeat (first | (with_reducible first | exact HB.out | apply below_alloc | apply pw_below_drewN | apply below_drew1 | refine below_set ?_ GE333.out) | exact HB.out)⟩⟩
            case round =>
              clear H'
              try clear c1
              try clear c2
              try clear p2
              try clear c5
              try clear p6
              try clear c10
              try clear c10b0
              try clear c11
              try clear c13
              try clear c19
              try clear c20
              try clear c22
              try clear c22b0
              try clear c23
              try clear c27
              try clear hcz20_0
              try clear hcz20_1
              try clear hcz20_2
              try clear hcz20_3
              try clear hcz24_0
              try clear hcz24_1
              try clear hcz24_2
              try clear hcz24_3
              try clear hcz26_0
              try clear hcz26_1
              try clear hcz26_2
              try clear hcz26_3
              try clear hcz29_0
              try clear hcz29_1
              try clear hcz29_2
              try clear hcz29_3
              try clear hcz4_0
              try clear hcz4_1
              try clear hcz4_2
              try clear hcz4_3
              try clear hcz9_0
              try clear hcz9_1
              try clear hcz9_2
              try clear hcz9_3
              try clear hfz20_0
              try clear hfz20_1
              try clear hfz20_2
              try clear hfz20_3
              try clear hfz24_0
              try clear hfz24_1
              try clear hfz24_2
              try clear hfz24_3
              try clear hfz26_0
              try clear hfz26_1
              try clear hfz26_2
              try clear hfz26_3
              try clear hfz29_0
              try clear hfz29_1
              try clear hfz29_2
              try clear hfz29_3
              try clear hfz4_0
              try clear hfz4_1
              try clear hfz4_2
              try clear hfz4_3
              try clear hfz9_0
              try clear hfz9_1
              try clear hfz9_2
              try clear hfz9_3
              try clear p2
              try clear p6
              obtain ⟨x5_3, x6_3, rfl, HA, HK3, HO_4, HO_5, BK333, HB⟩ := hrel
              cases gk with
              | zero => exact absurd HA.out (by simp [spec_PutHeader.l0])
              | succ k3 =>
                have H := HA.out
                clear HA
                simp only [spec_PutHeader.l0] at H
                by_cases c30 : x6_3 > 0
                · rw [if_pos c30] at H
                  have c30b0 : decide (0 < x6_3) = true := decide_eq_true c30
                  clear c30
                  obtain ⟨y355, hy355⟩ : ∃ y_ : List Int, y_ = (([(x6_3) % 256] : List Int)) := ⟨_, rfl⟩
                  replace H : (if y355.length + x5_3.length < 140737488355328 then (spec_PutHeader.l0 k3 x4_5 (y355 ++ x5_3) (x6_3 / 256)) else (none)) = some r := by first | (rw [hy355]; with_reducible exact H) | (have H2_ := (Option.bind_some _ _).symm.trans H; rw [hy355]; with_reducible exact H2_) | (have H2_ := (Option.bind_some _ _).symm.trans H; with_reducible exact H2_) | with_reducible exact H | (rw [hy355]; exact H) | exact H
                  have Ny355 := Aside0.mk hy355
                  clear hy355
                  by_cases c31 : y355.length + x5_3.length < 140737488355328
                  · rw [if_pos c31] at H
                    have LMc31 := Aside0.mk c31
                    clear c31
                    obtain ⟨y358, hy358⟩ : ∃ y_ : List Int, y_ = (y355 ++ x5_3) := ⟨_, rfl⟩
                    replace H : (spec_PutHeader.l0 k3 x4_5 y358 (x6_3 / 256)) = some r := by first | (rw [hy358]; with_reducible exact H) | (have H2_ := (Option.bind_some _ _).symm.trans H; rw [hy358]; with_reducible exact H2_) | (have H2_ := (Option.bind_some _ _).symm.trans H; with_reducible exact H2_) | with_reducible exact H | (rw [hy358]; exact H) | exact H
                    have Ny358 := Aside0.mk hy358
                    clear hy358
                    have H' := Aside0.mk H
                    clear H
                    go_wp2_with (first | ((with_reducible refine gate_dst (N := 54) rfl ?_); refine Kd.R_lit (Kd.int .u8) _ 5 ?hg (N := 54) ?hd (xs := ([(x6_3) % 256] : List Int)) (inner := [.int .u8 ((x6_3) % 256)]) (ok := fun _ => True) (okp := fun _ => True) ?hr ?hp (fun _ hk => hk) trivial (Below.refl _ _) (Nat.le_refl _) (by simp) ?_; (case hd => rfl); (case hg => rfl); (case hr => first | (go_simp; done) | (go_simp; rfl)); (case hp => exact (Reps.one (show Kd.M (Kd.int .u8) _ _ _ ((x6_3) % 256) [.int .u8 ((x6_3) % 256)] from rfl) (Reps.none _ _))); intro v356 w32 ho33 hb hg_ hnew_; clear hg_ hnew_; (first | rw [← Ny355.out] at ho33 | (simp only [Int.reduceToNat] at ho33; rw [← Ny355.out] at ho33)); have n0_ := Aside0.mk (Kd.R_elder' (by (with_reducible repeat (first | apply Kd.R_alloc | apply Kd.R_drewN | apply Kd.R_drew)); exact HO_4.out) (Kd.R_base ho33) hb); have n1_ := Aside0.mk (Kd.R_elder' (by (with_reducible repeat (first | apply Kd.R_alloc | apply Kd.R_drewN | apply Kd.R_drew)); exact HO_5.out) (Kd.R_base ho33) hb); have n2_ := Aside0.mk (Kd.R_lower (Kd.R_new' (Kd.R_new' ho33 (Kd.R_lt (by (with_reducible repeat (first | apply Kd.R_alloc | apply Kd.R_drewN | apply Kd.R_drew)); exact HO_4.out))) (Kd.R_lt (by (with_reducible repeat (first | apply Kd.R_alloc | apply Kd.R_drewN | apply Kd.R_drew)); exact HO_5.out))) (below_size (by repeat (first | (with_reducible first | exact HB.out | apply below_alloc | apply pw_below_drewN | apply below_drew1 | refine below_set ?_ GE333.out) | exact HB.out)))); have n3_ := Aside0.mk (blk_below (g := gb333) (o := .cells #[.int .i64 a0_0, .int .i64 a0_1, .int .i64 a0_2, .bool a0_3] 44 (0, 0)) (by (with_reducible repeat (first | refine blk_drewN ?_ _ | refine blk_drew ?_ | refine blk_alloc ?_ _)); exact BK333.out) hb); have n4_ := Aside0.mk (below_step (by repeat (first | (with_reducible first | exact HB.out | apply below_alloc | apply pw_below_drewN | apply below_drew1 | refine below_set ?_ GE333.out) | exact HB.out)) hb); clear HO_4; clear HO_5; clear BK333; clear HB; have HO_4 := n0_; have HO_5 := n1_; have HO357 := n2_; have BK333 := n3_; have HB := n4_; clear n0_ n1_ n2_ n3_ n4_; clear hb ho33; obtain ⟨Ao35, co35, eo35⟩ := Kd.R_slice HO_5.out; subst eo35) | ((with_reducible refine gate_builtin (b := .append) (xs := #[.tmp 54, .tmp 55]) rfl ?_); at_builtin; refine Kd.R_append_rows (Kd.int .u8) (w0 := w) w.heap.size rfl (.tmp 54) (.tmp 55) 22 5 (.int .u8 0) 1 rfl Try.underlying22 info5 rfl (by decide) (by omega) v356 y355 x5_3 _ _ _ (fun k_ => some k_ ≠ (u4 : Value).ownBlock ∧ some k_ ≠ (.slice Ao35 x5_3.length co35 : Value).ownBlock) (fun _ => False) rfl rfl ?aO ?aR (fun _ _ h => h) (fun _ h => h.elim) ?aF ?aB ?aS ?aL ?_; (case aR => repeat (first | exact (Kd.R_reads' HO_5.out).2.2 | (with_reducible refine Kd.C_alloc ?_ _) | (with_reducible refine Kd.C_drewN ?_ _) | (with_reducible refine Kd.C_drew ?_))); (case aB => exact (by repeat (first | (with_reducible first | exact HB.out | apply below_alloc | apply pw_below_drewN | apply below_drew1 | refine below_set ?_ GE333.out) | exact HB.out))); (case aF => exact (fun k_ hk => ⟨Kd.fresh' (Kd.R_lt (by (with_reducible repeat (first | apply Kd.R_alloc | apply Kd.R_drewN | apply Kd.R_drew)); exact HO_4.out)) k_ hk, Kd.fresh' (Kd.R_lt (by (with_reducible repeat (first | apply Kd.R_alloc | apply Kd.R_drewN | apply Kd.R_drew)); exact HO_5.out)) k_ hk⟩)); (case aO => exact (by (with_reducible repeat (first | apply Kd.R_alloc | apply Kd.R_drewN | apply Kd.R_drew)); exact Kd.R_mono HO357.out (fun _ hk => ⟨hk.1.2, hk.2⟩))); (case aS => exact (below_size (by repeat (first | (with_reducible first | exact HB.out | apply below_alloc | apply pw_below_drewN | apply below_drew1 | refine below_set ?_ GE333.out) | exact HB.out)))); (case aL => have := LMc31.out; omega); intro v359 w34 ho hb hg hat; rw [← Ny358.out] at ho; have n0_ := Aside0.mk (Kd.R_after (ok := (fun k_ => some k_ ≠ (.slice Ao35 x5_3.length co35 : Value).ownBlock)) (by (with_reducible repeat (first | apply Kd.R_alloc | apply Kd.R_drewN | apply Kd.R_drew)); exact HO_4.out) hg hat); have n1_ := Aside0.mk (Kd.R_after (ok := (fun k_ => some k_ ≠ (u4 : Value).ownBlock)) (by (with_reducible repeat (first | apply Kd.R_alloc | apply Kd.R_drewN | apply Kd.R_drew)); exact HO_5.out) hg hat); have n2_ := Aside0.mk (blk_grown (g := gb333) (o := .cells #[.int .i64 a0_0, .int .i64 a0_1, .int .i64 a0_2, .bool a0_3] 44 (0, 0)) (by (with_reducible repeat (first | refine blk_drewN ?_ _ | refine blk_drew ?_ | refine blk_alloc ?_ _)); exact BK333.out) hg (Kd.R_ne HO357.out BK333.out (by decide))); have n3_ := Aside0.mk (hb); have n4_ := Aside0.mk (ho); clear HO_4; clear HO_5; clear BK333; clear HB; clear HO357; have HO_4 := n0_; have HO_5 := n1_; have BK333 := n2_; have HB := n3_; have HO360 := n4_; clear n0_ n1_ n2_ n3_ n4_; clear ho hb hg hat))
                    go_roundg k3
                    case measure => have := HJ1.out; have := HJ5.out; have := HK3.out; omega
                    case rel => exact ⟨(y358), (x6_3 / 256), (by first | rfl | (simp; done) | (simp [*]; done)), H', ⟨by have := HJ1.out; have := HJ5.out; have := HK3.out; omega⟩, ⟨by (with_reducible repeat (first | apply Kd.R_alloc | apply Kd.R_drewN | apply Kd.R_drew)); exact Kd.R_mono HO_4.out (fun _ hk => hk.2)⟩, ⟨by (with_reducible repeat (first | apply Kd.R_alloc | apply Kd.R_drewN | apply Kd.R_drew)); exact Kd.R_mono HO360.out (fun _ hk => hk.1)⟩, ⟨by (with_reducible repeat (first | refine blk_drewN ?_ _ | refine blk_drew ?_ | refine blk_alloc ?_ _)); exact BK333.out⟩, ⟨by repeat (first | (with_reducible first | exact HB.out | apply below_alloc | apply pw_below_drewN | apply below_drew1 | refine below_set ?_ GE333.out) | exact HB.out)⟩⟩
                  · rw [if_neg c31] at H
                    exact absurd H (by simp)
                · rw [if_neg c30] at H
                  have c30b0 : decide (0 < x6_3) = false := decide_eq_false c30
                  clear c30
                  by_cases c36 : x4_5.length < 140737488355328
                  · rw [if_pos c36] at H
                    have LMc36 := Aside0.mk c36
                    clear c36
                    obtain ⟨y361, hy361⟩ : ∃ y_ : List Int, y_ = (x4_5 ++ [(Go.bits .or .i64 128 (x5_3.length : Int)) % 256]) := ⟨_, rfl⟩
                    replace H : (if y361.length + x5_3.length < 140737488355328 then (some (y361 ++ x5_3)) else (none)) = some r := by first | (rw [hy361]; with_reducible exact H) | (have H2_ := (Option.bind_some _ _).symm.trans H; rw [hy361]; with_reducible exact H2_) | (have H2_ := (Option.bind_some _ _).symm.trans H; with_reducible exact H2_) | with_reducible exact H | (rw [hy361]; exact H) | exact H
                    have Ny361 := Aside0.mk hy361
                    clear hy361
                    by_cases c37 : y361.length + x5_3.length < 140737488355328
                    · rw [if_pos c37] at H
                      have LMc37 := Aside0.mk c37
                      clear c37
                      obtain ⟨y364, hy364⟩ : ∃ y_ : List Int, y_ = (y361 ++ x5_3) := ⟨_, rfl⟩
                      replace H : (some y364) = some r := by first | (rw [hy364]; with_reducible exact H) | (have H2_ := (Option.bind_some _ _).symm.trans H; rw [hy364]; with_reducible exact H2_) | (have H2_ := (Option.bind_some _ _).symm.trans H; with_reducible exact H2_) | with_reducible exact H | (rw [hy364]; exact H) | exact H
                      have Ny364 := Aside0.mk hy364
                      clear hy364
                      obtain rfl := Option.some.inj H
                      obtain ⟨Ao38, co38, eo38⟩ := Kd.R_slice HO_5.out
                      subst eo38
                      go_wp2_with (first | ((with_reducible refine gate_builtin (b := .append) (xs := #[.tmp 57, .tmp 62]) rfl ?_); at_builtin; refine Kd.R_append (Kd.int .u8) (w0 := w) w.heap.size rfl (.tmp 57) (.tmp 62) 22 5 (.int .u8 0) 1 rfl Try.underlying22 info5 rfl (by decide) (by omega) u4 x4_5 ((Go.bits .or .i64 128 (x5_3.length : Int)) % 256) [.int .u8 ((Go.bits .or .i64 128 (x5_3.length : Int)) % 256)] (fun k_ => some k_ ≠ (.slice Ao38 x5_3.length co38 : Value).ownBlock) (fun _ => False) rfl rfl ?aP (fun _ hk => hk.elim) ?aF ?aO ?aB ?aS ?aL ?_; (case aP => exact rfl); (case aB => exact (by repeat (first | (with_reducible first | exact HB.out | apply below_alloc | apply pw_below_drewN | apply below_drew1 | refine below_set ?_ GE333.out) | exact HB.out))); (case aF => exact (fun k_ hk => Kd.fresh' (Kd.R_lt (by (with_reducible repeat (first | apply Kd.R_alloc | apply Kd.R_drewN | apply Kd.R_drew)); exact HO_5.out)) k_ hk)); (case aO => exact (by (with_reducible repeat (first | apply Kd.R_alloc | apply Kd.R_drewN | apply Kd.R_drew)); exact HO_4.out)); (case aS => exact (below_size (by repeat (first | (with_reducible first | exact HB.out | apply below_alloc | apply pw_below_drewN | apply below_drew1 | refine below_set ?_ GE333.out) | exact HB.out)))); (case aL => have := LMc36.out; omega); intro v362 w39 ho hb hg hat; rw [← Ny361.out] at ho; have n0_ := Aside0.mk (Kd.R_after (ok := (fun _ => True)) (by (with_reducible repeat (first | apply Kd.R_alloc | apply Kd.R_drewN | apply Kd.R_drew)); exact Kd.R_mono HO_5.out (fun _ hk => ⟨trivial, hk⟩)) hg hat); have n1_ := Aside0.mk (blk_grown (g := gb333) (o := .cells #[.int .i64 a0_0, .int .i64 a0_1, .int .i64 a0_2, .bool a0_3] 44 (0, 0)) (by (with_reducible repeat (first | refine blk_drewN ?_ _ | refine blk_drew ?_ | refine blk_alloc ?_ _)); exact BK333.out) hg (Kd.R_ne HO_4.out BK333.out (by decide))); have n2_ := Aside0.mk (hb); have n3_ := Aside0.mk (ho); clear HO_5; clear BK333; clear HB; clear HO_4; have HO_5 := n0_; have BK333 := n1_; have HB := n2_; have HO363 := n3_; clear n0_ n1_ n2_ n3_; clear ho hb hg hat) | ((with_reducible refine gate_builtin (b := .append) (xs := #[.tmp 63, .tmp 64]) rfl ?_); at_builtin; refine Kd.R_append_rows (Kd.int .u8) (w0 := w) w.heap.size rfl (.tmp 63) (.tmp 64) 22 5 (.int .u8 0) 1 rfl Try.underlying22 info5 rfl (by decide) (by omega) v362 y361 x5_3 _ _ _ (fun k_ => some k_ ≠ (.slice Ao38 x5_3.length co38 : Value).ownBlock) (fun _ => False) rfl rfl ?aO ?aR (fun _ _ h => h) (fun _ h => h.elim) ?aF ?aB ?aS ?aL ?_; (case aR => repeat (first | exact (Kd.R_reads' HO_5.out).2.2 | (with_reducible refine Kd.C_alloc ?_ _) | (with_reducible refine Kd.C_drewN ?_ _) | (with_reducible refine Kd.C_drew ?_))); (case aB => exact (by repeat (first | (with_reducible first | exact HB.out | apply below_alloc | apply pw_below_drewN | apply below_drew1 | refine below_set ?_ GE333.out) | exact HB.out))); (case aF => exact (fun k_ hk => Kd.fresh' (Kd.R_lt (by (with_reducible repeat (first | apply Kd.R_alloc | apply Kd.R_drewN | apply Kd.R_drew)); exact HO_5.out)) k_ hk)); (case aO => exact (by (with_reducible repeat (first | apply Kd.R_alloc | apply Kd.R_drewN | apply Kd.R_drew)); exact HO363.out)); (case aS => exact (below_size (by repeat (first | (with_reducible first | exact HB.out | apply below_alloc | apply pw_below_drewN | apply below_drew1 | refine below_set ?_ GE333.out) | exact HB.out)))); (case aL => have := LMc37.out; omega); intro v365 w40 ho hb hg hat; rw [← Ny364.out] at ho; have n0_ := Aside0.mk (Kd.R_after (ok := (fun _ => True)) (by (with_reducible repeat (first | apply Kd.R_alloc | apply Kd.R_drewN | apply Kd.R_drew)); exact HO_5.out) hg hat); have n1_ := Aside0.mk (blk_grown (g := gb333) (o := .cells #[.int .i64 a0_0, .int .i64 a0_1, .int .i64 a0_2, .bool a0_3] 44 (0, 0)) (by (with_reducible repeat (first | refine blk_drewN ?_ _ | refine blk_drew ?_ | refine blk_alloc ?_ _)); exact BK333.out) hg (Kd.R_ne HO363.out BK333.out (by decide))); have n2_ := Aside0.mk (hb); have n3_ := Aside0.mk (ho); clear HO_5; clear BK333; clear HB; clear HO363; have HO_5 := n0_; have BK333 := n1_; have HB := n2_; have HO366 := n3_; clear n0_ n1_ n2_ n3_; clear ho hb hg hat))
                      go_ret
                      exact ⟨_, by first | rfl | (simp [errW_none, errW_some] <;> rfl) | (simp [*, errW_none, errW_some] <;> rfl), by (with_reducible repeat (first | apply Kd.R_alloc | apply Kd.R_drewN | apply Kd.R_drew)); exact Kd.R_mono HO366.out (fun _ hk => trivial), by repeat (first | (with_reducible first | exact HB.out | apply below_alloc | apply pw_below_drewN | apply below_drew1 | refine below_set ?_ GE333.out) | exact HB.out)⟩
                    · rw [if_neg c37] at H
                      exact absurd H (by simp)
                  · rw [if_neg c36] at H
                    exact absurd H (by simp)

end Go.Proofs.Ytapnkngcnlomhaa.QA
