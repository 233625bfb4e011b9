-- Written by a program of this work (wip/patch_print.py) for this claim.
import Derived.Test.YtmiemfgcggkbnaaQP2x0
import Derived.Test.YtmiemfgcggkbnaaQP2x8
namespace Go.Proofs.Ytmiemfgcggkbnaa.QP2
open Go.RowKit Go.Proofs.YtmiemfgcggkbnaaW.PrintWords Go.Proofs.YtmiemfgcggkbnaaW.PrintLast Go.Proofs.YtmiemfgcggkbnaaW.PrintMore
attribute [local go_sem] max2_int min2_int max_two min_two max_three min_three max_four min_four   -- for this text's walks alone
set_option linter.unusedVariables false
set_option linter.unusedSimpArgs false

/-! ### spec_Clock_behind: function 62 -/
def spec_Clock_behind.l0 : Nat → List Int → List Int → Int → Int → Int → Int → Int → Int → Int → Int → Int → Int → Option (List Int)
  | 0, _, _, _, _, _, _, _, _, _, _, _, _ => none
  | k + 1, x1, x17, x18, x19, x188000, x188001, x188002, x188003, x188004, x188005, x188006, x188007 => if x19 < x18 then (if 0 ≤ x19 then (if x19 < (x17.length : Int) then ((spec_two.f x1 (rd x17 x19)).bind fun t192 => (spec_Clock_behind.l0 k t192 x17 x18 (wrap64 (x19 + 1)) x188000 x188001 x188002 x188003 x188004 x188005 x188006 x188007)) else (none)) else (none)) else (if x188007 = 0 then (if x1.length < 140737488355328 then (some (x1 ++ [90])) else (none)) else (if x188007 < 0 then (if x1.length < 140737488355328 then ((spec_two.f (x1 ++ [45]) (wrap64 (Int.tdiv (wrap64 (-x188007)) 60))).bind fun t201 => ((spec_two.f t201 (Int.tmod (wrap64 (-x188007)) 60)).bind fun t204 => (some t204))) else (none)) else (if x1.length < 140737488355328 then ((spec_two.f (x1 ++ [43]) (wrap64 (Int.tdiv x188007 60))).bind fun t210 => ((spec_two.f t210 (Int.tmod x188007 60)).bind fun t213 => (some t213))) else (none))))
def spec_Clock_behind.f (k : Nat) (a0_0 : Int) (a0_1 : Int) (a0_2 : Int) (a0_3 : Int) (a0_4 : Int) (a0_5 : Int) (a0_6 : Int) (a0_7 : Int) (l1 : List Int) : Option (List Int) := (some (([a0_1, a0_2, a0_3, a0_4, a0_5] : List Int) : List Int)).bind fun y188 => (spec_Clock_behind.l0 k l1 y188 (y188.length : Int) 0 a0_0 a0_1 a0_2 a0_3 a0_4 a0_5 a0_6 a0_7)
theorem spec_Clock_behind.mono_l : ∀ k, (∀ y0 y1 y2 y3 y4 y5 y6 y7 y8 y9 y10 y11, LeO (spec_Clock_behind.l0 k y0 y1 y2 y3 y4 y5 y6 y7 y8 y9 y10 y11) (spec_Clock_behind.l0 (k + 1) y0 y1 y2 y3 y4 y5 y6 y7 y8 y9 y10 y11))
  | 0 => fun _ _ _ _ _ _ _ _ _ _ _ _ r h => by simp [spec_Clock_behind.l0] at h
  | k + 1 => by
    have ih0 := spec_Clock_behind.mono_l k
    · intro y0 y1 y2 y3 y4 y5 y6 y7 y8 y9 y10 y11
      unfold spec_Clock_behind.l0
      repeat' first
      | (with_reducible exact ih0 _ _ _ _ _ _ _ _ _ _ _ _)
      | (with_reducible exact LeO.refl _)
      | (with_reducible exact LeO.none _)
      | (with_reducible refine LeO.ite ?_ ?_)
      | (with_reducible refine LeO.bind ?_ (fun _ => ?_))
      | exact ih0 _ _ _ _ _ _ _ _ _ _ _ _
      | exact LeO.none _
      | refine LeO.ite ?_ ?_
      | refine LeO.bind ?_ (fun _ => ?_)
theorem spec_Clock_behind.mono : ∀ a0 a1 a2 a3 a4 a5 a6 a7 a8 k, LeO (spec_Clock_behind.f k a0 a1 a2 a3 a4 a5 a6 a7 a8) (spec_Clock_behind.f (k + 1) a0 a1 a2 a3 a4 a5 a6 a7 a8) := by
  intro a0 a1 a2 a3 a4 a5 a6 a7 a8 k
  have ih0 := spec_Clock_behind.mono_l k
  unfold spec_Clock_behind.f
  repeat' first
      | (with_reducible exact ih0 _ _ _ _ _ _ _ _ _ _ _ _)
      | (with_reducible exact LeO.refl _)
      | (with_reducible exact LeO.none _)
      | (with_reducible refine LeO.ite ?_ ?_)
      | (with_reducible refine LeO.bind ?_ (fun _ => ?_))
      | exact ih0 _ _ _ _ _ _ _ _ _ _ _ _
      | exact LeO.none _
      | refine LeO.ite ?_ ?_
      | refine LeO.bind ?_ (fun _ => ?_)
def spec_Clock_behind.T9 : Bool × List (List Nat × List Nat) := (true, [([], []), ([], []), ([0, 1], [0, 1]), ([], []), ([3], [3]), ([4], [4]), ([5], [5]), ([2, 6, 2], [2, 6]), ([], []), ([8], [8]), ([9], [9]), ([10], [10]), ([7, 11, 7], [7, 11]), ([12, 12, 0, 1, 2, 3, 4, 5, 6, 7, 8, 9, 10, 11, 12], [12])])
def spec_Clock_behind.B9 : List Nat := [0, 0, 3, 0, 8, 24, 56, 127, 0, 256, 768, 1792, 4095, 8191]
theorem spec_Clock_behind.tab9 : rtab .any (opsOf Try.f62 9) = spec_Clock_behind.T9 := by kernel_rfl
theorem spec_Clock_behind.bits9 : waitsOk spec_Clock_behind.T9.2 spec_Clock_behind.B9 = true := by kernel_rfl
def spec_Clock_behind.T10 : Bool × List (List Nat × List Nat) := (true, [([], []), ([], []), ([0, 1], [0, 1]), ([], []), ([3], [3]), ([4], [4]), ([2, 5, 2], [2, 5]), ([], []), ([7], [7]), ([8], [8]), ([6, 9, 6], [6, 9]), ([10, 10, 0, 1, 2, 3, 4, 5, 6, 7, 8, 9, 10], [10])])
def spec_Clock_behind.B10 : List Nat := [0, 0, 3, 0, 8, 24, 63, 0, 128, 384, 1023, 2047]
theorem spec_Clock_behind.tab10 : rtab .any (opsOf Try.f62 10) = spec_Clock_behind.T10 := by kernel_rfl
theorem spec_Clock_behind.bits10 : waitsOk spec_Clock_behind.T10.2 spec_Clock_behind.B10 = true := by kernel_rfl
set_option maxHeartbeats 8000000 in
set_option maxRecDepth 100000 in
theorem spec_Clock_behind.calls (k : Nat) (a0_0 : Int) (a0_1 : Int) (a0_2 : Int) (a0_3 : Int) (a0_4 : Int) (a0_5 : Int) (a0_6 : Int) (a0_7 : Int) (P1_ : Nat → Prop) (u9000_ : Value) (l1 : List Int) (r : List Int) (w0 w : World) (hB : Below w0.heap.size w0 w) (ho1 : Kd.R (Kd.int .u8) 5 w w0.heap.size P1_ u9000_ l1) (h : spec_Clock_behind.f k a0_0 a0_1 a0_2 a0_3 a0_4 a0_5 a0_6 a0_7 l1 = some r) :
    Calls Try.prog 62 #[.agg #[.int .i64 a0_0, .int .i64 a0_1, .int .i64 a0_2, .int .i64 a0_3, .int .i64 a0_4, .int .i64 a0_5, .int .i64 a0_6, .int .i64 a0_7], u9000_] w fun e w' => ∃ v0_ : Value, e = .returned (v0_) ∧ Kd.R (Kd.int .u8) 5 w' w0.heap.size (fun k_ => (P1_ k_ ∨ w.heap.size ≤ k_)) v0_ r ∧ Below w0.heap.size w0 w' ∧ Kept w w' (fun k_ => P1_ k_) := by
  have hu44 := Try.underlying44
  have HO1 := Aside0.mk (show Kd.R (Kd.int .u8) 5 w w0.heap.size (fun k_ => (P1_ k_ ∨ w.heap.size ≤ k_)) u9000_ l1 from Kd.R_mono ho1 (fun k_ hk => (.inl hk)))
  have HK := Aside0.mk (Kept.refl w (fun k_ => P1_ k_))
  have HW0 := Aside0.mk hB.size
  have HB := Aside0.mk hB
  clear hB
  have H : ((some (([a0_1, a0_2, a0_3, a0_4, a0_5] : List Int) : List Int)).bind fun y188 => (spec_Clock_behind.l0 k l1 y188 (y188.length : Int) 0 a0_0 a0_1 a0_2 a0_3 a0_4 a0_5 a0_6 a0_7)) = some r := h
  clear h
  obtain ⟨y188, hy188⟩ : ∃ y_ : List Int, y_ = (([a0_1, a0_2, a0_3, a0_4, a0_5] : List Int)) := ⟨_, rfl⟩
  replace H : (spec_Clock_behind.l0 k l1 y188 (y188.length : Int) 0 a0_0 a0_1 a0_2 a0_3 a0_4 a0_5 a0_6 a0_7) = some r := by first | (rw [hy188]; with_reducible exact H) | (have H2_ := (Option.bind_some _ _).symm.trans H; rw [hy188]; with_reducible exact H2_) | (have H2_ := (Option.bind_some _ _).symm.trans H; with_reducible exact H2_) | with_reducible exact H | (rw [hy188]; exact H) | exact H
  have Ny188 := Aside0.mk hy188
  clear hy188
  have H' := Aside0.mk H
  clear H
  go_enter Try.func62, Try.ntmps62
  go_wp2_with (first | ((with_reducible refine gate_dst (N := 2) rfl ?_); refine box_event ?hg (N := 2) ?hd (cs := #[.int .i64 a0_0, .int .i64 a0_1, .int .i64 a0_2, .int .i64 a0_3, .int .i64 a0_4, .int .i64 a0_5, .int .i64 a0_6, .int .i64 a0_7]) (t := 44) ?hr ?_; (case hd => rfl); (case hg => rfl); (case hr => first | (go_simp; done) | (go_simp; rfl)); intro gb187 hg w3 hbox hb; have n0_ := Aside0.mk (Kd.R_below (by (with_reducible repeat (first | apply Kd.R_alloc | apply Kd.R_drewN | apply Kd.R_drew)); exact HO1.out) hb); have n1_ := Aside0.mk (Kept.below (S := (fun k_ => P1_ k_)) (by repeat (first | (with_reducible first | exact HK.out | apply Kept.alloc | apply Kept.drewN | apply Kept.drew) | exact HK.out)) hb); have n2_ := Aside0.mk (below_step (by repeat (first | (with_reducible first | exact HB.out | apply below_alloc | apply pw_below_drewN | apply below_drew1) | exact HB.out)) hb); have n3_ := Aside0.mk (hbox); have n4_ := Aside0.mk ((by rw [hg]; exact (by first | exact HK.out.1 | exact (show Kept w _ (fun k_ => P1_ k_) from by repeat (first | (with_reducible first | exact HK.out | apply Kept.alloc | apply Kept.drewN | apply Kept.drew) | exact HK.out)).1) : w.heap.size ≤ gb187)); have n5_ := Aside0.mk ((by rw [hg]; exact (below_size (by repeat (first | (with_reducible first | exact HB.out | apply below_alloc | apply pw_below_drewN | apply below_drew1) | exact HB.out))) : w0.heap.size ≤ gb187)); clear HO1; clear HK; clear HB; have HO1 := n0_; have HK := n1_; have HB := n2_; have BK187 := n3_; have GW187 := n4_; have GE187 := n5_; clear n0_ n1_ n2_ n3_ n4_ n5_; clear hb hbox hg; have hcz4_0 : w3.cell? ⟨gb187, 0, none⟩ = some (.int .i64 a0_0) := (blk_cell BK187.out 0).trans rfl; have hcz4_1 : w3.cell? ⟨gb187, 1, none⟩ = some (.int .i64 a0_1) := (blk_cell BK187.out 1).trans rfl; have hcz4_2 : w3.cell? ⟨gb187, 2, none⟩ = some (.int .i64 a0_2) := (blk_cell BK187.out 2).trans rfl; have hcz4_3 : w3.cell? ⟨gb187, 3, none⟩ = some (.int .i64 a0_3) := (blk_cell BK187.out 3).trans rfl; have hcz4_4 : w3.cell? ⟨gb187, 4, none⟩ = some (.int .i64 a0_4) := (blk_cell BK187.out 4).trans rfl; have hcz4_5 : w3.cell? ⟨gb187, 5, none⟩ = some (.int .i64 a0_5) := (blk_cell BK187.out 5).trans rfl; have hcz4_6 : w3.cell? ⟨gb187, 6, none⟩ = some (.int .i64 a0_6) := (blk_cell BK187.out 6).trans rfl; have hcz4_7 : w3.cell? ⟨gb187, 7, none⟩ = some (.int .i64 a0_7) := (blk_cell BK187.out 7).trans rfl; have hfz4_0 := blk_frozen BK187.out 0; have hfz4_1 := blk_frozen BK187.out 1; have hfz4_2 := blk_frozen BK187.out 2; have hfz4_3 := blk_frozen BK187.out 3; have hfz4_4 := blk_frozen BK187.out 4; have hfz4_5 := blk_frozen BK187.out 5; have hfz4_6 := blk_frozen BK187.out 6; have hfz4_7 := blk_frozen BK187.out 7) | ((with_reducible refine gate_dst (N := 17) rfl ?_); refine Kd.R_lit (Kd.int .i64) _ 3 ?hg (N := 17) ?hd (xs := ([a0_1, a0_2, a0_3, a0_4, a0_5] : List Int)) (inner := [.int .i64 a0_1, .int .i64 a0_2, .int .i64 a0_3, .int .i64 a0_4, .int .i64 a0_5]) (ok := fun _ => True) (okp := fun _ => True) ?hr ?hp (fun _ hk => hk) trivial (Below.refl _ _) (Nat.le_refl _) (by simp) ?_; (case hd => rfl); (case hg => rfl); (case hr => first | (go_simp; done) | (go_simp; rfl)); (case hp => exact (Reps.one (show Kd.M (Kd.int .i64) _ _ _ a0_1 [.int .i64 a0_1] from rfl) (Reps.one (show Kd.M (Kd.int .i64) _ _ _ a0_2 [.int .i64 a0_2] from rfl) (Reps.one (show Kd.M (Kd.int .i64) _ _ _ a0_3 [.int .i64 a0_3] from rfl) (Reps.one (show Kd.M (Kd.int .i64) _ _ _ a0_4 [.int .i64 a0_4] from rfl) (Reps.one (show Kd.M (Kd.int .i64) _ _ _ a0_5 [.int .i64 a0_5] from rfl) (Reps.none _ _))))))); intro v189 w5 ho6 hb hg_ hnew_; clear hg_ hnew_; (first | rw [← Ny188.out] at ho6 | (simp only [Int.reduceToNat] at ho6; rw [← Ny188.out] at ho6)); have n0_ := Aside0.mk (Kd.R_below (by (with_reducible repeat (first | apply Kd.R_alloc | apply Kd.R_drewN | apply Kd.R_drew)); exact HO1.out) hb); have n1_ := Aside0.mk (Kd.R_lower (Kd.R_newM (M := fun k_ => (P1_ k_ ∨ w.heap.size ≤ k_)) ho6 (by first | exact HK.out.1 | exact (show Kept w _ (fun k_ => P1_ k_) from by repeat (first | (with_reducible first | exact HK.out | apply Kept.alloc | apply Kept.drewN | apply Kept.drew | refine Kept.setCell ?_ (.inr GW187.out) _) | exact HK.out)).1) (fun k_ h_ => .inr h_)) (below_size (by repeat (first | (with_reducible first | exact HB.out | apply below_alloc | apply pw_below_drewN | apply below_drew1 | refine below_set ?_ GE187.out) | exact HB.out)))); have n2_ := Aside0.mk (blk_below (g := gb187) (o := .cells #[.int .i64 a0_0, .int .i64 a0_1, .int .i64 a0_2, .int .i64 a0_3, .int .i64 a0_4, .int .i64 a0_5, .int .i64 a0_6, .int .i64 a0_7] 44 (0, 0)) (by (with_reducible repeat (first | refine blk_drewN ?_ _ | refine blk_drew ?_ | refine blk_alloc ?_ _)); exact BK187.out) hb); have n3_ := Aside0.mk (Kept.below (S := (fun k_ => P1_ k_)) (by repeat (first | (with_reducible first | exact HK.out | apply Kept.alloc | apply Kept.drewN | apply Kept.drew | refine Kept.setCell ?_ (.inr GW187.out) _) | exact HK.out)) hb); have n4_ := Aside0.mk (below_step (by repeat (first | (with_reducible first | exact HB.out | apply below_alloc | apply pw_below_drewN | apply below_drew1 | refine below_set ?_ GE187.out) | exact HB.out)) hb); clear HO1; clear BK187; clear HK; clear HB; have HO1 := n0_; have HO190 := n1_; have BK187 := n2_; have HK := n3_; have HB := n4_; clear n0_ n1_ n2_ n3_ n4_; clear hb ho6; obtain ⟨Ao7, co7, eo7⟩ := Kd.R_slice HO190.out; subst eo7))
  go_loopg [1, 19] k (fun kq v1 v19 w' => ∃ (x1_1 : List Int) (x19_1 : Int), v19 = .int .i64 x19_1 ∧ Aside0 (spec_Clock_behind.l0 kq x1_1 y188 (y188.length : Int) x19_1 a0_0 a0_1 a0_2 a0_3 a0_4 a0_5 a0_6 a0_7 = some r) ∧ Aside0 (kq ≤ k) ∧ Aside0 (Kd.R (Kd.int .u8) 5 w' w0.heap.size (fun k_ => (P1_ k_ ∨ w.heap.size ≤ k_)) v1 x1_1) ∧ Aside0 (Kd.R (Kd.int .i64) 3 w' w0.heap.size (fun k_ => (P1_ k_ ∨ w.heap.size ≤ k_)) (.slice Ao7 y188.length co7) y188) ∧ Aside0 (w'.heap[gb187]? = some (.cells #[.int .i64 a0_0, .int .i64 a0_1, .int .i64 a0_2, .int .i64 a0_3, .int .i64 a0_4, .int .i64 a0_5, .int .i64 a0_6, .int .i64 a0_7] 44 (0, 0))) ∧ Aside0 (Kept w w' (fun k_ => P1_ k_)) ∧ Aside0 (Below w0.heap.size w0 w'))
  case atStart => exact ⟨(l1), (0), (by first | rfl | (simp; done) | (simp [*]; done)), H', ⟨Nat.le_refl _⟩, ⟨by (with_reducible repeat (first | apply Kd.R_alloc | apply Kd.R_drewN | apply Kd.R_drew)); exact HO1.out⟩, ⟨by (with_reducible repeat (first | apply Kd.R_alloc | apply Kd.R_drewN | apply Kd.R_drew)); exact Kd.R_mono HO190.out (fun _ hk => hk.1)⟩, ⟨by (with_reducible repeat (first | refine blk_drewN ?_ _ | refine blk_drew ?_ | refine blk_alloc ?_ _)); exact BK187.out⟩, ⟨by repeat (first | (with_reducible first | exact HK.out | apply Kept.alloc | apply Kept.drewN | apply Kept.drew | refine Kept.setCell ?_ (.inr GW187.out) _) | exact HK.out)⟩, ⟨by repeat (first | (with_reducible first | exact HB.out | apply below_alloc | apply pw_below_drewN | apply below_drew1 | refine below_set ?_ GE187.out) | exact HB.out)⟩⟩
  case round =>
    clear H'
    try clear p2
    try clear c6
    try clear hcz4_0
    try clear hcz4_1
    try clear hcz4_2
    try clear hcz4_3
    try clear hcz4_4
    try clear hcz4_5
    try clear hcz4_6
    try clear hcz4_7
    try clear hfz4_0
    try clear hfz4_1
    try clear hfz4_2
    try clear hfz4_3
    try clear hfz4_4
    try clear hfz4_5
    try clear hfz4_6
    try clear hfz4_7
    obtain ⟨x1_1, x19_1, rfl, HA, HK1, HO_1, HO_17, BK187, HK, HB⟩ := hrel
    cases gk with
    | zero => exact absurd HA.out (by simp [spec_Clock_behind.l0])
    | succ k1 =>
      have H := HA.out
      clear HA
      simp only [spec_Clock_behind.l0] at H
      by_cases c8 : x19_1 < (y188.length : Int)
      · rw [if_pos c8] at H
        have c8b0 : decide (x19_1 < (y188.length : Int)) = true := decide_eq_true c8
        clear c8
        by_cases c9 : 0 ≤ x19_1
        · rw [if_pos c9] at H
          have c9b0 : decide (0 ≤ x19_1) = true := decide_eq_true c9
          clear c9
          by_cases c10 : x19_1 < (y188.length : Int)
          · rw [if_pos c10] at H
            have c10b0 : decide (x19_1 < (y188.length : Int)) = true := decide_eq_true c10
            clear c10
            replace H := Option.bind_eq_some_iff.mp H
            obtain ⟨t192, A110, H⟩ := H
            replace H : (spec_Clock_behind.l0 k1 t192 y188 (y188.length : Int) (wrap64 (x19_1 + 1)) a0_0 a0_1 a0_2 a0_3 a0_4 a0_5 a0_6 a0_7) = some r := H
            have A11 := Aside0.mk A110
            clear A110
            have H' := Aside0.mk H
            clear H
            have p191 : 0 ≤ (x19_1 : Int) := of_decide_eq_true (by first | (with_reducible assumption) | assumption)
            have q191 : x19_1 < (y188.length : Int) := of_decide_eq_true (by first | (with_reducible assumption) | assumption)
            obtain ⟨ad191, e191, hx191_0⟩ := Kd.at_int (Kd.R_reads' HO_17.out).2.2 x19_1 p191 q191
            cases e191
            replace p191 := eq_true p191
            replace q191 := eq_true q191
            obtain ⟨Ao12, co12, eo12⟩ := Kd.R_slice HO_1.out
            subst eo12
            go_wp2_with (first | ((with_reducible refine gate_callee (f := 63) rfl ?_); refine goesL_ (some 25) rfl rfl Try.func63 (by kernel_rfl) rfl #[.slice Ao12 x1_1.length co12, .int .i64 (rd y188 x19_1)] rfl (by (try simp only [List.map_toArray, List.map_cons, List.map_nil]); first | done | rfl | (simp only [List.length_drop, List.length_take]; rfl)) ?_; (with_reducible refine (spec_two.calls (fun k_ => some k_ = (.slice Ao12 x1_1.length co12 : Value).ownBlock) (.slice Ao12 x1_1.length co12) x1_1 (rd y188 x19_1) t192 w0 _ ?side1 ?side2 A11.out).mono ?_); (case side1 => repeat (first | (with_reducible first | exact HB.out | apply below_alloc | apply pw_below_drewN | apply below_drew1 | refine below_set ?_ GE187.out) | exact HB.out)); (case side2 => exact Kd.R_tight rfl HO_1.out); rintro e w13 ⟨v193, rfl, ho0, hb, hkp⟩; refine ⟨_, rfl, ?_⟩; have n0_ := Aside0.mk (Kd.R_mono (ok' := fun k_ => (P1_ k_ ∨ w.heap.size ≤ k_)) (Kd.R_keptB ((Kd.R_apart' HO_17.out (Kd.R_typed HO_1.out) (by decide))) hkp (fun k_ hk_ hs_ => (hk_.2) hs_)) (fun k_ hk_ => hk_.1.1)); have n1_ := Aside0.mk (blk_kept (by (with_reducible repeat (first | refine blk_drewN ?_ _ | refine blk_drew ?_ | refine blk_alloc ?_ _)); exact BK187.out) hkp (fun hs_ => (fun e_ => (Kd.R_ne HO_1.out BK187.out (by decide)) e_) hs_)); have n2_ := Aside0.mk (Kd.R_mono (ok' := fun k_ => (P1_ k_ ∨ w.heap.size ≤ k_)) ho0 (fun k_ hk_ => Or.elim hk_ (fun hs_ => (HO_1.out.1 k_ (hs_).symm)) (fun hn_ => (.inr (Nat.le_trans (by first | exact HK.out.1 | exact (show Kept w _ (fun k_ => P1_ k_) from by repeat (first | (with_reducible first | exact HK.out | apply Kept.alloc | apply Kept.drewN | apply Kept.drew | refine Kept.setCell ?_ (.inr GW187.out) _) | exact HK.out)).1) hn_))))); have n3_ := Aside0.mk (Kept.then_ (S := (fun k_ => P1_ k_)) (by repeat (first | (with_reducible first | exact HK.out | apply Kept.alloc | apply Kept.drewN | apply Kept.drew | refine Kept.setCell ?_ (.inr GW187.out) _) | exact HK.out)) hkp (fun k_ hs_ => (fun e_ => (HO_1.out.1 k_ e_.symm)) hs_)); have n4_ := Aside0.mk (hb); clear HO_17; clear BK187; clear HK; clear HB; clear HO_1; have HO_17 := n0_; have BK187 := n1_; have HO194 := n2_; have HK := n3_; have HB := n4_; clear n0_ n1_ n2_ n3_ n4_; (try clear hb); (try clear hkp); (try clear ho0)))
            go_roundg k1
            case measure => have := HK1.out; omega
            case rel => exact ⟨(t192), (wrap64 (x19_1 + 1)), (by first | rfl | (simp; done) | (simp [*]; done)), H', ⟨by have := HK1.out; omega⟩, ⟨by (with_reducible repeat (first | apply Kd.R_alloc | apply Kd.R_drewN | apply Kd.R_drew)); exact HO194.out⟩, ⟨by (with_reducible repeat (first | apply Kd.R_alloc | apply Kd.R_drewN | apply Kd.R_drew)); exact HO_17.out⟩, ⟨by (with_reducible repeat (first | refine blk_drewN ?_ _ | refine blk_drew ?_ | refine blk_alloc ?_ _)); exact BK187.out⟩, ⟨by repeat (first | (with_reducible first | exact HK.out | apply Kept.alloc | apply Kept.drewN | apply Kept.drew | refine Kept.setCell ?_ (.inr GW187.out) _) | exact HK.out)⟩, ⟨by repeat (first | (with_reducible first | exact HB.out | apply below_alloc | apply pw_below_drewN | apply below_drew1 | refine below_set ?_ GE187.out) | exact HB.out)⟩⟩
          · rw [if_neg c10] at H
            exact absurd H (by simp)
        · rw [if_neg c9] at H
          exact absurd H (by simp)
      · rw [if_neg c8] at H
        have c8b0 : decide (x19_1 < (y188.length : Int)) = false := decide_eq_false c8
        clear c8
        by_cases c14 : a0_7 = 0
        · rw [if_pos c14] at H
          have c14b0 : (a0_7 == 0) = true := beq_iff_eq.mpr c14
          have c14b1 : (a0_7 != 0) = false := bne_eq_false_iff_eq.mpr c14
          clear c14
          by_cases c15 : x1_1.length < 140737488355328
          · rw [if_pos c15] at H
            have LMc15 := Aside0.mk c15
            clear c15
            obtain ⟨y195, hy195⟩ : ∃ y_ : List Int, y_ = (x1_1 ++ [90]) := ⟨_, rfl⟩
            replace H : (some y195) = some r := by first | (rw [hy195]; with_reducible exact H) | (have H2_ := (Option.bind_some _ _).symm.trans H; rw [hy195]; with_reducible exact H2_) | (have H2_ := (Option.bind_some _ _).symm.trans H; with_reducible exact H2_) | with_reducible exact H | (rw [hy195]; exact H) | exact H
            have Ny195 := Aside0.mk hy195
            clear hy195
            obtain rfl := Option.some.inj H
            have hcz16_0 : wr.cell? ⟨gb187, 0, none⟩ = some (.int .i64 a0_0) := (blk_cell BK187.out 0).trans rfl
            have hcz16_1 : wr.cell? ⟨gb187, 1, none⟩ = some (.int .i64 a0_1) := (blk_cell BK187.out 1).trans rfl
            have hcz16_2 : wr.cell? ⟨gb187, 2, none⟩ = some (.int .i64 a0_2) := (blk_cell BK187.out 2).trans rfl
            have hcz16_3 : wr.cell? ⟨gb187, 3, none⟩ = some (.int .i64 a0_3) := (blk_cell BK187.out 3).trans rfl
            have hcz16_4 : wr.cell? ⟨gb187, 4, none⟩ = some (.int .i64 a0_4) := (blk_cell BK187.out 4).trans rfl
            have hcz16_5 : wr.cell? ⟨gb187, 5, none⟩ = some (.int .i64 a0_5) := (blk_cell BK187.out 5).trans rfl
            have hcz16_6 : wr.cell? ⟨gb187, 6, none⟩ = some (.int .i64 a0_6) := (blk_cell BK187.out 6).trans rfl
            have hcz16_7 : wr.cell? ⟨gb187, 7, none⟩ = some (.int .i64 a0_7) := (blk_cell BK187.out 7).trans rfl
            have hfz16_0 := blk_frozen BK187.out 0
            have hfz16_1 := blk_frozen BK187.out 1
            have hfz16_2 := blk_frozen BK187.out 2
            have hfz16_3 := blk_frozen BK187.out 3
            have hfz16_4 := blk_frozen BK187.out 4
            have hfz16_5 := blk_frozen BK187.out 5
            have hfz16_6 := blk_frozen BK187.out 6
            have hfz16_7 := blk_frozen BK187.out 7
            go_wp2_with (first | ((with_reducible refine gate_builtin (b := .append) (xs := #[.tmp 31, .tmp 32]) rfl ?_); at_builtin; refine Kd.R_append (Kd.int .u8) (w0 := w0) w0.heap.size rfl (.tmp 31) (.tmp 32) 25 5 (.int .u8 0) 1 rfl Try.underlying25 info5 rfl (by decide) (by omega) u1 x1_1 90 [.int .u8 90] (fun k_ => (P1_ k_ ∨ w.heap.size ≤ k_)) (fun _ => False) rfl rfl ?aP (fun _ hk => hk.elim) ?aF ?aO ?aB ?aS ?aL ?_; (case aP => exact rfl); (case aB => exact (by repeat (first | (with_reducible first | exact HB.out | apply below_alloc | apply pw_below_drewN | apply below_drew1 | refine below_set ?_ GE187.out) | exact HB.out))); (case aF => exact (fun k_ hk => (.inr (Nat.le_trans (by first | exact HK.out.1 | exact (show Kept w _ (fun k_ => P1_ k_) from by repeat (first | (with_reducible first | exact HK.out | apply Kept.alloc | apply Kept.drewN | apply Kept.drew | refine Kept.setCell ?_ (.inr GW187.out) _) | exact HK.out)).1) hk)))); (case aO => exact (by (with_reducible repeat (first | apply Kd.R_alloc | apply Kd.R_drewN | apply Kd.R_drew)); exact HO_1.out)); (case aS => exact (below_size (by repeat (first | (with_reducible first | exact HB.out | apply below_alloc | apply pw_below_drewN | apply below_drew1 | refine below_set ?_ GE187.out) | exact HB.out)))); (case aL => have := LMc15.out; omega); intro v196 w17 ho hb hg hat; rw [← Ny195.out] at ho; have n0_ := Aside0.mk (Kd.R_over' (by (with_reducible repeat (first | apply Kd.R_alloc | apply Kd.R_drewN | apply Kd.R_drew)); exact HO_17.out) (Kd.R_typed (by (with_reducible repeat (first | apply Kd.R_alloc | apply Kd.R_drewN | apply Kd.R_drew)); exact HO_1.out)) (by decide) hg); have n1_ := Aside0.mk (blk_grown (g := gb187) (o := .cells #[.int .i64 a0_0, .int .i64 a0_1, .int .i64 a0_2, .int .i64 a0_3, .int .i64 a0_4, .int .i64 a0_5, .int .i64 a0_6, .int .i64 a0_7] 44 (0, 0)) (by (with_reducible repeat (first | refine blk_drewN ?_ _ | refine blk_drew ?_ | refine blk_alloc ?_ _)); exact BK187.out) hg (Kd.R_ne HO_1.out BK187.out (by decide))); have n2_ := Aside0.mk (hb); have n3_ := Aside0.mk (Kept.of_grown (S := (fun k_ => P1_ k_)) hg (by repeat (first | (with_reducible first | exact HK.out | apply Kept.alloc | apply Kept.drewN | apply Kept.drew | refine Kept.setCell ?_ (.inr GW187.out) _) | exact HK.out)) (fun k_ e_ => (HO_1.out.1 k_ e_))); have n4_ := Aside0.mk (ho); clear HO_17; clear BK187; clear HB; clear HK; clear HO_1; have HO_17 := n0_; have BK187 := n1_; have HB := n2_; have HK := n3_; have HO197 := n4_; clear n0_ n1_ n2_ n3_ n4_; clear ho hb hg hat))
            go_ret
            exact ⟨_, by first | rfl | (simp [errW_none, errW_some] <;> rfl) | (simp [*, errW_none, errW_some] <;> rfl), by (with_reducible repeat (first | apply Kd.R_alloc | apply Kd.R_drewN | apply Kd.R_drew)); exact HO197.out, by repeat (first | (with_reducible first | exact HB.out | apply below_alloc | apply pw_below_drewN | apply below_drew1 | refine below_set ?_ GE187.out) | exact HB.out), by repeat (first | (with_reducible first | exact HK.out | apply Kept.alloc | apply Kept.drewN | apply Kept.drew | refine Kept.setCell ?_ (.inr GW187.out) _) | exact HK.out)⟩
          · rw [if_neg c15] at H
            exact absurd H (by simp)
        · rw [if_neg c14] at H
          have c14b0 : (a0_7 == 0) = false := beq_eq_false_iff_ne.mpr c14
          have c14b1 : (a0_7 != 0) = true := bne_iff_ne.mpr c14
          by_cases c18 : a0_7 < 0
          · rw [if_pos c18] at H
            have c18b0 : decide (a0_7 < 0) = true := decide_eq_true c18
            clear c18
            by_cases c19 : x1_1.length < 140737488355328
            · rw [if_pos c19] at H
              have LMc19 := Aside0.mk c19
              clear c19
              obtain ⟨y198, hy198⟩ : ∃ y_ : List Int, y_ = (x1_1 ++ [45]) := ⟨_, rfl⟩
              replace H : ((spec_two.f y198 (wrap64 (Int.tdiv (wrap64 (-a0_7)) 60))).bind fun t201 => ((spec_two.f t201 (Int.tmod (wrap64 (-a0_7)) 60)).bind fun t204 => (some t204))) = some r := by first | (rw [hy198]; with_reducible exact H) | (have H2_ := (Option.bind_some _ _).symm.trans H; rw [hy198]; with_reducible exact H2_) | (have H2_ := (Option.bind_some _ _).symm.trans H; with_reducible exact H2_) | with_reducible exact H | (rw [hy198]; exact H) | exact H
              have Ny198 := Aside0.mk hy198
              clear hy198
              replace H := Option.bind_eq_some_iff.mp H
              obtain ⟨t201, A200, H⟩ := H
              replace H : ((spec_two.f t201 (Int.tmod (wrap64 (-a0_7)) 60)).bind fun t204 => (some t204)) = some r := H
              have A20 := Aside0.mk A200
              clear A200
              replace H := Option.bind_eq_some_iff.mp H
              obtain ⟨t204, A210, H⟩ := H
              replace H : (some t204) = some r := H
              have A21 := Aside0.mk A210
              clear A210
              obtain rfl := Option.some.inj H
              have hcz22_0 : wr.cell? ⟨gb187, 0, none⟩ = some (.int .i64 a0_0) := (blk_cell BK187.out 0).trans rfl
              have hcz22_1 : wr.cell? ⟨gb187, 1, none⟩ = some (.int .i64 a0_1) := (blk_cell BK187.out 1).trans rfl
              have hcz22_2 : wr.cell? ⟨gb187, 2, none⟩ = some (.int .i64 a0_2) := (blk_cell BK187.out 2).trans rfl
              have hcz22_3 : wr.cell? ⟨gb187, 3, none⟩ = some (.int .i64 a0_3) := (blk_cell BK187.out 3).trans rfl
              have hcz22_4 : wr.cell? ⟨gb187, 4, none⟩ = some (.int .i64 a0_4) := (blk_cell BK187.out 4).trans rfl
              have hcz22_5 : wr.cell? ⟨gb187, 5, none⟩ = some (.int .i64 a0_5) := (blk_cell BK187.out 5).trans rfl
              have hcz22_6 : wr.cell? ⟨gb187, 6, none⟩ = some (.int .i64 a0_6) := (blk_cell BK187.out 6).trans rfl
              have hcz22_7 : wr.cell? ⟨gb187, 7, none⟩ = some (.int .i64 a0_7) := (blk_cell BK187.out 7).trans rfl
              have hfz22_0 := blk_frozen BK187.out 0
              have hfz22_1 := blk_frozen BK187.out 1
              have hfz22_2 := blk_frozen BK187.out 2
              have hfz22_3 := blk_frozen BK187.out 3
              have hfz22_4 := blk_frozen BK187.out 4
              have hfz22_5 := blk_frozen BK187.out 5
              have hfz22_6 := blk_frozen BK187.out 6
              have hfz22_7 := blk_frozen BK187.out 7
              try go_wp2
              have n0_ := Aside0.mk (Kd.R_drew HO_1.out)
              have n1_ := Aside0.mk (Kd.R_drew HO_17.out)
              have n2_ := Aside0.mk (blk_drew BK187.out)
              have n3_ := Aside0.mk (Kept.drew HK.out)
              have n4_ := Aside0.mk (below_drew1 HB.out)
              clear HO_1
              clear HO_17
              clear BK187
              clear HK
              clear HB
              have HO_1 := n0_
              have HO_17 := n1_
              have BK187 := n2_
              have HK := n3_
              have HB := n4_
              clear n0_ n1_ n2_ n3_ n4_
              refine start_ (n := 14) (S := fun w' => w'.cell? ⟨gb187, 0, none⟩ = some (.int .i64 a0_0) ∧ w'.cell? ⟨gb187, 1, none⟩ = some (.int .i64 a0_1) ∧ w'.cell? ⟨gb187, 2, none⟩ = some (.int .i64 a0_2) ∧ w'.cell? ⟨gb187, 3, none⟩ = some (.int .i64 a0_3) ∧ w'.cell? ⟨gb187, 4, none⟩ = some (.int .i64 a0_4) ∧ w'.cell? ⟨gb187, 5, none⟩ = some (.int .i64 a0_5) ∧ w'.cell? ⟨gb187, 6, none⟩ = some (.int .i64 a0_6) ∧ w'.cell? ⟨gb187, 7, none⟩ = some (.int .i64 a0_7)) (ds := []) #[false, false, false, false, false, false, false, false, false, false, false, false, false, false] (by kernel_rfl) rfl rfl ⟨(blk_cell BK187.out 0).trans rfl, (blk_cell BK187.out 1).trans rfl, (blk_cell BK187.out 2).trans rfl, (blk_cell BK187.out 3).trans rfl, (blk_cell BK187.out 4).trans rfl, (blk_cell BK187.out 5).trans rfl, (blk_cell BK187.out 6).trans rfl, (blk_cell BK187.out 7).trans rfl⟩ (fun hHeld => ?_); refine with_tabW spec_Clock_behind.tab9 spec_Clock_behind.bits9 (fun HT_ HW_ => ?_)
              generalize wr.drew = w23 at HO_1 HO_17 BK187 HK HB hHeld ⊢
              refine pure_ (i := 0) (N := some 38) (v := ?_) (a' := ?_) #[true, false, false, false, false, false, false, false, false, false, false, false, false, false] rfl rfl (any_of HT_.out (by kernel_rfl)) (fun _ _ _ h => h) (Or.inl ⟨by rfl, ?_⟩) ?_ ?_
              rotate_left
              · intro w'
                go_simp
                with_reducible rfl
              rotate_left
              · simp only [Act.put, List.setIfInBounds_toArray, List.set_cons_zero, List.set_cons_succ, i64_w, i32_w]
                rfl
              refine pure_ (i := 3) (N := some 41) (v := ?_) (a' := ?_) #[true, false, false, true, false, false, false, false, false, false, false, false, false, false] rfl rfl (any_of HT_.out (by kernel_rfl)) (fun _ _ _ h => h) (Or.inl ⟨by rfl, ?_⟩) ?_ ?_
              rotate_left
              · intro w'
                go_simp
                with_reducible rfl
              rotate_left
              · simp only [Act.put, List.setIfInBounds_toArray, List.set_cons_zero, List.set_cons_succ, i64_w, i32_w]
                rfl
              refine pure_ (i := 8) (N := some 46) (v := ?_) (a' := ?_) #[true, false, false, true, false, false, false, false, true, false, false, false, false, false] rfl rfl (any_of HT_.out (by kernel_rfl)) (fun _ _ _ h => h) (Or.inl ⟨by rfl, ?_⟩) ?_ ?_
              rotate_left
              · intro w'
                go_simp
                with_reducible rfl
              rotate_left
              · simp only [Act.put, List.setIfInBounds_toArray, List.set_cons_zero, List.set_cons_succ, i64_w, i32_w]
                rfl
              refine take_ (i := 4) (N := some 42) (v := ?_) (a' := ?_) #[true, false, false, true, true, false, false, false, true, false, false, false, false, false] rfl rfl (take_ofW HT_.out HW_.out (by kernel_rfl)) (fun _ _ _ h => h) (Or.inl ⟨by rfl, ?_⟩) hHeld ?_ ?_
              rotate_left
              · rintro w' ⟨s0, s1, s2, s3, s4, s5, s6, s7⟩
                go_simp
                with_reducible rfl
              rotate_left
              · simp only [Act.put, List.setIfInBounds_toArray, List.set_cons_zero, List.set_cons_succ, i64_w, i32_w]
                rfl
              refine pure_ (i := 5) (N := some 43) (v := ?_) (a' := ?_) #[true, false, false, true, true, true, false, false, true, false, false, false, false, false] rfl rfl (any_of HT_.out (by kernel_rfl)) (fun _ _ _ h => h) (Or.inl ⟨by rfl, ?_⟩) ?_ ?_
              rotate_left
              · intro w'
                go_simp
                with_reducible rfl
              rotate_left
              · simp only [Act.put, List.setIfInBounds_toArray, List.set_cons_zero, List.set_cons_succ, i64_w, i32_w]
                rfl
              refine pure_ (i := 6) (N := some 44) (v := ?_) (a' := ?_) #[true, false, false, true, true, true, true, false, true, false, false, false, false, false] rfl rfl (any_of HT_.out (by kernel_rfl)) (fun _ _ _ h => h) (Or.inl ⟨by rfl, ?_⟩) ?_ ?_
              rotate_left
              · intro w'
                go_simp
                with_reducible rfl
              rotate_left
              · simp only [Act.put, List.setIfInBounds_toArray, List.set_cons_zero, List.set_cons_succ, i64_w, i32_w]
                rfl
              refine take_ (i := 9) (N := some 47) (v := ?_) (a' := ?_) #[true, false, false, true, true, true, true, false, true, true, false, false, false, false] rfl rfl (take_ofW HT_.out HW_.out (by kernel_rfl)) (fun _ _ _ h => h) (Or.inl ⟨by rfl, ?_⟩) hHeld ?_ ?_
              rotate_left
              · rintro w' ⟨s0, s1, s2, s3, s4, s5, s6, s7⟩
                go_simp
                with_reducible rfl
              rotate_left
              · simp only [Act.put, List.setIfInBounds_toArray, List.set_cons_zero, List.set_cons_succ, i64_w, i32_w]
                rfl
              refine pure_ (i := 10) (N := some 48) (v := ?_) (a' := ?_) #[true, false, false, true, true, true, true, false, true, true, true, false, false, false] rfl rfl (any_of HT_.out (by kernel_rfl)) (fun _ _ _ h => h) (Or.inl ⟨by rfl, ?_⟩) ?_ ?_
              rotate_left
              · intro w'
                go_simp
                with_reducible rfl
              rotate_left
              · simp only [Act.put, List.setIfInBounds_toArray, List.set_cons_zero, List.set_cons_succ, i64_w, i32_w]
                rfl
              refine pure_ (i := 11) (N := some 49) (v := ?_) (a' := ?_) #[true, false, false, true, true, true, true, false, true, true, true, true, false, false] rfl rfl (any_of HT_.out (by kernel_rfl)) (fun _ _ _ h => h) (Or.inl ⟨by rfl, ?_⟩) ?_ ?_
              rotate_left
              · intro w'
                go_simp
                with_reducible rfl
              rotate_left
              · simp only [Act.put, List.setIfInBounds_toArray, List.set_cons_zero, List.set_cons_succ, i64_w, i32_w]
                rfl
              refine one_ (i := 1) (N := some 39) #[true, true, false, true, true, true, true, false, true, true, true, true, false, false] rfl rfl (one_of HT_.out (by kernel_rfl)) (by decide) (fun K hK => ?_)
              refine value_ (w1 := ?_) (v := ?_) (by rfl) rfl ?_ ?_
              rotate_left 2
              · go_simp
                constructor
                · rfl
                · rfl
              refine hK.out _ _ ⟨(blk_cell (blk_alloc BK187.out _) 0).trans rfl, (blk_cell (blk_alloc BK187.out _) 1).trans rfl, (blk_cell (blk_alloc BK187.out _) 2).trans rfl, (blk_cell (blk_alloc BK187.out _) 3).trans rfl, (blk_cell (blk_alloc BK187.out _) 4).trans rfl, (blk_cell (blk_alloc BK187.out _) 5).trans rfl, (blk_cell (blk_alloc BK187.out _) 6).trans rfl, (blk_cell (blk_alloc BK187.out _) 7).trans rfl⟩ (fun hHeld => ?_)
              clear hK K
              refine norm_ (a' := ?_) ?_ ?_
              rotate_left
              · show Act.put _ (some 39) _ = _
                simp only [Act.put, List.setIfInBounds_toArray, List.set_cons_zero, List.set_cons_succ, i64_w, i32_w]
                rfl
              refine one_ (i := 2) (N := some 40) #[true, true, true, true, true, true, true, false, true, true, true, true, false, false] rfl rfl (one_of HT_.out (by kernel_rfl)) (by decide) (fun K hK => ?_)
              refine Kd.R_append_step (Kd.int .u8) (w0 := w0) w0.heap.size (by rfl) (.tmp 38) (.tmp 39) 25 5 (.int .u8 0) 1 rfl Try.underlying25 info5 rfl (by decide) (by omega) u1 x1_1 45 [.int .u8 45] (fun k_ => (P1_ k_ ∨ w.heap.size ≤ k_)) (fun _ => False) rfl rfl ?aP (fun _ hk => hk.elim) ?aF ?aO ?aB ?aS ?aL ?_
              (case aP => exact rfl)
              (case aB => exact (by repeat (first | (with_reducible first | exact HB.out | apply below_alloc | apply pw_below_drewN | apply below_drew1 | refine below_set ?_ GE187.out) | exact HB.out)))
              (case aF => exact (fun k_ hk => (.inr (Nat.le_trans (by first | exact HK.out.1 | exact (show Kept w _ (fun k_ => P1_ k_) from by repeat (first | (with_reducible first | exact HK.out | apply Kept.alloc | apply Kept.drewN | apply Kept.drew | refine Kept.setCell ?_ (.inr GW187.out) _) | exact HK.out)).1) hk))))
              (case aO => exact (by (with_reducible repeat (first | apply Kd.R_alloc | apply Kd.R_drewN | apply Kd.R_drew)); exact HO_1.out))
              (case aS => exact (below_size (by repeat (first | (with_reducible first | exact HB.out | apply below_alloc | apply pw_below_drewN | apply below_drew1 | refine below_set ?_ GE187.out) | exact HB.out))))
              (case aL => have := LMc19.out; omega)
              intro v199 w24 ho hb hg hat
              rw [← Ny198.out] at ho
              have n0_ := Aside0.mk (Kd.R_over' (by (with_reducible repeat (first | apply Kd.R_alloc | apply Kd.R_drewN | apply Kd.R_drew)); exact HO_17.out) (Kd.R_typed (by (with_reducible repeat (first | apply Kd.R_alloc | apply Kd.R_drewN | apply Kd.R_drew)); exact HO_1.out)) (by decide) hg)
              have n1_ := Aside0.mk (blk_grown (g := gb187) (o := .cells #[.int .i64 a0_0, .int .i64 a0_1, .int .i64 a0_2, .int .i64 a0_3, .int .i64 a0_4, .int .i64 a0_5, .int .i64 a0_6, .int .i64 a0_7] 44 (0, 0)) (by (with_reducible repeat (first | refine blk_drewN ?_ _ | refine blk_drew ?_ | refine blk_alloc ?_ _)); exact BK187.out) hg (Kd.R_ne HO_1.out BK187.out (by decide)))
              have n2_ := Aside0.mk (hb)
              have n3_ := Aside0.mk (Kept.of_grown (S := (fun k_ => P1_ k_)) hg (by repeat (first | (with_reducible first | exact HK.out | apply Kept.alloc | apply Kept.drewN | apply Kept.drew | refine Kept.setCell ?_ (.inr GW187.out) _) | exact HK.out)) (fun k_ e_ => (HO_1.out.1 k_ e_)))
              have n4_ := Aside0.mk (ho)
              clear HO_17
              clear BK187
              clear HB
              clear HK
              clear HO_1
              have HO_17 := n0_
              have BK187 := n1_
              have HB := n2_
              have HK := n3_
              have HO200 := n4_
              clear n0_ n1_ n2_ n3_ n4_
              clear ho hb hg hat
              obtain ⟨Ao25, co25, eo25⟩ := Kd.R_slice HO200.out
              (first | subst eo25 | (injection eo25 with f1_ f2_ f3_; have f4_ := f1_.symm; have f5_ := f3_.symm; clear f1_ f2_ f3_; subst f4_; subst f5_))
              refine hK.out _ _ ⟨(blk_cell BK187.out 0).trans rfl, (blk_cell BK187.out 1).trans rfl, (blk_cell BK187.out 2).trans rfl, (blk_cell BK187.out 3).trans rfl, (blk_cell BK187.out 4).trans rfl, (blk_cell BK187.out 5).trans rfl, (blk_cell BK187.out 6).trans rfl, (blk_cell BK187.out 7).trans rfl⟩ (fun hHeld => ?_)
              clear hK K
              refine norm_ (a' := ?_) ?_ ?_
              rotate_left
              · show Act.put _ (some 40) _ = _
                simp only [Act.put, List.setIfInBounds_toArray, List.set_cons_zero, List.set_cons_succ, i64_w, i32_w]
                rfl
              refine one_ (i := 7) (N := some 45) #[true, true, true, true, true, true, true, true, true, true, true, true, false, false] rfl rfl (one_of HT_.out (by kernel_rfl)) (by decide) (fun K hK => ?_)
              refine goes_ Try.func63 (by kernel_rfl) rfl #[.slice Ao25 y198.length co25, .int .i64 (wrap64 (Int.tdiv (wrap64 (-a0_7)) 60))] (by rfl) rfl rfl (by (try simp only [List.map_toArray, List.map_cons, List.map_nil]); first | done | rfl | (simp only [List.length_drop, List.length_take]; rfl)) ?_
              with_reducible refine (spec_two.calls (fun k_ => some k_ = (.slice Ao25 y198.length co25 : Value).ownBlock) (.slice Ao25 y198.length co25) y198 (wrap64 (Int.tdiv (wrap64 (-a0_7)) 60)) t201 w0 _ ?side1 ?side2 A20.out).mono ?_
              (case side1 => repeat (first | (with_reducible first | exact HB.out | apply below_alloc | apply pw_below_drewN | apply below_drew1 | refine below_set ?_ GE187.out) | exact HB.out))
              (case side2 => exact Kd.R_tight rfl HO200.out)
              rintro e w26 ⟨v202, rfl, ho0, hb, hkp⟩
              refine ⟨_, rfl, ?_⟩
              have n0_ := Aside0.mk (Kd.R_mono (ok' := fun k_ => (P1_ k_ ∨ w.heap.size ≤ k_)) (Kd.R_keptB ((Kd.R_apart' HO_17.out (Kd.R_typed HO200.out) (by decide))) hkp (fun k_ hk_ hs_ => (hk_.2) hs_)) (fun k_ hk_ => hk_.1.1))
              have n1_ := Aside0.mk (blk_kept (by (with_reducible repeat (first | refine blk_drewN ?_ _ | refine blk_drew ?_ | refine blk_alloc ?_ _)); exact BK187.out) hkp (fun hs_ => (fun e_ => (Kd.R_ne HO200.out BK187.out (by decide)) e_) hs_))
              have n2_ := Aside0.mk (Kd.R_mono (ok' := fun k_ => (P1_ k_ ∨ w.heap.size ≤ k_)) ho0 (fun k_ hk_ => Or.elim hk_ (fun hs_ => (HO200.out.1 k_ (hs_).symm)) (fun hn_ => (.inr (Nat.le_trans (by first | exact HK.out.1 | exact (show Kept w _ (fun k_ => P1_ k_) from by repeat (first | (with_reducible first | exact HK.out | apply Kept.alloc | apply Kept.drewN | apply Kept.drew | refine Kept.setCell ?_ (.inr GW187.out) _) | exact HK.out)).1) hn_)))))
              have n3_ := Aside0.mk (Kept.then_ (S := (fun k_ => P1_ k_)) (by repeat (first | (with_reducible first | exact HK.out | apply Kept.alloc | apply Kept.drewN | apply Kept.drew | refine Kept.setCell ?_ (.inr GW187.out) _) | exact HK.out)) hkp (fun k_ hs_ => (fun e_ => (HO200.out.1 k_ e_.symm)) hs_))
              have n4_ := Aside0.mk (hb)
              clear HO_17
              clear BK187
              clear HK
              clear HB
              clear HO200
              have HO_17 := n0_
              have BK187 := n1_
              have HO203 := n2_
              have HK := n3_
              have HB := n4_
              clear n0_ n1_ n2_ n3_ n4_
              (try clear hb)
              (try clear hkp)
              (try clear ho0)
              obtain ⟨Ao27, co27, eo27⟩ := Kd.R_slice HO203.out
              (first | subst eo27 | (injection eo27 with f1_ f2_ f3_; have f4_ := f1_.symm; have f5_ := f3_.symm; clear f1_ f2_ f3_; subst f4_; subst f5_))
              refine hK.out _ _ ⟨(blk_cell BK187.out 0).trans rfl, (blk_cell BK187.out 1).trans rfl, (blk_cell BK187.out 2).trans rfl, (blk_cell BK187.out 3).trans rfl, (blk_cell BK187.out 4).trans rfl, (blk_cell BK187.out 5).trans rfl, (blk_cell BK187.out 6).trans rfl, (blk_cell BK187.out 7).trans rfl⟩ (fun hHeld => ?_)
              clear hK K
              refine norm_ (a' := ?_) ?_ ?_
              rotate_left
              · show Act.put _ (some 45) _ = _
                simp only [Act.put, List.setIfInBounds_toArray, List.set_cons_zero, List.set_cons_succ, i64_w, i32_w]
                rfl
              refine one_ (i := 12) (N := some 50) #[true, true, true, true, true, true, true, true, true, true, true, true, true, false] rfl rfl (one_of HT_.out (by kernel_rfl)) (by decide) (fun K hK => ?_)
              refine goes_ Try.func63 (by kernel_rfl) rfl #[.slice Ao27 t201.length co27, .int .i64 (Int.tmod (wrap64 (-a0_7)) 60)] (by rfl) rfl rfl (by (try simp only [List.map_toArray, List.map_cons, List.map_nil]); first | done | rfl | (simp only [List.length_drop, List.length_take]; rfl)) ?_
              with_reducible refine (spec_two.calls (fun k_ => some k_ = (.slice Ao27 t201.length co27 : Value).ownBlock) (.slice Ao27 t201.length co27) t201 (Int.tmod (wrap64 (-a0_7)) 60) t204 w0 _ ?side1 ?side2 A21.out).mono ?_
              (case side1 => repeat (first | (with_reducible first | exact HB.out | apply below_alloc | apply pw_below_drewN | apply below_drew1 | refine below_set ?_ GE187.out) | exact HB.out))
              (case side2 => exact Kd.R_tight rfl HO203.out)
              rintro e w28 ⟨v205, rfl, ho0, hb, hkp⟩
              refine ⟨_, rfl, ?_⟩
              have n0_ := Aside0.mk (Kd.R_mono (ok' := fun k_ => (P1_ k_ ∨ w.heap.size ≤ k_)) (Kd.R_keptB ((Kd.R_apart' HO_17.out (Kd.R_typed HO203.out) (by decide))) hkp (fun k_ hk_ hs_ => (hk_.2) hs_)) (fun k_ hk_ => hk_.1.1))
              have n1_ := Aside0.mk (blk_kept (by (with_reducible repeat (first | refine blk_drewN ?_ _ | refine blk_drew ?_ | refine blk_alloc ?_ _)); exact BK187.out) hkp (fun hs_ => (fun e_ => (Kd.R_ne HO203.out BK187.out (by decide)) e_) hs_))
              have n2_ := Aside0.mk (Kd.R_mono (ok' := fun k_ => (P1_ k_ ∨ w.heap.size ≤ k_)) ho0 (fun k_ hk_ => Or.elim hk_ (fun hs_ => (HO203.out.1 k_ (hs_).symm)) (fun hn_ => (.inr (Nat.le_trans (by first | exact HK.out.1 | exact (show Kept w _ (fun k_ => P1_ k_) from by repeat (first | (with_reducible first | exact HK.out | apply Kept.alloc | apply Kept.drewN | apply Kept.drew | refine Kept.setCell ?_ (.inr GW187.out) _) | exact HK.out)).1) hn_)))))
              have n3_ := Aside0.mk (Kept.then_ (S := (fun k_ => P1_ k_)) (by repeat (first | (with_reducible first | exact HK.out | apply Kept.alloc | apply Kept.drewN | apply Kept.drew | refine Kept.setCell ?_ (.inr GW187.out) _) | exact HK.out)) hkp (fun k_ hs_ => (fun e_ => (HO203.out.1 k_ e_.symm)) hs_))
              have n4_ := Aside0.mk (hb)
              clear HO_17
              clear BK187
              clear HK
              clear HB
              clear HO203
              have HO_17 := n0_
              have BK187 := n1_
              have HO206 := n2_
              have HK := n3_
              have HB := n4_
              clear n0_ n1_ n2_ n3_ n4_
              (try clear hb)
              (try clear hkp)
              (try clear ho0)
              refine hK.out _ _ ⟨(blk_cell BK187.out 0).trans rfl, (blk_cell BK187.out 1).trans rfl, (blk_cell BK187.out 2).trans rfl, (blk_cell BK187.out 3).trans rfl, (blk_cell BK187.out 4).trans rfl, (blk_cell BK187.out 5).trans rfl, (blk_cell BK187.out 6).trans rfl, (blk_cell BK187.out 7).trans rfl⟩ (fun hHeld => ?_)
              clear hK K
              refine norm_ (a' := ?_) ?_ ?_
              rotate_left
              · show Act.put _ (some 50) _ = _
                simp only [Act.put, List.setIfInBounds_toArray, List.set_cons_zero, List.set_cons_succ, i64_w, i32_w]
                rfl
              refine pure_ (i := 13) (N := some 4) (v := ?_) (a' := ?_) #[true, true, true, true, true, true, true, true, true, true, true, true, true, true] rfl rfl (any_of HT_.out (by kernel_rfl)) (fun _ _ _ h => h) (Or.inl ⟨by rfl, ?_⟩) ?_ ?_
              rotate_left
              · intro w'
                go_simp
                with_reducible rfl
              rotate_left
              · simp only [Act.put, List.setIfInBounds_toArray, List.set_cons_zero, List.set_cons_succ, i64_w, i32_w]
                rfl
              refine done_ (done_of HT_.out (by kernel_rfl)) ?_
              try go_wp2
              go_ret
              exact ⟨_, by first | rfl | (simp [errW_none, errW_some] <;> rfl) | (simp [*, errW_none, errW_some] <;> rfl), by (with_reducible repeat (first | apply Kd.R_alloc | apply Kd.R_drewN | apply Kd.R_drew)); exact HO206.out, by repeat (first | (with_reducible first | exact HB.out | apply below_alloc | apply pw_below_drewN | apply below_drew1 | refine below_set ?_ GE187.out) | exact HB.out), by repeat (first | (with_reducible first | exact HK.out | apply Kept.alloc | apply Kept.drewN | apply Kept.drew | refine Kept.setCell ?_ (.inr GW187.out) _) | exact HK.out)⟩
            · rw [if_neg c19] at H
              exact absurd H (by simp)
          · rw [if_neg c18] at H
            have c18b0 : decide (a0_7 < 0) = false := decide_eq_false c18
            clear c18
            by_cases c29 : x1_1.length < 140737488355328
            · rw [if_pos c29] at H
              have LMc29 := Aside0.mk c29
              clear c29
              obtain ⟨y207, hy207⟩ : ∃ y_ : List Int, y_ = (x1_1 ++ [43]) := ⟨_, rfl⟩
              replace H : ((spec_two.f y207 (wrap64 (Int.tdiv a0_7 60))).bind fun t210 => ((spec_two.f t210 (Int.tmod a0_7 60)).bind fun t213 => (some t213))) = some r := by first | (rw [hy207]; with_reducible exact H) | (have H2_ := (Option.bind_some _ _).symm.trans H; rw [hy207]; with_reducible exact H2_) | (have H2_ := (Option.bind_some _ _).symm.trans H; with_reducible exact H2_) | with_reducible exact H | (rw [hy207]; exact H) | exact H
              have Ny207 := Aside0.mk hy207
              clear hy207
              replace H := Option.bind_eq_some_iff.mp H
              obtain ⟨t210, A300, H⟩ := H
              replace H : ((spec_two.f t210 (Int.tmod a0_7 60)).bind fun t213 => (some t213)) = some r := H
              have A30 := Aside0.mk A300
              clear A300
              replace H := Option.bind_eq_some_iff.mp H
              obtain ⟨t213, A310, H⟩ := H
              replace H : (some t213) = some r := H
              have A31 := Aside0.mk A310
              clear A310
              obtain rfl := Option.some.inj H
              have hcz32_0 : wr.cell? ⟨gb187, 0, none⟩ = some (.int .i64 a0_0) := (blk_cell BK187.out 0).trans rfl
              have hcz32_1 : wr.cell? ⟨gb187, 1, none⟩ = some (.int .i64 a0_1) := (blk_cell BK187.out 1).trans rfl
              have hcz32_2 : wr.cell? ⟨gb187, 2, none⟩ = some (.int .i64 a0_2) := (blk_cell BK187.out 2).trans rfl
              have hcz32_3 : wr.cell? ⟨gb187, 3, none⟩ = some (.int .i64 a0_3) := (blk_cell BK187.out 3).trans rfl
              have hcz32_4 : wr.cell? ⟨gb187, 4, none⟩ = some (.int .i64 a0_4) := (blk_cell BK187.out 4).trans rfl
              have hcz32_5 : wr.cell? ⟨gb187, 5, none⟩ = some (.int .i64 a0_5) := (blk_cell BK187.out 5).trans rfl
              have hcz32_6 : wr.cell? ⟨gb187, 6, none⟩ = some (.int .i64 a0_6) := (blk_cell BK187.out 6).trans rfl
              have hcz32_7 : wr.cell? ⟨gb187, 7, none⟩ = some (.int .i64 a0_7) := (blk_cell BK187.out 7).trans rfl
              have hfz32_0 := blk_frozen BK187.out 0
              have hfz32_1 := blk_frozen BK187.out 1
              have hfz32_2 := blk_frozen BK187.out 2
              have hfz32_3 := blk_frozen BK187.out 3
              have hfz32_4 := blk_frozen BK187.out 4
              have hfz32_5 := blk_frozen BK187.out 5
              have hfz32_6 := blk_frozen BK187.out 6
              have hfz32_7 := blk_frozen BK187.out 7
              try go_wp2
              have n0_ := Aside0.mk (Kd.R_drew HO_1.out)
              have n1_ := Aside0.mk (Kd.R_drew HO_17.out)
              have n2_ := Aside0.mk (blk_drew BK187.out)
              have n3_ := Aside0.mk (Kept.drew HK.out)
              have n4_ := Aside0.mk (below_drew1 HB.out)
              clear HO_1
              clear HO_17
              clear BK187
              clear HK
              clear HB
              have HO_1 := n0_
              have HO_17 := n1_
              have BK187 := n2_
              have HK := n3_
              have HB := n4_
              clear n0_ n1_ n2_ n3_ n4_
              refine start_ (n := 12) (S := fun w' => w'.cell? ⟨gb187, 0, none⟩ = some (.int .i64 a0_0) ∧ w'.cell? ⟨gb187, 1, none⟩ = some (.int .i64 a0_1) ∧ w'.cell? ⟨gb187, 2, none⟩ = some (.int .i64 a0_2) ∧ w'.cell? ⟨gb187, 3, none⟩ = some (.int .i64 a0_3) ∧ w'.cell? ⟨gb187, 4, none⟩ = some (.int .i64 a0_4) ∧ w'.cell? ⟨gb187, 5, none⟩ = some (.int .i64 a0_5) ∧ w'.cell? ⟨gb187, 6, none⟩ = some (.int .i64 a0_6) ∧ w'.cell? ⟨gb187, 7, none⟩ = some (.int .i64 a0_7)) (ds := []) #[false, false, false, false, false, false, false, false, false, false, false, false] (by kernel_rfl) rfl rfl ⟨(blk_cell BK187.out 0).trans rfl, (blk_cell BK187.out 1).trans rfl, (blk_cell BK187.out 2).trans rfl, (blk_cell BK187.out 3).trans rfl, (blk_cell BK187.out 4).trans rfl, (blk_cell BK187.out 5).trans rfl, (blk_cell BK187.out 6).trans rfl, (blk_cell BK187.out 7).trans rfl⟩ (fun hHeld => ?_); refine with_tabW spec_Clock_behind.tab10 spec_Clock_behind.bits10 (fun HT_ HW_ => ?_)
              generalize wr.drew = w33 at HO_1 HO_17 BK187 HK HB hHeld ⊢
              refine pure_ (i := 0) (N := some 51) (v := ?_) (a' := ?_) #[true, false, false, false, false, false, false, false, false, false, false, false] rfl rfl (any_of HT_.out (by kernel_rfl)) (fun _ _ _ h => h) (Or.inl ⟨by rfl, ?_⟩) ?_ ?_
              rotate_left
              · intro w'
                go_simp
                with_reducible rfl
              rotate_left
              · simp only [Act.put, List.setIfInBounds_toArray, List.set_cons_zero, List.set_cons_succ, i64_w, i32_w]
                rfl
              refine pure_ (i := 3) (N := some 54) (v := ?_) (a' := ?_) #[true, false, false, true, false, false, false, false, false, false, false, false] rfl rfl (any_of HT_.out (by kernel_rfl)) (fun _ _ _ h => h) (Or.inl ⟨by rfl, ?_⟩) ?_ ?_
              rotate_left
              · intro w'
                go_simp
                with_reducible rfl
              rotate_left
              · simp only [Act.put, List.setIfInBounds_toArray, List.set_cons_zero, List.set_cons_succ, i64_w, i32_w]
                rfl
              refine pure_ (i := 7) (N := some 58) (v := ?_) (a' := ?_) #[true, false, false, true, false, false, false, true, false, false, false, false] rfl rfl (any_of HT_.out (by kernel_rfl)) (fun _ _ _ h => h) (Or.inl ⟨by rfl, ?_⟩) ?_ ?_
              rotate_left
              · intro w'
                go_simp
                with_reducible rfl
              rotate_left
              · simp only [Act.put, List.setIfInBounds_toArray, List.set_cons_zero, List.set_cons_succ, i64_w, i32_w]
                rfl
              refine take_ (i := 4) (N := some 55) (v := ?_) (a' := ?_) #[true, false, false, true, true, false, false, true, false, false, false, false] rfl rfl (take_ofW HT_.out HW_.out (by kernel_rfl)) (fun _ _ _ h => h) (Or.inl ⟨by rfl, ?_⟩) hHeld ?_ ?_
              rotate_left
              · rintro w' ⟨s0, s1, s2, s3, s4, s5, s6, s7⟩
                go_simp
                with_reducible rfl
              rotate_left
              · simp only [Act.put, List.setIfInBounds_toArray, List.set_cons_zero, List.set_cons_succ, i64_w, i32_w]
                rfl
              refine pure_ (i := 5) (N := some 56) (v := ?_) (a' := ?_) #[true, false, false, true, true, true, false, true, false, false, false, false] rfl rfl (any_of HT_.out (by kernel_rfl)) (fun _ _ _ h => h) (Or.inl ⟨by rfl, ?_⟩) ?_ ?_
              rotate_left
              · intro w'
                go_simp
                with_reducible rfl
              rotate_left
              · simp only [Act.put, List.setIfInBounds_toArray, List.set_cons_zero, List.set_cons_succ, i64_w, i32_w]
                rfl
              refine take_ (i := 8) (N := some 59) (v := ?_) (a' := ?_) #[true, false, false, true, true, true, false, true, true, false, false, false] rfl rfl (take_ofW HT_.out HW_.out (by kernel_rfl)) (fun _ _ _ h => h) (Or.inl ⟨by rfl, ?_⟩) hHeld ?_ ?_
              rotate_left
              · rintro w' ⟨s0, s1, s2, s3, s4, s5, s6, s7⟩
                go_simp
                with_reducible rfl
              rotate_left
              · simp only [Act.put, List.setIfInBounds_toArray, List.set_cons_zero, List.set_cons_succ, i64_w, i32_w]
                rfl
              refine pure_ (i := 9) (N := some 60) (v := ?_) (a' := ?_) #[true, false, false, true, true, true, false, true, true, true, false, false] rfl rfl (any_of HT_.out (by kernel_rfl)) (fun _ _ _ h => h) (Or.inl ⟨by rfl, ?_⟩) ?_ ?_
              rotate_left
              · intro w'
                go_simp
                with_reducible rfl
              rotate_left
              · simp only [Act.put, List.setIfInBounds_toArray, List.set_cons_zero, List.set_cons_succ, i64_w, i32_w]
                rfl
              refine one_ (i := 1) (N := some 52) #[true, true, false, true, true, true, false, true, true, true, false, false] rfl rfl (one_of HT_.out (by kernel_rfl)) (by decide) (fun K hK => ?_)
              refine value_ (w1 := ?_) (v := ?_) (by rfl) rfl ?_ ?_
              rotate_left 2
              · go_simp
                constructor
                · rfl
                · rfl
              refine hK.out _ _ ⟨(blk_cell (blk_alloc BK187.out _) 0).trans rfl, (blk_cell (blk_alloc BK187.out _) 1).trans rfl, (blk_cell (blk_alloc BK187.out _) 2).trans rfl, (blk_cell (blk_alloc BK187.out _) 3).trans rfl, (blk_cell (blk_alloc BK187.out _) 4).trans rfl, (blk_cell (blk_alloc BK187.out _) 5).trans rfl, (blk_cell (blk_alloc BK187.out _) 6).trans rfl, (blk_cell (blk_alloc BK187.out _) 7).trans rfl⟩ (fun hHeld => ?_)
              clear hK K
              refine norm_ (a' := ?_) ?_ ?_
              rotate_left
              · show Act.put _ (some 52) _ = _
                simp only [Act.put, List.setIfInBounds_toArray, List.set_cons_zero, List.set_cons_succ, i64_w, i32_w]
                rfl
              refine one_ (i := 2) (N := some 53) #[true, true, true, true, true, true, false, true, true, true, false, false] rfl rfl (one_of HT_.out (by kernel_rfl)) (by decide) (fun K hK => ?_)
              refine Kd.R_append_step (Kd.int .u8) (w0 := w0) w0.heap.size (by rfl) (.tmp 51) (.tmp 52) 25 5 (.int .u8 0) 1 rfl Try.underlying25 info5 rfl (by decide) (by omega) u1 x1_1 43 [.int .u8 43] (fun k_ => (P1_ k_ ∨ w.heap.size ≤ k_)) (fun _ => False) rfl rfl ?aP (fun _ hk => hk.elim) ?aF ?aO ?aB ?aS ?aL ?_
              (case aP => exact rfl)
              (case aB => exact (by repeat (first | (with_reducible first | exact HB.out | apply below_alloc | apply pw_below_drewN | apply below_drew1 | refine below_set ?_ GE187.out) | exact HB.out)))
              (case aF => exact (fun k_ hk => (.inr (Nat.le_trans (by first | exact HK.out.1 | exact (show Kept w _ (fun k_ => P1_ k_) from by repeat (first | (with_reducible first | exact HK.out | apply Kept.alloc | apply Kept.drewN | apply Kept.drew | refine Kept.setCell ?_ (.inr GW187.out) _) | exact HK.out)).1) hk))))
              (case aO => exact (by (with_reducible repeat (first | apply Kd.R_alloc | apply Kd.R_drewN | apply Kd.R_drew)); exact HO_1.out))
              (case aS => exact (below_size (by repeat (first | (with_reducible first | exact HB.out | apply below_alloc | apply pw_below_drewN | apply below_drew1 | refine below_set ?_ GE187.out) | exact HB.out))))
              (case aL => have := LMc29.out; omega)
              intro v208 w34 ho hb hg hat
              rw [← Ny207.out] at ho
              have n0_ := Aside0.mk (Kd.R_over' (by (with_reducible repeat (first | apply Kd.R_alloc | apply Kd.R_drewN | apply Kd.R_drew)); exact HO_17.out) (Kd.R_typed (by (with_reducible repeat (first | apply Kd.R_alloc | apply Kd.R_drewN | apply Kd.R_drew)); exact HO_1.out)) (by decide) hg)
              have n1_ := Aside0.mk (blk_grown (g := gb187) (o := .cells #[.int .i64 a0_0, .int .i64 a0_1, .int .i64 a0_2, .int .i64 a0_3, .int .i64 a0_4, .int .i64 a0_5, .int .i64 a0_6, .int .i64 a0_7] 44 (0, 0)) (by (with_reducible repeat (first | refine blk_drewN ?_ _ | refine blk_drew ?_ | refine blk_alloc ?_ _)); exact BK187.out) hg (Kd.R_ne HO_1.out BK187.out (by decide)))
              have n2_ := Aside0.mk (hb)
              have n3_ := Aside0.mk (Kept.of_grown (S := (fun k_ => P1_ k_)) hg (by repeat (first | (with_reducible first | exact HK.out | apply Kept.alloc | apply Kept.drewN | apply Kept.drew | refine Kept.setCell ?_ (.inr GW187.out) _) | exact HK.out)) (fun k_ e_ => (HO_1.out.1 k_ e_)))
              have n4_ := Aside0.mk (ho)
              clear HO_17
              clear BK187
              clear HB
              clear HK
              clear HO_1
              have HO_17 := n0_
              have BK187 := n1_
              have HB := n2_
              have HK := n3_
              have HO209 := n4_
              clear n0_ n1_ n2_ n3_ n4_
              clear ho hb hg hat
              obtain ⟨Ao35, co35, eo35⟩ := Kd.R_slice HO209.out
              (first | subst eo35 | (injection eo35 with f1_ f2_ f3_; have f4_ := f1_.symm; have f5_ := f3_.symm; clear f1_ f2_ f3_; subst f4_; subst f5_))
              refine hK.out _ _ ⟨(blk_cell BK187.out 0).trans rfl, (blk_cell BK187.out 1).trans rfl, (blk_cell BK187.out 2).trans rfl, (blk_cell BK187.out 3).trans rfl, (blk_cell BK187.out 4).trans rfl, (blk_cell BK187.out 5).trans rfl, (blk_cell BK187.out 6).trans rfl, (blk_cell BK187.out 7).trans rfl⟩ (fun hHeld => ?_)
              clear hK K
              refine norm_ (a' := ?_) ?_ ?_
              rotate_left
              · show Act.put _ (some 53) _ = _
                simp only [Act.put, List.setIfInBounds_toArray, List.set_cons_zero, List.set_cons_succ, i64_w, i32_w]
                rfl
              refine one_ (i := 6) (N := some 57) #[true, true, true, true, true, true, true, true, true, true, false, false] rfl rfl (one_of HT_.out (by kernel_rfl)) (by decide) (fun K hK => ?_)
              refine goes_ Try.func63 (by kernel_rfl) rfl #[.slice Ao35 y207.length co35, .int .i64 (wrap64 (Int.tdiv a0_7 60))] (by rfl) rfl rfl (by (try simp only [List.map_toArray, List.map_cons, List.map_nil]); first | done | rfl | (simp only [List.length_drop, List.length_take]; rfl)) ?_
              with_reducible refine (spec_two.calls (fun k_ => some k_ = (.slice Ao35 y207.length co35 : Value).ownBlock) (.slice Ao35 y207.length co35) y207 (wrap64 (Int.tdiv a0_7 60)) t210 w0 _ ?side1 ?side2 A30.out).mono ?_
              (case side1 => repeat (first | (with_reducible first | exact HB.out | apply below_alloc | apply pw_below_drewN | apply below_drew1 | refine below_set ?_ GE187.out) | exact HB.out))
              (case side2 => exact Kd.R_tight rfl HO209.out)
              rintro e w36 ⟨v211, rfl, ho0, hb, hkp⟩
              refine ⟨_, rfl, ?_⟩
              have n0_ := Aside0.mk (Kd.R_mono (ok' := fun k_ => (P1_ k_ ∨ w.heap.size ≤ k_)) (Kd.R_keptB ((Kd.R_apart' HO_17.out (Kd.R_typed HO209.out) (by decide))) hkp (fun k_ hk_ hs_ => (hk_.2) hs_)) (fun k_ hk_ => hk_.1.1))
              have n1_ := Aside0.mk (blk_kept (by (with_reducible repeat (first | refine blk_drewN ?_ _ | refine blk_drew ?_ | refine blk_alloc ?_ _)); exact BK187.out) hkp (fun hs_ => (fun e_ => (Kd.R_ne HO209.out BK187.out (by decide)) e_) hs_))
              have n2_ := Aside0.mk (Kd.R_mono (ok' := fun k_ => (P1_ k_ ∨ w.heap.size ≤ k_)) ho0 (fun k_ hk_ => Or.elim hk_ (fun hs_ => (HO209.out.1 k_ (hs_).symm)) (fun hn_ => (.inr (Nat.le_trans (by first | exact HK.out.1 | exact (show Kept w _ (fun k_ => P1_ k_) from by repeat (first | (with_reducible first | exact HK.out | apply Kept.alloc | apply Kept.drewN | apply Kept.drew | refine Kept.setCell ?_ (.inr GW187.out) _) | exact HK.out)).1) hn_)))))
              have n3_ := Aside0.mk (Kept.then_ (S := (fun k_ => P1_ k_)) (by repeat (first | (with_reducible first | exact HK.out | apply Kept.alloc | apply Kept.drewN | apply Kept.drew | refine Kept.setCell ?_ (.inr GW187.out) _) | exact HK.out)) hkp (fun k_ hs_ => (fun e_ => (HO209.out.1 k_ e_.symm)) hs_))
              have n4_ := Aside0.mk (hb)
              clear HO_17
              clear BK187
              clear HK
              clear HB
              clear HO209
              have HO_17 := n0_
              have BK187 := n1_
              have HO212 := n2_
              have HK := n3_
              have HB := n4_
              clear n0_ n1_ n2_ n3_ n4_
              (try clear hb)
              (try clear hkp)
              (try clear ho0)
              obtain ⟨Ao37, co37, eo37⟩ := Kd.R_slice HO212.out
              (first | subst eo37 | (injection eo37 with f1_ f2_ f3_; have f4_ := f1_.symm; have f5_ := f3_.symm; clear f1_ f2_ f3_; subst f4_; subst f5_))
              refine hK.out _ _ ⟨(blk_cell BK187.out 0).trans rfl, (blk_cell BK187.out 1).trans rfl, (blk_cell BK187.out 2).trans rfl, (blk_cell BK187.out 3).trans rfl, (blk_cell BK187.out 4).trans rfl, (blk_cell BK187.out 5).trans rfl, (blk_cell BK187.out 6).trans rfl, (blk_cell BK187.out 7).trans rfl⟩ (fun hHeld => ?_)
              clear hK K
              refine norm_ (a' := ?_) ?_ ?_
              rotate_left
              · show Act.put _ (some 57) _ = _
                simp only [Act.put, List.setIfInBounds_toArray, List.set_cons_zero, List.set_cons_succ, i64_w, i32_w]
                rfl
              refine one_ (i := 10) (N := some 61) #[true, true, true, true, true, true, true, true, true, true, true, false] rfl rfl (one_of HT_.out (by kernel_rfl)) (by decide) (fun K hK => ?_)
              refine goes_ Try.func63 (by kernel_rfl) rfl #[.slice Ao37 t210.length co37, .int .i64 (Int.tmod a0_7 60)] (by rfl) rfl rfl (by (try simp only [List.map_toArray, List.map_cons, List.map_nil]); first | done | rfl | (simp only [List.length_drop, List.length_take]; rfl)) ?_
              with_reducible refine (spec_two.calls (fun k_ => some k_ = (.slice Ao37 t210.length co37 : Value).ownBlock) (.slice Ao37 t210.length co37) t210 (Int.tmod a0_7 60) t213 w0 _ ?side1 ?side2 A31.out).mono ?_
              (case side1 => repeat (first | (with_reducible first | exact HB.out | apply below_alloc | apply pw_below_drewN | apply below_drew1 | refine below_set ?_ GE187.out) | exact HB.out))
              (case side2 => exact Kd.R_tight rfl HO212.out)
              rintro e w38 ⟨v214, rfl, ho0, hb, hkp⟩
              refine ⟨_, rfl, ?_⟩
              have n0_ := Aside0.mk (Kd.R_mono (ok' := fun k_ => (P1_ k_ ∨ w.heap.size ≤ k_)) (Kd.R_keptB ((Kd.R_apart' HO_17.out (Kd.R_typed HO212.out) (by decide))) hkp (fun k_ hk_ hs_ => (hk_.2) hs_)) (fun k_ hk_ => hk_.1.1))
              have n1_ := Aside0.mk (blk_kept (by (with_reducible repeat (first | refine blk_drewN ?_ _ | refine blk_drew ?_ | refine blk_alloc ?_ _)); exact BK187.out) hkp (fun hs_ => (fun e_ => (Kd.R_ne HO212.out BK187.out (by decide)) e_) hs_))
              have n2_ := Aside0.mk (Kd.R_mono (ok' := fun k_ => (P1_ k_ ∨ w.heap.size ≤ k_)) ho0 (fun k_ hk_ => Or.elim hk_ (fun hs_ => (HO212.out.1 k_ (hs_).symm)) (fun hn_ => (.inr (Nat.le_trans (by first | exact HK.out.1 | exact (show Kept w _ (fun k_ => P1_ k_) from by repeat (first | (with_reducible first | exact HK.out | apply Kept.alloc | apply Kept.drewN | apply Kept.drew | refine Kept.setCell ?_ (.inr GW187.out) _) | exact HK.out)).1) hn_)))))
              have n3_ := Aside0.mk (Kept.then_ (S := (fun k_ => P1_ k_)) (by repeat (first | (with_reducible first | exact HK.out | apply Kept.alloc | apply Kept.drewN | apply Kept.drew | refine Kept.setCell ?_ (.inr GW187.out) _) | exact HK.out)) hkp (fun k_ hs_ => (fun e_ => (HO212.out.1 k_ e_.symm)) hs_))
              have n4_ := Aside0.mk (hb)
              clear HO_17
              clear BK187
              clear HK
              clear HB
              clear HO212
              have HO_17 := n0_
              have BK187 := n1_
              have HO215 := n2_
              have HK := n3_
              have HB := n4_
              clear n0_ n1_ n2_ n3_ n4_
              (try clear hb)
              (try clear hkp)
              (try clear ho0)
              refine hK.out _ _ ⟨(blk_cell BK187.out 0).trans rfl, (blk_cell BK187.out 1).trans rfl, (blk_cell BK187.out 2).trans rfl, (blk_cell BK187.out 3).trans rfl, (blk_cell BK187.out 4).trans rfl, (blk_cell BK187.out 5).trans rfl, (blk_cell BK187.out 6).trans rfl, (blk_cell BK187.out 7).trans rfl⟩ (fun hHeld => ?_)
              clear hK K
              refine norm_ (a' := ?_) ?_ ?_
              rotate_left
              · show Act.put _ (some 61) _ = _
                simp only [Act.put, List.setIfInBounds_toArray, List.set_cons_zero, List.set_cons_succ, i64_w, i32_w]
                rfl
              refine pure_ (i := 11) (N := some 4) (v := ?_) (a' := ?_) #[true, true, true, true, true, true, true, true, true, true, true, true] rfl rfl (any_of HT_.out (by kernel_rfl)) (fun _ _ _ h => h) (Or.inl ⟨by rfl, ?_⟩) ?_ ?_
              rotate_left
              · intro w'
                go_simp
                with_reducible rfl
              rotate_left
              · simp only [Act.put, List.setIfInBounds_toArray, List.set_cons_zero, List.set_cons_succ, i64_w, i32_w]
                rfl
              refine done_ (done_of HT_.out (by kernel_rfl)) ?_
              try go_wp2
              go_ret
              exact ⟨_, by first | rfl | (simp [errW_none, errW_some] <;> rfl) | (simp [*, errW_none, errW_some] <;> rfl), by (with_reducible repeat (first | apply Kd.R_alloc | apply Kd.R_drewN | apply Kd.R_drew)); exact HO215.out, by repeat (first | (with_reducible first | exact HB.out | apply below_alloc | apply pw_below_drewN | apply below_drew1 | refine below_set ?_ GE187.out) | exact HB.out), by repeat (first | (with_reducible first | exact HK.out | apply Kept.alloc | apply Kept.drewN | apply Kept.drew | refine Kept.setCell ?_ (.inr GW187.out) _) | exact HK.out)⟩
            · rw [if_neg c29] at H
              exact absurd H (by simp)

/-! ### spec_PutGeneralized: function 34 -/
def spec_PutGeneralized.f (k : Nat) (a0_0 : Int) (a0_1 : Int) (a0_2 : Int) (a0_3 : Int) (a0_4 : Int) (a0_5 : Int) (a0_6 : Int) (a0_7 : Int) : Option (List Int) := (spec_two.f ([] : List Int) (wrap64 (Int.tdiv a0_0 100))).bind fun t217 => ((spec_two.f t217 (Int.tmod a0_0 100)).bind fun t220 => ((spec_Clock_behind.f k a0_0 a0_1 a0_2 a0_3 a0_4 a0_5 a0_6 a0_7 t220).bind fun t223 => (some t223)))
theorem spec_PutGeneralized.mono : ∀ a0 a1 a2 a3 a4 a5 a6 a7 k, LeO (spec_PutGeneralized.f k a0 a1 a2 a3 a4 a5 a6 a7) (spec_PutGeneralized.f (k + 1) a0 a1 a2 a3 a4 a5 a6 a7) := by
  intro a0 a1 a2 a3 a4 a5 a6 a7 k
  unfold spec_PutGeneralized.f
  repeat' first
      | (with_reducible exact spec_Clock_behind.mono _ _ _ _ _ _ _ _ _ _)
      | (with_reducible exact LeO.refl _)
      | (with_reducible exact LeO.none _)
      | (with_reducible refine LeO.ite ?_ ?_)
      | (with_reducible refine LeO.bind ?_ (fun _ => ?_))
      | exact spec_Clock_behind.mono _ _ _ _ _ _ _ _ _ _
      | exact LeO.none _
      | refine LeO.ite ?_ ?_
      | refine LeO.bind ?_ (fun _ => ?_)
def spec_PutGeneralized.T1 : Bool × List (List Nat × List Nat) := (true, [([], []), ([], []), ([1], [1]), ([2], [2]), ([3], [3]), ([], []), ([5], [5]), ([6], [6]), ([4, 7, 4], [4, 7]), ([0, 8, 8], [0, 8]), ([9, 9, 0, 1, 2, 3, 4, 5, 6, 7, 8, 9], [9])])
def spec_PutGeneralized.B1 : List Nat := [0, 0, 2, 6, 14, 0, 32, 96, 254, 511, 1023]
theorem spec_PutGeneralized.tab1 : rtab .any (opsOf Try.f34 1) = spec_PutGeneralized.T1 := by kernel_rfl
theorem spec_PutGeneralized.bits1 : waitsOk spec_PutGeneralized.T1.2 spec_PutGeneralized.B1 = true := by kernel_rfl
set_option maxHeartbeats 8000000 in
set_option maxRecDepth 100000 in
theorem spec_PutGeneralized.calls (k : Nat) (a0_0 : Int) (a0_1 : Int) (a0_2 : Int) (a0_3 : Int) (a0_4 : Int) (a0_5 : Int) (a0_6 : Int) (a0_7 : Int) (r : List Int) (w : World) (h : spec_PutGeneralized.f k a0_0 a0_1 a0_2 a0_3 a0_4 a0_5 a0_6 a0_7 = some r) :
    Calls Try.prog 34 #[.agg #[.int .i64 a0_0, .int .i64 a0_1, .int .i64 a0_2, .int .i64 a0_3, .int .i64 a0_4, .int .i64 a0_5, .int .i64 a0_6, .int .i64 a0_7]] w fun e w' => ∃ v0_ : Value, e = .returned (v0_) ∧ Kd.R (Kd.int .u8) 5 w' w.heap.size (fun _ => True) v0_ r ∧ Below w.heap.size w w' := by
  have hu44 := Try.underlying44
  have HB := Aside0.mk (Below.refl w.heap.size w)
  have H : ((spec_two.f ([] : List Int) (wrap64 (Int.tdiv a0_0 100))).bind fun t217 => ((spec_two.f t217 (Int.tmod a0_0 100)).bind fun t220 => ((spec_Clock_behind.f k a0_0 a0_1 a0_2 a0_3 a0_4 a0_5 a0_6 a0_7 t220).bind fun t223 => (some t223)))) = some r := h
  clear h
  replace H := Option.bind_eq_some_iff.mp H
  obtain ⟨t217, A20, H⟩ := H
  replace H : ((spec_two.f t217 (Int.tmod a0_0 100)).bind fun t220 => ((spec_Clock_behind.f k a0_0 a0_1 a0_2 a0_3 a0_4 a0_5 a0_6 a0_7 t220).bind fun t223 => (some t223))) = some r := H
  have A2 := Aside0.mk A20
  clear A20
  replace H := Option.bind_eq_some_iff.mp H
  obtain ⟨t220, A30, H⟩ := H
  replace H : ((spec_Clock_behind.f k a0_0 a0_1 a0_2 a0_3 a0_4 a0_5 a0_6 a0_7 t220).bind fun t223 => (some t223)) = some r := H
  have A3 := Aside0.mk A30
  clear A30
  replace H := Option.bind_eq_some_iff.mp H
  obtain ⟨t223, A40, H⟩ := H
  replace H : (some t223) = some r := H
  have A4 := Aside0.mk A40
  clear A40
  obtain rfl := Option.some.inj H
  go_enter Try.func34, Try.ntmps34
  try go_wp2_with (first | ((with_reducible refine gate_dst (N := 1) rfl ?_); refine box_event ?hg (N := 1) ?hd (cs := #[.int .i64 a0_0, .int .i64 a0_1, .int .i64 a0_2, .int .i64 a0_3, .int .i64 a0_4, .int .i64 a0_5, .int .i64 a0_6, .int .i64 a0_7]) (t := 44) ?hr ?_; (case hd => rfl); (case hg => rfl); (case hr => first | (go_simp; done) | (go_simp; rfl)); intro gb216 hg w5 hbox hb; have n0_ := Aside0.mk (below_step (by repeat (first | (with_reducible first | exact HB.out | apply below_alloc | apply pw_below_drewN | apply below_drew1) | exact HB.out)) hb); have n1_ := Aside0.mk (hbox); have n2_ := Aside0.mk ((by rw [hg]; exact (below_size (by repeat (first | (with_reducible first | exact HB.out | apply below_alloc | apply pw_below_drewN | apply below_drew1) | exact HB.out))) : w.heap.size ≤ gb216)); have n3_ := Aside0.mk ((by rw [hg]; exact (below_size (by repeat (first | (with_reducible first | exact HB.out | apply below_alloc | apply pw_below_drewN | apply below_drew1) | exact HB.out))) : w.heap.size ≤ gb216)); clear HB; have HB := n0_; have BK216 := n1_; have GW216 := n2_; have GE216 := n3_; clear n0_ n1_ n2_ n3_; clear hb hbox hg))
  have n0_ := Aside0.mk (blk_drew BK216.out)
  have n1_ := Aside0.mk (below_drew1 HB.out)
  clear BK216
  clear HB
  have BK216 := n0_
  have HB := n1_
  clear n0_ n1_
  refine start_ (n := 11) (S := fun w' => w'.cell? ⟨gb216, 0, none⟩ = some (.int .i64 a0_0) ∧ w'.cell? ⟨gb216, 1, none⟩ = some (.int .i64 a0_1) ∧ w'.cell? ⟨gb216, 2, none⟩ = some (.int .i64 a0_2) ∧ w'.cell? ⟨gb216, 3, none⟩ = some (.int .i64 a0_3) ∧ w'.cell? ⟨gb216, 4, none⟩ = some (.int .i64 a0_4) ∧ w'.cell? ⟨gb216, 5, none⟩ = some (.int .i64 a0_5) ∧ w'.cell? ⟨gb216, 6, none⟩ = some (.int .i64 a0_6) ∧ w'.cell? ⟨gb216, 7, none⟩ = some (.int .i64 a0_7)) (ds := []) #[false, false, false, false, false, false, false, false, false, false, false] (by kernel_rfl) rfl rfl ⟨(blk_cell BK216.out 0).trans rfl, (blk_cell BK216.out 1).trans rfl, (blk_cell BK216.out 2).trans rfl, (blk_cell BK216.out 3).trans rfl, (blk_cell BK216.out 4).trans rfl, (blk_cell BK216.out 5).trans rfl, (blk_cell BK216.out 6).trans rfl, (blk_cell BK216.out 7).trans rfl⟩ (fun hHeld => ?_); refine with_tabW spec_PutGeneralized.tab1 spec_PutGeneralized.bits1 (fun HT_ HW_ => ?_)
  generalize w5.drew = w6 at BK216 HB hHeld ⊢
  refine pure_ (i := 1) (N := some 4) (v := ?_) (a' := ?_) #[false, true, false, false, false, false, false, false, false, false, false] rfl rfl (any_of HT_.out (by kernel_rfl)) (fun _ _ _ h => h) (Or.inl ⟨by rfl, ?_⟩) ?_ ?_
  rotate_left
  · intro w'
    go_simp
    with_reducible rfl
  rotate_left
  · simp only [Act.put, List.setIfInBounds_toArray, List.set_cons_zero, List.set_cons_succ, i64_w, i32_w]
    rfl
  refine pure_ (i := 5) (N := some 8) (v := ?_) (a' := ?_) #[false, true, false, false, false, true, false, false, false, false, false] rfl rfl (any_of HT_.out (by kernel_rfl)) (fun _ _ _ h => h) (Or.inl ⟨by rfl, ?_⟩) ?_ ?_
  rotate_left
  · intro w'
    go_simp
    with_reducible rfl
  rotate_left
  · simp only [Act.put, List.setIfInBounds_toArray, List.set_cons_zero, List.set_cons_succ, i64_w, i32_w]
    rfl
  refine take_ (i := 0) (N := some 3) (v := ?_) (a' := ?_) #[true, true, false, false, false, true, false, false, false, false, false] rfl rfl (take_ofW HT_.out HW_.out (by kernel_rfl)) (fun _ _ _ h => h) (Or.inl ⟨by rfl, ?_⟩) hHeld ?_ ?_
  rotate_left
  · rintro w' ⟨s0, s1, s2, s3, s4, s5, s6, s7⟩
    go_simp
    with_reducible rfl
  rotate_left
  · simp only [Act.put, List.setIfInBounds_toArray, List.set_cons_zero, List.set_cons_succ, i64_w, i32_w]
    rfl
  refine take_ (i := 2) (N := some 5) (v := ?_) (a' := ?_) #[true, true, true, false, false, true, false, false, false, false, false] rfl rfl (take_ofW HT_.out HW_.out (by kernel_rfl)) (fun _ _ _ h => h) (Or.inl ⟨by rfl, ?_⟩) hHeld ?_ ?_
  rotate_left
  · rintro w' ⟨s0, s1, s2, s3, s4, s5, s6, s7⟩
    go_simp
    with_reducible rfl
  rotate_left
  · simp only [Act.put, List.setIfInBounds_toArray, List.set_cons_zero, List.set_cons_succ, i64_w, i32_w]
    rfl
  refine pure_ (i := 3) (N := some 6) (v := ?_) (a' := ?_) #[true, true, true, true, false, true, false, false, false, false, false] rfl rfl (any_of HT_.out (by kernel_rfl)) (fun _ _ _ h => h) (Or.inl ⟨by rfl, ?_⟩) ?_ ?_
  rotate_left
  · intro w'
    go_simp
    with_reducible rfl
  rotate_left
  · simp only [Act.put, List.setIfInBounds_toArray, List.set_cons_zero, List.set_cons_succ, i64_w, i32_w]
    rfl
  refine take_ (i := 6) (N := some 9) (v := ?_) (a' := ?_) #[true, true, true, true, false, true, true, false, false, false, false] rfl rfl (take_ofW HT_.out HW_.out (by kernel_rfl)) (fun _ _ _ h => h) (Or.inl ⟨by rfl, ?_⟩) hHeld ?_ ?_
  rotate_left
  · rintro w' ⟨s0, s1, s2, s3, s4, s5, s6, s7⟩
    go_simp
    with_reducible rfl
  rotate_left
  · simp only [Act.put, List.setIfInBounds_toArray, List.set_cons_zero, List.set_cons_succ, i64_w, i32_w]
    rfl
  refine pure_ (i := 7) (N := some 10) (v := ?_) (a' := ?_) #[true, true, true, true, false, true, true, true, false, false, false] rfl rfl (any_of HT_.out (by kernel_rfl)) (fun _ _ _ h => h) (Or.inl ⟨by rfl, ?_⟩) ?_ ?_
  rotate_left
  · intro w'
    go_simp
    with_reducible rfl
  rotate_left
  · simp only [Act.put, List.setIfInBounds_toArray, List.set_cons_zero, List.set_cons_succ, i64_w, i32_w]
    rfl
  refine one_ (i := 4) (N := some 7) #[true, true, true, true, true, true, true, true, false, false, false] rfl rfl (one_of HT_.out (by kernel_rfl)) (by decide) (fun K hK => ?_)
  refine goes_ Try.func63 (by kernel_rfl) rfl #[.slice none 0 0, .int .i64 (wrap64 (Int.tdiv a0_0 100))] (by rfl) rfl rfl (by (try simp only [List.map_toArray, List.map_cons, List.map_nil]); first | done | rfl | (simp only [List.length_drop, List.length_take]; rfl)) ?_
  refine (spec_two.calls (fun k_ => some k_ = (.slice none 0 0 : Value).ownBlock) (.slice none 0 0) ([] : List Int) (wrap64 (Int.tdiv a0_0 100)) t217 w _ ?side1 ?side2 A2.out).mono ?_
  (case side1 => repeat (first | (with_reducible first | exact HB.out | apply below_alloc | apply pw_below_drewN | apply below_drew1 | refine below_set ?_ GE216.out) | exact HB.out))
  (case side2 => exact Kd.R_nil _ _ _ _ _)
  rintro e w7 ⟨v218, rfl, ho0, hb, hkp⟩
  refine ⟨_, rfl, ?_⟩
  have n0_ := Aside0.mk (blk_kept (by (with_reducible repeat (first | refine blk_drewN ?_ _ | refine blk_drew ?_ | refine blk_alloc ?_ _)); exact BK216.out) hkp (fun hs_ => (fun e_ => by simp [Value.ownBlock] at e_) hs_))
  have n1_ := Aside0.mk (Kd.R_mono (ok' := fun k_ => True) ho0 (fun k_ hk_ => trivial))
  have n2_ := Aside0.mk (hb)
  clear BK216
  clear HB
  have BK216 := n0_
  have HO219 := n1_
  have HB := n2_
  clear n0_ n1_ n2_
  (try clear hb)
  (try clear hkp)
  (try clear ho0)
  obtain ⟨Ao8, co8, eo8⟩ := Kd.R_slice HO219.out
  (first | subst eo8 | (injection eo8 with f1_ f2_ f3_; have f4_ := f1_.symm; have f5_ := f3_.symm; clear f1_ f2_ f3_; subst f4_; subst f5_))
  refine hK.out _ _ ⟨(blk_cell BK216.out 0).trans rfl, (blk_cell BK216.out 1).trans rfl, (blk_cell BK216.out 2).trans rfl, (blk_cell BK216.out 3).trans rfl, (blk_cell BK216.out 4).trans rfl, (blk_cell BK216.out 5).trans rfl, (blk_cell BK216.out 6).trans rfl, (blk_cell BK216.out 7).trans rfl⟩ (fun hHeld => ?_)
  clear hK K
  refine norm_ (a' := ?_) ?_ ?_
  rotate_left
  · show Act.put _ (some 7) _ = _
    simp only [Act.put, List.setIfInBounds_toArray, List.set_cons_zero, List.set_cons_succ, i64_w, i32_w]
    rfl
  refine one_ (i := 8) (N := some 11) #[true, true, true, true, true, true, true, true, true, false, false] rfl rfl (one_of HT_.out (by kernel_rfl)) (by decide) (fun K hK => ?_)
  refine goes_ Try.func63 (by kernel_rfl) rfl #[.slice Ao8 t217.length co8, .int .i64 (Int.tmod a0_0 100)] (by rfl) rfl rfl (by (try simp only [List.map_toArray, List.map_cons, List.map_nil]); first | done | rfl | (simp only [List.length_drop, List.length_take]; rfl)) ?_
  with_reducible refine (spec_two.calls (fun k_ => some k_ = (.slice Ao8 t217.length co8 : Value).ownBlock) (.slice Ao8 t217.length co8) t217 (Int.tmod a0_0 100) t220 w _ ?side1 ?side2 A3.out).mono ?_
  (case side1 => repeat (first | (with_reducible first | exact HB.out | apply below_alloc | apply pw_below_drewN | apply below_drew1 | refine below_set ?_ GE216.out) | exact HB.out))
  (case side2 => exact Kd.R_tight rfl HO219.out)
  rintro e w9 ⟨v221, rfl, ho0, hb, hkp⟩
  refine ⟨_, rfl, ?_⟩
  have n0_ := Aside0.mk (blk_kept (by (with_reducible repeat (first | refine blk_drewN ?_ _ | refine blk_drew ?_ | refine blk_alloc ?_ _)); exact BK216.out) hkp (fun hs_ => (fun e_ => (Kd.R_ne HO219.out BK216.out (by decide)) e_) hs_))
  have n1_ := Aside0.mk (Kd.R_mono (ok' := fun k_ => True) ho0 (fun k_ hk_ => trivial))
  have n2_ := Aside0.mk (hb)
  clear BK216
  clear HB
  clear HO219
  have BK216 := n0_
  have HO222 := n1_
  have HB := n2_
  clear n0_ n1_ n2_
  (try clear hb)
  (try clear hkp)
  (try clear ho0)
  obtain ⟨Ao10, co10, eo10⟩ := Kd.R_slice HO222.out
  (first | subst eo10 | (injection eo10 with f1_ f2_ f3_; have f4_ := f1_.symm; have f5_ := f3_.symm; clear f1_ f2_ f3_; subst f4_; subst f5_))
  refine hK.out _ _ ⟨(blk_cell BK216.out 0).trans rfl, (blk_cell BK216.out 1).trans rfl, (blk_cell BK216.out 2).trans rfl, (blk_cell BK216.out 3).trans rfl, (blk_cell BK216.out 4).trans rfl, (blk_cell BK216.out 5).trans rfl, (blk_cell BK216.out 6).trans rfl, (blk_cell BK216.out 7).trans rfl⟩ (fun hHeld => ?_)
  clear hK K
  refine norm_ (a' := ?_) ?_ ?_
  rotate_left
  · show Act.put _ (some 11) _ = _
    simp only [Act.put, List.setIfInBounds_toArray, List.set_cons_zero, List.set_cons_succ, i64_w, i32_w]
    rfl
  refine one_ (i := 9) (N := some 12) #[true, true, true, true, true, true, true, true, true, true, false] rfl rfl (one_of HT_.out (by kernel_rfl)) (by decide) (fun K hK => ?_)
  refine goes_ Try.func62 (by kernel_rfl) rfl #[.agg #[.int .i64 a0_0, .int .i64 a0_1, .int .i64 a0_2, .int .i64 a0_3, .int .i64 a0_4, .int .i64 a0_5, .int .i64 a0_6, .int .i64 a0_7], .slice Ao10 t220.length co10] (by rfl) rfl rfl (by (try simp only [List.map_toArray, List.map_cons, List.map_nil]); first | done | rfl | (simp only [List.length_drop, List.length_take]; rfl)) ?_
  with_reducible refine (spec_Clock_behind.calls k a0_0 a0_1 a0_2 a0_3 a0_4 a0_5 a0_6 a0_7 (fun k_ => some k_ = (.slice Ao10 t220.length co10 : Value).ownBlock) (.slice Ao10 t220.length co10) t220 t223 w _ ?side1 ?side2 A4.out).mono ?_
  (case side1 => repeat (first | (with_reducible first | exact HB.out | apply below_alloc | apply pw_below_drewN | apply below_drew1 | refine below_set ?_ GE216.out) | exact HB.out))
  (case side2 => exact Kd.R_tight rfl HO222.out)
  rintro e w11 ⟨v224, rfl, ho0, hb, hkp⟩
  refine ⟨_, rfl, ?_⟩
  have n0_ := Aside0.mk (blk_kept (by (with_reducible repeat (first | refine blk_drewN ?_ _ | refine blk_drew ?_ | refine blk_alloc ?_ _)); exact BK216.out) hkp (fun hs_ => (fun e_ => (Kd.R_ne HO222.out BK216.out (by decide)) e_) hs_))
  have n1_ := Aside0.mk (Kd.R_mono (ok' := fun k_ => True) ho0 (fun k_ hk_ => trivial))
  have n2_ := Aside0.mk (hb)
  clear BK216
  clear HB
  clear HO222
  have BK216 := n0_
  have HO225 := n1_
  have HB := n2_
  clear n0_ n1_ n2_
  (try clear hb)
  (try clear hkp)
  (try clear ho0)
  refine hK.out _ _ ⟨(blk_cell BK216.out 0).trans rfl, (blk_cell BK216.out 1).trans rfl, (blk_cell BK216.out 2).trans rfl, (blk_cell BK216.out 3).trans rfl, (blk_cell BK216.out 4).trans rfl, (blk_cell BK216.out 5).trans rfl, (blk_cell BK216.out 6).trans rfl, (blk_cell BK216.out 7).trans rfl⟩ (fun hHeld => ?_)
  clear hK K
  refine norm_ (a' := ?_) ?_ ?_
  rotate_left
  · show Act.put _ (some 12) _ = _
    simp only [Act.put, List.setIfInBounds_toArray, List.set_cons_zero, List.set_cons_succ, i64_w, i32_w]
    rfl
  refine pure_ (i := 10) (N := some 2) (v := ?_) (a' := ?_) #[true, true, true, true, true, true, true, true, true, true, true] rfl rfl (any_of HT_.out (by kernel_rfl)) (fun _ _ _ h => h) (Or.inl ⟨by rfl, ?_⟩) ?_ ?_
  rotate_left
  · intro w'
    go_simp
    with_reducible rfl
  rotate_left
  · simp only [Act.put, List.setIfInBounds_toArray, List.set_cons_zero, List.set_cons_succ, i64_w, i32_w]
    rfl
  refine done_ (done_of HT_.out (by kernel_rfl)) ?_
  try go_wp2
  go_ret
  exact ⟨_, by first | rfl | (simp [errW_none, errW_some] <;> rfl) | (simp [*, errW_none, errW_some] <;> rfl), by (with_reducible repeat (first | apply Kd.R_alloc | apply Kd.R_drewN | apply Kd.R_drew)); exact HO225.out, by repeat (first | (with_reducible first | exact HB.out | apply below_alloc | apply pw_below_drewN | apply below_drew1 | refine below_set ?_ GE216.out) | exact HB.out)⟩

end Go.Proofs.Ytmiemfgcggkbnaa.QP2
