-- Written by a program of this work (wip/patch_print.py) for this claim.
import Derived.Test.YtapnkngcnlomhaaQHx0
import Derived.Test.YtapnkngcnlomhaaQHx1
import Derived.Test.YtapnkngcnlomhaaQHx5
import Derived.Test.YtapnkngcnlomhaaQHx7
namespace Go.Proofs.Ytapnkngcnlomhaa.QH
open Go.RowKit Go.Proofs.YtapnkngcnlomhaaW.PrintWords Go.Proofs.YtapnkngcnlomhaaW.PrintLast Go.Proofs.YtapnkngcnlomhaaW.PrintMore
attribute [local go_sem] max2_int min2_int max_two min_two max_three min_three max_four min_four   -- for this text's walks alone
set_option linter.unusedVariables false
set_option linter.unusedSimpArgs false

attribute [local go_sem high] eqA41
def slices_Clone_byte_byte.f (l0 : List Int) : Option (List Int) := if l0.length < 140737488355328 then some l0 else none
set_option maxHeartbeats 8000000 in
set_option maxRecDepth 100000 in
theorem slices_Clone_byte_byte.calls (A0 : Option Addr) (c0 : Nat) (l0 : List Int) (r : List Int) (w : World) (hr0 : Kd.C (Kd.int .u8) w A0 l0.length l0) (hc0 : l0.length ≤ c0) (h : slices_Clone_byte_byte.f l0 = some r) :
    Calls Try.prog 34 #[.slice A0 l0.length c0] w fun e w' => ∃ v0_ : Value, e = .returned (v0_) ∧ Kd.R (Kd.int .u8) 5 w' w.heap.size (fun _ => True) v0_ r ∧ Below w.heap.size w w' := by
  unfold slices_Clone_byte_byte.f at h
  by_cases hl : l0.length < 140737488355328
  · rw [if_pos hl] at h
    obtain rfl := Option.some.inj h
    clear h
    have HL := Aside0.mk hl
    have HR0 := Aside0.mk hr0
    have HC0 := Aside0.mk hc0
    have HB := Aside0.mk (Below.refl w.heap.size w)
    clear hl hr0 hc0
    cases A0 with
    | none =>
      have e0 : l0 = [] := by
        rcases Nat.eq_zero_or_pos l0.length with h0 | h0
        · exact List.eq_nil_of_length_eq_zero h0
        · obtain ⟨ad, e, _⟩ := Kd.at_int HR0.out 0 (by omega) (by omega)
          cases e
      subst e0
      have he := fun w => Lib.run_eql_slice_nil (P := Try.prog) w 22 5 none 0 c0 0 0 Try.underlying22
      go_enter Try.func34, Try.ntmps34
      go_wp2
      go_ret
      exact ⟨_, rfl, Kd.R_nil _ _ _ _ _, HB.out⟩
    | some ad =>
      have he := fun w => Lib.run_eql_slice_nil (P := Try.prog) w 22 5 (some ad) l0.length c0 0 0 Try.underlying22
      go_enter Try.func34, Try.ntmps34
      go_wp2_with (first | ((with_reducible refine gate_dst (N := 5) rfl ?_); refine Kd.R_lit (Kd.int .u8) _ 5 ?hg (N := 5) ?hd (xs := ([] : List Int)) (inner := []) (ok := fun _ => True) (okp := fun _ => True) ?hr ?hp (fun _ hk => hk) trivial (Below.refl _ _) (Nat.le_refl _) (by simp) ?_; (case hd => rfl); (case hg => rfl); (case hr => first | (go_simp; done) | (go_simp; rfl)); (case hp => exact Reps.none _ _); intro v1 w2 ho hb hg_ hnew_; have HO1 := Aside0.mk ho; have HB2 := Aside0.mk (below_step HB.out hb); clear ho hb hg_ hnew_) | ((with_reducible refine gate_builtin (b := .append) (xs := #[.tmp 5, .tmp 6]) rfl ?_); at_builtin; refine Kd.R_append_rows (Kd.int .u8) (w0 := w) w.heap.size rfl (.tmp 5) (.tmp 6) 22 5 (.int .u8 0) 1 rfl Try.underlying22 info5 rfl (by decide) (by omega) v1 ([] : List Int) l0 _ _ _ (fun _ => True) (fun _ => False) rfl rfl ?aO ?aR (fun _ _ h => h) (fun _ h => h.elim) ?aF ?aB ?aS ?aL ?_; (case aR => exact Kd.C_below HR0.out HB2.out); (case aB => exact HB2.out); (case aF => exact (fun _ _ => trivial)); (case aO => exact Kd.R_lower HO1.out (by first | exact Nat.le_refl _ | exact HB.out.size)); (case aS => exact HB2.out.size); (case aL => have := HL.out; simp; omega); intro v2 w3 ho hb hg hat; have HO3 := Aside0.mk ho; have HB3 := Aside0.mk hb; clear ho hb hg hat))
      go_ret
      exact ⟨_, rfl, by simpa using HO3.out, HB3.out⟩
  · rw [if_neg hl] at h
    cases h

/-! ### laws_FnHeaderBack: function 13 -/
def laws_FnHeaderBack.j0 : Nat → List Int → Bool → Int → Int → Int → Bool → Option (Bool)
  | 0, _, _, _, _, _, _ => none
  | k + 1, x0, x44, x217000, x217001, x217002, x217003 => if x44 = true then (some true) else ((slices_Clone_byte_byte.f x0).bind fun t217 => ((impl_PutHeader.f k x217000 x217001 x217002 x217003).bind fun t220 => (if t217.length + t220.length < 140737488355328 then ((some (t217 ++ t220 : List Int)).bind fun y223 => ((impl_ReadHeader.f k y223 (x0.length : Int)).bind fun bt226 => (if bt226.2.2.2.2.2 = true then (if (bt226.1 == x217000 && (bt226.2.1 == x217001 && (bt226.2.2.1 == x217002 && (bt226.2.2.2.1 == x217003)))) = true then (some (bt226.2.2.2.2.1 == (y223.length : Int))) else (some false)) else (some false)))) else (none))))
def laws_FnHeaderBack.f (k : Nat) (l0 : List Int) (a1_0 : Int) (a1_1 : Int) (a1_2 : Int) (a1_3 : Bool) : Option (Bool) := if (l0.length : Int) > 2147483647 then (some true) else (if (l0.length : Int) > 50 then (laws_FnHeaderBack.j0 k l0 true a1_0 a1_1 a1_2 a1_3) else (if a1_0 < 0 then (laws_FnHeaderBack.j0 k l0 true a1_0 a1_1 a1_2 a1_3) else (if a1_0 > 3 then (laws_FnHeaderBack.j0 k l0 true a1_0 a1_1 a1_2 a1_3) else (if a1_1 < 0 then (laws_FnHeaderBack.j0 k l0 true a1_0 a1_1 a1_2 a1_3) else (if a1_1 > 2147483647 then (laws_FnHeaderBack.j0 k l0 true a1_0 a1_1 a1_2 a1_3) else (if a1_2 < 0 then (laws_FnHeaderBack.j0 k l0 true a1_0 a1_1 a1_2 a1_3) else (laws_FnHeaderBack.j0 k l0 (decide (a1_2 > 2147483647)) a1_0 a1_1 a1_2 a1_3)))))))
theorem laws_FnHeaderBack.mono_l : ∀ k, (∀ y0 y1 y2 y3 y4 y5, LeO (laws_FnHeaderBack.j0 k y0 y1 y2 y3 y4 y5) (laws_FnHeaderBack.j0 (k + 1) y0 y1 y2 y3 y4 y5))
  | 0 => fun _ _ _ _ _ _ r h => by simp [laws_FnHeaderBack.j0] at h
  | k + 1 => by
    have ih0 := laws_FnHeaderBack.mono_l k
    · intro y0 y1 y2 y3 y4 y5
      unfold laws_FnHeaderBack.j0
      repeat' first
      | (with_reducible exact ih0 _ _ _ _ _ _)
      | (with_reducible exact impl_PutHeader.mono _ _ _ _ _)
      | (with_reducible exact impl_ReadHeader.mono _ _ _)
      | (with_reducible exact LeO.refl _)
      | (with_reducible exact LeO.none _)
      | (with_reducible refine LeO.ite ?_ ?_)
      | (with_reducible refine LeO.bind ?_ (fun _ => ?_))
      | exact ih0 _ _ _ _ _ _
      | exact impl_PutHeader.mono _ _ _ _ _
      | exact impl_ReadHeader.mono _ _ _
      | exact LeO.none _
      | refine LeO.ite ?_ ?_
      | refine LeO.bind ?_ (fun _ => ?_)
theorem laws_FnHeaderBack.mono : ∀ a0 a1 a2 a3 a4 k, LeO (laws_FnHeaderBack.f k a0 a1 a2 a3 a4) (laws_FnHeaderBack.f (k + 1) a0 a1 a2 a3 a4) := by
  intro a0 a1 a2 a3 a4 k
  have ih0 := laws_FnHeaderBack.mono_l k
  unfold laws_FnHeaderBack.f
  repeat' first
      | (with_reducible exact ih0 _ _ _ _ _ _)
      | (with_reducible exact impl_PutHeader.mono _ _ _ _ _)
      | (with_reducible exact impl_ReadHeader.mono _ _ _)
      | (with_reducible exact LeO.refl _)
      | (with_reducible exact LeO.none _)
      | (with_reducible refine LeO.ite ?_ ?_)
      | (with_reducible refine LeO.bind ?_ (fun _ => ?_))
      | exact ih0 _ _ _ _ _ _
      | exact impl_PutHeader.mono _ _ _ _ _
      | exact impl_ReadHeader.mono _ _ _
      | exact LeO.none _
      | refine LeO.ite ?_ ?_
      | refine LeO.bind ?_ (fun _ => ?_)
set_option maxHeartbeats 8000000 in
set_option maxRecDepth 100000 in
theorem laws_FnHeaderBack.calls (k : Nat) (A0 : Option Addr) (c0 : Nat) (l0 : List Int) (a1_0 : Int) (a1_1 : Int) (a1_2 : Int) (a1_3 : Bool) (r : Bool) (w : World) (hr0 : Kd.C (Kd.int .u8) w A0 l0.length l0) (hc0 : l0.length ≤ c0) (h : laws_FnHeaderBack.f k l0 a1_0 a1_1 a1_2 a1_3 = some r) :
    Calls Try.prog 13 #[.slice A0 l0.length c0, .agg #[.int .i64 a1_0, .int .i64 a1_1, .int .i64 a1_2, .bool a1_3]] w fun e w' => e = .returned (.bool r) ∧ Below w.heap.size w w' := by
  have hu41 := Try.underlying41
  have HR0 := Aside0.mk hr0
  have HC0 := Aside0.mk hc0
  clear hr0 hc0
  have HB := Aside0.mk (Below.refl w.heap.size w)
  have H : (if (l0.length : Int) > 2147483647 then (some true) else (if (l0.length : Int) > 50 then (laws_FnHeaderBack.j0 k l0 true a1_0 a1_1 a1_2 a1_3) else (if a1_0 < 0 then (laws_FnHeaderBack.j0 k l0 true a1_0 a1_1 a1_2 a1_3) else (if a1_0 > 3 then (laws_FnHeaderBack.j0 k l0 true a1_0 a1_1 a1_2 a1_3) else (if a1_1 < 0 then (laws_FnHeaderBack.j0 k l0 true a1_0 a1_1 a1_2 a1_3) else (if a1_1 > 2147483647 then (laws_FnHeaderBack.j0 k l0 true a1_0 a1_1 a1_2 a1_3) else (if a1_2 < 0 then (laws_FnHeaderBack.j0 k l0 true a1_0 a1_1 a1_2 a1_3) else (laws_FnHeaderBack.j0 k l0 (decide (a1_2 > 2147483647)) a1_0 a1_1 a1_2 a1_3)))))))) = some r := h
  clear h
  by_cases c3 : (l0.length : Int) > 2147483647
  · rw [if_pos c3] at H
    have c3b0 : decide (2147483647 < (l0.length : Int)) = true := decide_eq_true c3
    have c3b1 : decide (2147483647 < l0.length) = true := decide_eq_true (by omega)
    clear c3
    obtain rfl := Option.some.inj H
    go_enter Try.func13, Try.ntmps13
    go_wp2_with (first | ((with_reducible refine gate_dst (N := 3) rfl ?_); (try (refine gate_guard (by rfl) ?_; dsimp only)); refine box_event ?hg (N := 3) ?hd (cs := #[.int .i64 a1_0, .int .i64 a1_1, .int .i64 a1_2, .bool a1_3]) (t := 41) ?hr ?_; (case hd => rfl); (case hg => rfl); (case hr => first | (go_simp; done) | (go_simp; rfl)); intro gb216 hg w4 hbox hb; have n0_ := Aside0.mk (below_step (by repeat (first | (with_reducible first | exact HB.out | apply below_alloc | apply pw_below_drewN | apply below_drew1) | exact HB.out)) hb); have n1_ := Aside0.mk (hbox); have n2_ := Aside0.mk ((by rw [hg]; exact (below_size (by repeat (first | (with_reducible first | exact HB.out | apply below_alloc | apply pw_below_drewN | apply below_drew1) | exact HB.out))) : w.heap.size ≤ gb216)); have n3_ := Aside0.mk ((by rw [hg]; exact (below_size (by repeat (first | (with_reducible first | exact HB.out | apply below_alloc | apply pw_below_drewN | apply below_drew1) | exact HB.out))) : w.heap.size ≤ gb216)); clear HB; have HB := n0_; have BK216 := n1_; have GW216 := n2_; have GE216 := n3_; clear n0_ n1_ n2_ n3_; clear hb hbox hg))
    go_ret
    exact ⟨by first | rfl | (simp [errW_none, errW_some] <;> rfl) | (simp [*, errW_none, errW_some] <;> rfl), by repeat (first | (with_reducible first | exact HB.out | apply below_alloc | apply pw_below_drewN | apply below_drew1 | refine below_set ?_ GE216.out) | exact HB.out)⟩
  · rw [if_neg c3] at H
    have c3b0 : decide (2147483647 < (l0.length : Int)) = false := decide_eq_false c3
    have c3b1 : decide (2147483647 < l0.length) = false := decide_eq_false (by omega)
    clear c3
    have HC5 := Aside0.mk H
    clear H
    go_enter Try.func13, Try.ntmps13
    go_upto_region 3 with (first | ((with_reducible refine gate_dst (N := 3) rfl ?_); (try (refine gate_guard (by rfl) ?_; dsimp only)); refine box_event ?hg (N := 3) ?hd (cs := #[.int .i64 a1_0, .int .i64 a1_1, .int .i64 a1_2, .bool a1_3]) (t := 41) ?hr ?_; (case hd => rfl); (case hg => rfl); (case hr => first | (go_simp; done) | (go_simp; rfl)); intro gb216 hg w6 hbox hb; have n0_ := Aside0.mk (below_step (by repeat (first | (with_reducible first | exact HB.out | apply below_alloc | apply pw_below_drewN | apply below_drew1) | exact HB.out)) hb); have n1_ := Aside0.mk (hbox); have n2_ := Aside0.mk ((by rw [hg]; exact (below_size (by repeat (first | (with_reducible first | exact HB.out | apply below_alloc | apply pw_below_drewN | apply below_drew1) | exact HB.out))) : w.heap.size ≤ gb216)); have n3_ := Aside0.mk ((by rw [hg]; exact (below_size (by repeat (first | (with_reducible first | exact HB.out | apply below_alloc | apply pw_below_drewN | apply below_drew1) | exact HB.out))) : w.heap.size ≤ gb216)); clear HB; have HB := n0_; have BK216 := n1_; have GW216 := n2_; have GE216 := n3_; clear n0_ n1_ n2_ n3_; clear hb hbox hg))
    (try simp only [Act.put, List.setIfInBounds_toArray, List.set_cons_zero, List.set_cons_succ])
    go_cut [44] (fun v44 wc => ∃ (kq : Nat) (x44_4 : Bool), v44 = .bool x44_4 ∧ Aside0 (laws_FnHeaderBack.j0 kq l0 x44_4 a1_0 a1_1 a1_2 a1_3 = some r) ∧ Aside0 (kq ≤ k) ∧ Aside0 (wc.heap[gb216]? = some (.cells #[.int .i64 a1_0, .int .i64 a1_1, .int .i64 a1_2, .bool a1_3] 41 (0, 0))) ∧ Aside0 (Below w.heap.size w wc))
    case first =>
      have H := HC5.out
      clear HC5
      by_cases c7 : (l0.length : Int) > 50
      · rw [if_pos c7] at H
        have c7b0 : decide (50 < (l0.length : Int)) = true := decide_eq_true c7
        have c7b1 : decide (50 < l0.length) = true := decide_eq_true (by omega)
        clear c7
        (first | rw [c7b0] | (simp only [i64_w, i32_w]; rw [c7b0]) | skip)
        have H' := Aside0.mk H
        clear H
        go_wp2
        go_meet
        case rel => exact ⟨_, (true), (by first | rfl | (simp; done) | (simp [*]; done)), H', ⟨by first | omega | exact Nat.le_refl _⟩, ⟨by (with_reducible repeat (first | refine blk_drewN ?_ _ | refine blk_drew ?_ | refine blk_alloc ?_ _)); exact BK216.out⟩, ⟨by repeat (first | (with_reducible first | exact HB.out | apply below_alloc | apply pw_below_drewN | apply below_drew1 | refine below_set ?_ GE216.out) | exact HB.out)⟩⟩
      · rw [if_neg c7] at H
        have c7b0 : decide (50 < (l0.length : Int)) = false := decide_eq_false c7
        have c7b1 : decide (50 < l0.length) = false := decide_eq_false (by omega)
        clear c7
        (first | rw [c7b0] | (simp only [i64_w, i32_w]; rw [c7b0]) | skip)
        by_cases c8 : a1_0 < 0
        · rw [if_pos c8] at H
          have c8b0 : decide (a1_0 < 0) = true := decide_eq_true c8
          clear c8
          have H' := Aside0.mk H
          clear H
          have hcz9_0 : w6.cell? ⟨gb216, 0, none⟩ = some (.int .i64 a1_0) := (blk_cell BK216.out 0).trans rfl
          have hcz9_1 : w6.cell? ⟨gb216, 1, none⟩ = some (.int .i64 a1_1) := (blk_cell BK216.out 1).trans rfl
          have hcz9_2 : w6.cell? ⟨gb216, 2, none⟩ = some (.int .i64 a1_2) := (blk_cell BK216.out 2).trans rfl
          have hcz9_3 : w6.cell? ⟨gb216, 3, none⟩ = some (.bool a1_3) := (blk_cell BK216.out 3).trans rfl
          have hfz9_0 := blk_frozen BK216.out 0
          have hfz9_1 := blk_frozen BK216.out 1
          have hfz9_2 := blk_frozen BK216.out 2
          have hfz9_3 := blk_frozen BK216.out 3
          go_wp2
          go_meet
          case rel => exact ⟨_, (true), (by first | rfl | (simp; done) | (simp [*]; done)), H', ⟨by first | omega | exact Nat.le_refl _⟩, ⟨by (with_reducible repeat (first | refine blk_drewN ?_ _ | refine blk_drew ?_ | refine blk_alloc ?_ _)); exact BK216.out⟩, ⟨by repeat (first | (with_reducible first | exact HB.out | apply below_alloc | apply pw_below_drewN | apply below_drew1 | refine below_set ?_ GE216.out) | exact HB.out)⟩⟩
        · rw [if_neg c8] at H
          have c8b0 : decide (a1_0 < 0) = false := decide_eq_false c8
          clear c8
          by_cases c10 : a1_0 > 3
          · rw [if_pos c10] at H
            have c10b0 : decide (3 < a1_0) = true := decide_eq_true c10
            clear c10
            have H' := Aside0.mk H
            clear H
            have hcz11_0 : w6.cell? ⟨gb216, 0, none⟩ = some (.int .i64 a1_0) := (blk_cell BK216.out 0).trans rfl
            have hcz11_1 : w6.cell? ⟨gb216, 1, none⟩ = some (.int .i64 a1_1) := (blk_cell BK216.out 1).trans rfl
            have hcz11_2 : w6.cell? ⟨gb216, 2, none⟩ = some (.int .i64 a1_2) := (blk_cell BK216.out 2).trans rfl
            have hcz11_3 : w6.cell? ⟨gb216, 3, none⟩ = some (.bool a1_3) := (blk_cell BK216.out 3).trans rfl
            have hfz11_0 := blk_frozen BK216.out 0
            have hfz11_1 := blk_frozen BK216.out 1
            have hfz11_2 := blk_frozen BK216.out 2
            have hfz11_3 := blk_frozen BK216.out 3
            go_wp2
            go_meet
            case rel => exact ⟨_, (true), (by first | rfl | (simp; done) | (simp [*]; done)), H', ⟨by first | omega | exact Nat.le_refl _⟩, ⟨by (with_reducible repeat (first | refine blk_drewN ?_ _ | refine blk_drew ?_ | refine blk_alloc ?_ _)); exact BK216.out⟩, ⟨by repeat (first | (with_reducible first | exact HB.out | apply below_alloc | apply pw_below_drewN | apply below_drew1 | refine below_set ?_ GE216.out) | exact HB.out)⟩⟩
          · rw [if_neg c10] at H
            have c10b0 : decide (3 < a1_0) = false := decide_eq_false c10
            clear c10
            by_cases c12 : a1_1 < 0
            · rw [if_pos c12] at H
              have c12b0 : decide (a1_1 < 0) = true := decide_eq_true c12
              clear c12
              have H' := Aside0.mk H
              clear H
              have hcz13_0 : w6.cell? ⟨gb216, 0, none⟩ = some (.int .i64 a1_0) := (blk_cell BK216.out 0).trans rfl
              have hcz13_1 : w6.cell? ⟨gb216, 1, none⟩ = some (.int .i64 a1_1) := (blk_cell BK216.out 1).trans rfl
              have hcz13_2 : w6.cell? ⟨gb216, 2, none⟩ = some (.int .i64 a1_2) := (blk_cell BK216.out 2).trans rfl
              have hcz13_3 : w6.cell? ⟨gb216, 3, none⟩ = some (.bool a1_3) := (blk_cell BK216.out 3).trans rfl
              have hfz13_0 := blk_frozen BK216.out 0
              have hfz13_1 := blk_frozen BK216.out 1
              have hfz13_2 := blk_frozen BK216.out 2
              have hfz13_3 := blk_frozen BK216.out 3
              go_wp2
              go_meet
              case rel => exact ⟨_, (true), (by first | rfl | (simp; done) | (simp [*]; done)), H', ⟨by first | omega | exact Nat.le_refl _⟩, ⟨by (with_reducible repeat (first | refine blk_drewN ?_ _ | refine blk_drew ?_ | refine blk_alloc ?_ _)); exact BK216.out⟩, ⟨by repeat (first | (with_reducible first | exact HB.out | apply below_alloc | apply pw_below_drewN | apply below_drew1 | refine below_set ?_ GE216.out) | exact HB.out)⟩⟩
            · rw [if_neg c12] at H
              have c12b0 : decide (a1_1 < 0) = false := decide_eq_false c12
              clear c12
              by_cases c14 : a1_1 > 2147483647
              · rw [if_pos c14] at H
                have c14b0 : decide (2147483647 < a1_1) = true := decide_eq_true c14
                clear c14
                have H' := Aside0.mk H
                clear H
                have hcz15_0 : w6.cell? ⟨gb216, 0, none⟩ = some (.int .i64 a1_0) := (blk_cell BK216.out 0).trans rfl
                have hcz15_1 : w6.cell? ⟨gb216, 1, none⟩ = some (.int .i64 a1_1) := (blk_cell BK216.out 1).trans rfl
                have hcz15_2 : w6.cell? ⟨gb216, 2, none⟩ = some (.int .i64 a1_2) := (blk_cell BK216.out 2).trans rfl
                have hcz15_3 : w6.cell? ⟨gb216, 3, none⟩ = some (.bool a1_3) := (blk_cell BK216.out 3).trans rfl
                have hfz15_0 := blk_frozen BK216.out 0
                have hfz15_1 := blk_frozen BK216.out 1
                have hfz15_2 := blk_frozen BK216.out 2
                have hfz15_3 := blk_frozen BK216.out 3
                go_wp2
                go_meet
                case rel => exact ⟨_, (true), (by first | rfl | (simp; done) | (simp [*]; done)), H', ⟨by first | omega | exact Nat.le_refl _⟩, ⟨by (with_reducible repeat (first | refine blk_drewN ?_ _ | refine blk_drew ?_ | refine blk_alloc ?_ _)); exact BK216.out⟩, ⟨by repeat (first | (with_reducible first | exact HB.out | apply below_alloc | apply pw_below_drewN | apply below_drew1 | refine below_set ?_ GE216.out) | exact HB.out)⟩⟩
              · rw [if_neg c14] at H
                have c14b0 : decide (2147483647 < a1_1) = false := decide_eq_false c14
                clear c14
                by_cases c16 : a1_2 < 0
                · rw [if_pos c16] at H
                  have c16b0 : decide (a1_2 < 0) = true := decide_eq_true c16
                  clear c16
                  have H' := Aside0.mk H
                  clear H
                  have hcz17_0 : w6.cell? ⟨gb216, 0, none⟩ = some (.int .i64 a1_0) := (blk_cell BK216.out 0).trans rfl
                  have hcz17_1 : w6.cell? ⟨gb216, 1, none⟩ = some (.int .i64 a1_1) := (blk_cell BK216.out 1).trans rfl
                  have hcz17_2 : w6.cell? ⟨gb216, 2, none⟩ = some (.int .i64 a1_2) := (blk_cell BK216.out 2).trans rfl
                  have hcz17_3 : w6.cell? ⟨gb216, 3, none⟩ = some (.bool a1_3) := (blk_cell BK216.out 3).trans rfl
                  have hfz17_0 := blk_frozen BK216.out 0
                  have hfz17_1 := blk_frozen BK216.out 1
                  have hfz17_2 := blk_frozen BK216.out 2
                  have hfz17_3 := blk_frozen BK216.out 3
                  go_wp2
                  go_meet
                  case rel => exact ⟨_, (true), (by first | rfl | (simp; done) | (simp [*]; done)), H', ⟨by first | omega | exact Nat.le_refl _⟩, ⟨by (with_reducible repeat (first | refine blk_drewN ?_ _ | refine blk_drew ?_ | refine blk_alloc ?_ _)); exact BK216.out⟩, ⟨by repeat (first | (with_reducible first | exact HB.out | apply below_alloc | apply pw_below_drewN | apply below_drew1 | refine below_set ?_ GE216.out) | exact HB.out)⟩⟩
                · rw [if_neg c16] at H
                  have c16b0 : decide (a1_2 < 0) = false := decide_eq_false c16
                  clear c16
                  have H' := Aside0.mk H
                  clear H
                  have hcz18_0 : w6.cell? ⟨gb216, 0, none⟩ = some (.int .i64 a1_0) := (blk_cell BK216.out 0).trans rfl
                  have hcz18_1 : w6.cell? ⟨gb216, 1, none⟩ = some (.int .i64 a1_1) := (blk_cell BK216.out 1).trans rfl
                  have hcz18_2 : w6.cell? ⟨gb216, 2, none⟩ = some (.int .i64 a1_2) := (blk_cell BK216.out 2).trans rfl
                  have hcz18_3 : w6.cell? ⟨gb216, 3, none⟩ = some (.bool a1_3) := (blk_cell BK216.out 3).trans rfl
                  have hfz18_0 := blk_frozen BK216.out 0
                  have hfz18_1 := blk_frozen BK216.out 1
                  have hfz18_2 := blk_frozen BK216.out 2
                  have hfz18_3 := blk_frozen BK216.out 3
                  go_wp2
                  go_meet
                  case rel => exact ⟨_, (decide (a1_2 > 2147483647)), (by first | rfl | (simp; done) | (simp [*]; done)), H', ⟨by first | omega | exact Nat.le_refl _⟩, ⟨by (with_reducible repeat (first | refine blk_drewN ?_ _ | refine blk_drew ?_ | refine blk_alloc ?_ _)); exact BK216.out⟩, ⟨by repeat (first | (with_reducible first | exact HB.out | apply below_alloc | apply pw_below_drewN | apply below_drew1 | refine below_set ?_ GE216.out) | exact HB.out)⟩⟩
    case rest =>
      clear HC5
      try clear c1
      try clear p2
      try clear c3
      try clear c3b0
      try clear c3b1
      try clear c7
      try clear c7b0
      try clear c7b1
      try clear c8
      try clear c8b0
      try clear c10
      try clear c10b0
      try clear c12
      try clear c12b0
      try clear c13
      try clear c14
      try clear c14b0
      try clear c16
      try clear c16b0
      try clear hcz11_0
      try clear hcz11_1
      try clear hcz11_2
      try clear hcz11_3
      try clear hcz13_0
      try clear hcz13_1
      try clear hcz13_2
      try clear hcz13_3
      try clear hcz15_0
      try clear hcz15_1
      try clear hcz15_2
      try clear hcz15_3
      try clear hcz17_0
      try clear hcz17_1
      try clear hcz17_2
      try clear hcz17_3
      try clear hcz18_0
      try clear hcz18_1
      try clear hcz18_2
      try clear hcz18_3
      try clear hcz9_0
      try clear hcz9_1
      try clear hcz9_2
      try clear hcz9_3
      try clear hfz11_0
      try clear hfz11_1
      try clear hfz11_2
      try clear hfz11_3
      try clear hfz13_0
      try clear hfz13_1
      try clear hfz13_2
      try clear hfz13_3
      try clear hfz15_0
      try clear hfz15_1
      try clear hfz15_2
      try clear hfz15_3
      try clear hfz17_0
      try clear hfz17_1
      try clear hfz17_2
      try clear hfz17_3
      try clear hfz18_0
      try clear hfz18_1
      try clear hfz18_2
      try clear hfz18_3
      try clear hfz9_0
      try clear hfz9_1
      try clear hfz9_2
      try clear hfz9_3
      obtain ⟨kq, x44_4, rfl, HA, HJ4, BK216, HB⟩ := hcut
      cases kq with
      | zero => exact absurd HA.out (by simp [laws_FnHeaderBack.j0])
      | succ kj4 =>
        have H := HA.out
        clear HA
        simp only [laws_FnHeaderBack.j0] at H
        by_cases c19 : x44_4 = true
        · subst c19
          have H1 : (some true) = some r := by rw [if_pos rfl] at H; exact H
          clear H
          have H := H1
          clear H1
          obtain rfl := Option.some.inj H
          go_wp2
          go_ret
          exact ⟨by first | rfl | (simp [errW_none, errW_some] <;> rfl) | (simp [*, errW_none, errW_some] <;> rfl), by repeat (first | (with_reducible first | exact HB.out | apply below_alloc | apply pw_below_drewN | apply below_drew1 | refine below_set ?_ GE216.out) | exact HB.out)⟩
        · replace c19 := Bool.eq_false_iff.mpr c19
          subst c19
          have H1 : ((slices_Clone_byte_byte.f l0).bind fun t217 => ((impl_PutHeader.f kj4 a1_0 a1_1 a1_2 a1_3).bind fun t220 => (if t217.length + t220.length < 140737488355328 then ((some (t217 ++ t220 : List Int)).bind fun y223 => ((impl_ReadHeader.f kj4 y223 (l0.length : Int)).bind fun bt226 => (if bt226.2.2.2.2.2 = true then (if (bt226.1 == a1_0 && (bt226.2.1 == a1_1 && (bt226.2.2.1 == a1_2 && (bt226.2.2.2.1 == a1_3)))) = true then (some (bt226.2.2.2.2.1 == (y223.length : Int))) else (some false)) else (some false)))) else (none)))) = some r := by rw [if_neg (show ¬ (false = true) by decide)] at H; exact H
          clear H
          have H := H1
          clear H1
          replace H := Option.bind_eq_some_iff.mp H
          obtain ⟨t217, A200, H⟩ := H
          replace H : ((impl_PutHeader.f kj4 a1_0 a1_1 a1_2 a1_3).bind fun t220 => (if t217.length + t220.length < 140737488355328 then ((some (t217 ++ t220 : List Int)).bind fun y223 => ((impl_ReadHeader.f kj4 y223 (l0.length : Int)).bind fun bt226 => (if bt226.2.2.2.2.2 = true then (if (bt226.1 == a1_0 && (bt226.2.1 == a1_1 && (bt226.2.2.1 == a1_2 && (bt226.2.2.2.1 == a1_3)))) = true then (some (bt226.2.2.2.2.1 == (y223.length : Int))) else (some false)) else (some false)))) else (none))) = some r := H
          have A20 := Aside0.mk A200
          clear A200
          replace H := Option.bind_eq_some_iff.mp H
          obtain ⟨t220, A210, H⟩ := H
          replace H : (if t217.length + t220.length < 140737488355328 then ((some (t217 ++ t220 : List Int)).bind fun y223 => ((impl_ReadHeader.f kj4 y223 (l0.length : Int)).bind fun bt226 => (if bt226.2.2.2.2.2 = true then (if (bt226.1 == a1_0 && (bt226.2.1 == a1_1 && (bt226.2.2.1 == a1_2 && (bt226.2.2.2.1 == a1_3)))) = true then (some (bt226.2.2.2.2.1 == (y223.length : Int))) else (some false)) else (some false)))) else (none)) = some r := H
          have A21 := Aside0.mk A210
          clear A210
          by_cases c22 : t217.length + t220.length < 140737488355328
          · rw [if_pos c22] at H
            have LMc22 := Aside0.mk c22
            clear c22
            obtain ⟨y223, hy223⟩ : ∃ y_ : List Int, y_ = (t217 ++ t220) := ⟨_, rfl⟩
            replace H : ((impl_ReadHeader.f kj4 y223 (l0.length : Int)).bind fun bt226 => (if bt226.2.2.2.2.2 = true then (if (bt226.1 == a1_0 && (bt226.2.1 == a1_1 && (bt226.2.2.1 == a1_2 && (bt226.2.2.2.1 == a1_3)))) = true then (some (bt226.2.2.2.2.1 == (y223.length : Int))) else (some false)) else (some false))) = some r := by first | (rw [hy223]; with_reducible exact H) | (have H2_ := (Option.bind_some _ _).symm.trans H; rw [hy223]; with_reducible exact H2_) | (have H2_ := (Option.bind_some _ _).symm.trans H; with_reducible exact H2_) | with_reducible exact H | (rw [hy223]; exact H) | exact H
            have Ny223 := Aside0.mk hy223
            clear hy223
            replace H := Option.bind_eq_some_iff.mp H
            obtain ⟨⟨t226, t227, t228, t229, t230, t231⟩, A230, H⟩ := H
            replace H : (if t231 = true then (if (t226 == a1_0 && (t227 == a1_1 && (t228 == a1_2 && (t229 == a1_3)))) = true then (some (t230 == (y223.length : Int))) else (some false)) else (some false)) = some r := H
            have A23 := Aside0.mk A230
            clear A230
            by_cases c24 : t231 = true
            · subst c24
              have H1 : (if (t226 == a1_0 && (t227 == a1_1 && (t228 == a1_2 && (t229 == a1_3)))) = true then (some (t230 == (y223.length : Int))) else (some false)) = some r := by rw [if_pos rfl] at H; exact H
              clear H
              have H := H1
              clear H1
              by_cases c25 : (t226 == a1_0 && (t227 == a1_1 && (t228 == a1_2 && (t229 == a1_3)))) = true
              · rw [if_pos c25] at H
                have c25b0 : (t226 == a1_0 && (t227 == a1_1 && (t228 == a1_2 && (t229 == a1_3)))) = true := c25
                (try (have c25b1 : t226 = (a1_0 && (t227 == a1_1 && (t228 == a1_2 && (t229 == a1_3)))) := bool_eq_of _ _ (by simpa using c25)))
                (try (have c25b2 : decide (t226 = a1_0 && (t227 == a1_1 && (t228 == a1_2 && (t229 == a1_3)))) = true := by simpa using c25))
                (try (have c25b3 : (t226 == a1_0 && (t227 == a1_1 && (t228 == a1_2 && (t229 == a1_3)))) = true := by simpa using c25))
                clear c25
                obtain rfl := Option.some.inj H
                try go_wp2
                have n0_ := Aside0.mk (blk_drew BK216.out)
                have n1_ := Aside0.mk (below_drew1 HB.out)
                clear BK216
                clear HB
                have BK216 := n0_
                have HB := n1_
                clear n0_ n1_
                refine start_ (n := 6) (S := fun w' => w'.cell? ⟨gb216, 0, none⟩ = some (.int .i64 a1_0) ∧ w'.cell? ⟨gb216, 1, none⟩ = some (.int .i64 a1_1) ∧ w'.cell? ⟨gb216, 2, none⟩ = some (.int .i64 a1_2) ∧ w'.cell? ⟨gb216, 3, none⟩ = some (.bool a1_3)) (ds := []) #[false, false, false, false, false, false] (by kernel_rfl) rfl rfl ⟨(blk_cell BK216.out 0).trans rfl, (blk_cell BK216.out 1).trans rfl, (blk_cell BK216.out 2).trans rfl, (blk_cell BK216.out 3).trans rfl⟩ (fun hHeld => ?_)
                generalize wc.drew = w26 at BK216 HB hHeld ⊢
                refine pure_ (i := 0) (N := some 45) (v := ?_) (a' := ?_) #[true, false, false, false, false, false] rfl rfl (by kernel_rfl) (fun _ _ _ h => h) (Or.inl ⟨by rfl, ?_⟩) ?_ ?_
                rotate_left
                · intro w'
                  go_simp
                  with_reducible rfl
                rotate_left
                · simp only [Act.put, List.setIfInBounds_toArray, List.set_cons_zero, List.set_cons_succ, i64_w, i32_w]
                  rfl
                refine take_ (i := 2) (N := some 47) (v := ?_) (a' := ?_) #[true, false, true, false, false, false] rfl rfl (by kernel_rfl) (fun _ _ _ h => h) (Or.inl ⟨by rfl, ?_⟩) hHeld ?_ ?_
                rotate_left
                · rintro w' ⟨s0, s1, s2, s3⟩
                  go_simp
                  with_reducible rfl
                rotate_left
                · simp only [Act.put, List.setIfInBounds_toArray, List.set_cons_zero, List.set_cons_succ, i64_w, i32_w]
                  rfl
                refine one_ (i := 1) (N := some 46) #[true, true, true, false, false, false] rfl rfl (by kernel_rfl) (by decide) (fun K hK => ?_)
                refine goes_ Try.func34 (by kernel_rfl) rfl #[.slice A0 l0.length c0] (by rfl) rfl rfl (by (try simp only [List.map_toArray, List.map_cons, List.map_nil]); first | done | rfl | (simp only [List.length_drop, List.length_take]; rfl)) ?_
                with_reducible refine (slices_Clone_byte_byte.calls _ _ l0 t217 _ ?side1 ?side2 A20.out).mono ?_
                (case side1 => repeat (first | exact (Kd.C_below HR0.out HB.out) | (with_reducible refine Kd.C_alloc ?_ _) | (with_reducible refine Kd.C_drewN ?_ _) | (with_reducible refine Kd.C_drew ?_)))
                (case side2 => exact HC0.out)
                rintro e w27 ⟨v218, rfl, ho0, hb⟩
                refine ⟨_, rfl, ?_⟩
                have n0_ := Aside0.mk (Kd.R_lower ho0 (below_size (by repeat (first | (with_reducible first | exact HB.out | apply below_alloc | apply pw_below_drewN | apply below_drew1 | refine below_set ?_ GE216.out) | exact HB.out))))
                have n1_ := Aside0.mk (blk_below (g := gb216) (o := .cells #[.int .i64 a1_0, .int .i64 a1_1, .int .i64 a1_2, .bool a1_3] 41 (0, 0)) (by (with_reducible repeat (first | refine blk_drewN ?_ _ | refine blk_drew ?_ | refine blk_alloc ?_ _)); exact BK216.out) hb)
                have n2_ := Aside0.mk (below_step (by repeat (first | (with_reducible first | exact HB.out | apply below_alloc | apply pw_below_drewN | apply below_drew1 | refine below_set ?_ GE216.out) | exact HB.out)) hb)
                clear BK216
                clear HB
                have HO219 := n0_
                have BK216 := n1_
                have HB := n2_
                clear n0_ n1_ n2_
                (try clear hb)
                (try clear hb2)
                (try clear hk)
                (try clear hi)
                (try clear ho0)
                refine hK.out _ _ ⟨(blk_cell BK216.out 0).trans rfl, (blk_cell BK216.out 1).trans rfl, (blk_cell BK216.out 2).trans rfl, (blk_cell BK216.out 3).trans rfl⟩ (fun hHeld => ?_)
                clear hK K
                refine norm_ (a' := ?_) ?_ ?_
                rotate_left
                · show Act.put _ (some 46) _ = _
                  simp only [Act.put, List.setIfInBounds_toArray, List.set_cons_zero, List.set_cons_succ, i64_w, i32_w]
                  rfl
                refine one_ (i := 3) (N := some 48) #[true, true, true, true, false, false] rfl rfl (by kernel_rfl) (by decide) (fun K hK => ?_)
                refine goes_ Try.func26 (by kernel_rfl) rfl #[.agg #[.int .i64 a1_0, .int .i64 a1_1, .int .i64 a1_2, .bool a1_3]] (by rfl) rfl rfl (by (try simp only [List.map_toArray, List.map_cons, List.map_nil]); first | done | rfl | (simp only [List.length_drop, List.length_take]; rfl)) ?_
                with_reducible refine (impl_PutHeader.calls kj4 a1_0 a1_1 a1_2 a1_3 t220 _ A21.out).mono ?_
                rintro e w28 ⟨v221, rfl, ho0, hb⟩
                refine ⟨_, rfl, ?_⟩
                have n0_ := Aside0.mk (Kd.R_elder' (by (with_reducible repeat (first | apply Kd.R_alloc | apply Kd.R_drewN | apply Kd.R_drew)); exact HO219.out) (Kd.R_base ho0) hb)
                have n1_ := Aside0.mk (Kd.R_lower (Kd.R_new' ho0 (Kd.R_lt (by (with_reducible repeat (first | apply Kd.R_alloc | apply Kd.R_drewN | apply Kd.R_drew)); exact HO219.out))) (below_size (by repeat (first | (with_reducible first | exact HB.out | apply below_alloc | apply pw_below_drewN | apply below_drew1 | refine below_set ?_ GE216.out) | exact HB.out))))
                have n2_ := Aside0.mk (blk_below (g := gb216) (o := .cells #[.int .i64 a1_0, .int .i64 a1_1, .int .i64 a1_2, .bool a1_3] 41 (0, 0)) (by (with_reducible repeat (first | refine blk_drewN ?_ _ | refine blk_drew ?_ | refine blk_alloc ?_ _)); exact BK216.out) hb)
                have n3_ := Aside0.mk (below_step (by repeat (first | (with_reducible first | exact HB.out | apply below_alloc | apply pw_below_drewN | apply below_drew1 | refine below_set ?_ GE216.out) | exact HB.out)) hb)
                clear HO219
                clear BK216
                clear HB
                have HO219 := n0_
                have HO222 := n1_
                have BK216 := n2_
                have HB := n3_
                clear n0_ n1_ n2_ n3_
                (try clear hb)
                (try clear hb2)
                (try clear hk)
                (try clear hi)
                (try clear ho0)
                obtain ⟨Ao30, co30, eo30⟩ := Kd.R_slice HO222.out
                (first | subst eo30 | (injection eo30 with f1_ f2_ f3_; have f4_ := f1_.symm; have f5_ := f3_.symm; clear f1_ f2_ f3_; subst f4_; subst f5_))
                refine hK.out _ _ ⟨(blk_cell BK216.out 0).trans rfl, (blk_cell BK216.out 1).trans rfl, (blk_cell BK216.out 2).trans rfl, (blk_cell BK216.out 3).trans rfl⟩ (fun hHeld => ?_)
                clear hK K
                refine norm_ (a' := ?_) ?_ ?_
                rotate_left
                · show Act.put _ (some 48) _ = _
                  simp only [Act.put, List.setIfInBounds_toArray, List.set_cons_zero, List.set_cons_succ, i64_w, i32_w]
                  rfl
                refine one_ (i := 4) (N := some 49) #[true, true, true, true, true, false] rfl rfl (by kernel_rfl) (by decide) (fun K hK => ?_)
                refine Kd.R_append_rows_step (Kd.int .u8) (w0 := w) w.heap.size (by rfl) (.tmp 46) (.tmp 48) 22 5 (.int .u8 0) 1 rfl Try.underlying22 info5 rfl (by decide) (by omega) v218 t217 t220 _ _ _ (fun k_ => some k_ ≠ (.slice Ao30 t220.length co30 : Value).ownBlock) (fun _ => False) rfl rfl ?aO ?aR (fun _ _ h => h) (fun _ h => h.elim) ?aF ?aB ?aS ?aL ?_
                (case aR => repeat (first | exact (Kd.R_reads' HO222.out).2.2 | (with_reducible refine Kd.C_alloc ?_ _) | (with_reducible refine Kd.C_drewN ?_ _) | (with_reducible refine Kd.C_drew ?_)))
                (case aB => exact (by repeat (first | (with_reducible first | exact HB.out | apply below_alloc | apply pw_below_drewN | apply below_drew1 | refine below_set ?_ GE216.out) | exact HB.out)))
                (case aF => exact (fun k_ hk => Kd.fresh' (Kd.R_lt (by (with_reducible repeat (first | apply Kd.R_alloc | apply Kd.R_drewN | apply Kd.R_drew)); exact HO222.out)) k_ hk))
                (case aO => exact (by (with_reducible repeat (first | apply Kd.R_alloc | apply Kd.R_drewN | apply Kd.R_drew)); exact Kd.R_mono HO219.out (fun _ hk => hk.2)))
                (case aS => exact (below_size (by repeat (first | (with_reducible first | exact HB.out | apply below_alloc | apply pw_below_drewN | apply below_drew1 | refine below_set ?_ GE216.out) | exact HB.out))))
                (case aL => have := LMc22.out; omega)
                intro v224 w29 ho hb hg hat
                rw [← Ny223.out] at ho
                have n0_ := Aside0.mk (blk_grown (g := gb216) (o := .cells #[.int .i64 a1_0, .int .i64 a1_1, .int .i64 a1_2, .bool a1_3] 41 (0, 0)) (by (with_reducible repeat (first | refine blk_drewN ?_ _ | refine blk_drew ?_ | refine blk_alloc ?_ _)); exact BK216.out) hg (Kd.R_ne HO219.out BK216.out (by decide)))
                have n1_ := Aside0.mk (Kd.R_after (ok := (fun _ => True)) (by (with_reducible repeat (first | apply Kd.R_alloc | apply Kd.R_drewN | apply Kd.R_drew)); exact HO222.out) hg hat)
                have n2_ := Aside0.mk (hb)
                have n3_ := Aside0.mk (ho)
                clear BK216
                clear HO222
                clear HB
                clear HO219
                have BK216 := n0_
                have HO222 := n1_
                have HB := n2_
                have HO225 := n3_
                clear n0_ n1_ n2_ n3_
                clear ho hb hg hat
                refine hK.out _ _ ⟨(blk_cell BK216.out 0).trans rfl, (blk_cell BK216.out 1).trans rfl, (blk_cell BK216.out 2).trans rfl, (blk_cell BK216.out 3).trans rfl⟩ (fun hHeld => ?_)
                clear hK K
                refine norm_ (a' := ?_) ?_ ?_
                rotate_left
                · show Act.put _ (some 49) _ = _
                  simp only [Act.put, List.setIfInBounds_toArray, List.set_cons_zero, List.set_cons_succ, i64_w, i32_w]
                  rfl
                refine pure_ (i := 5) (N := some 5) (v := ?_) (a' := ?_) #[true, true, true, true, true, true] rfl rfl (by kernel_rfl) (fun _ _ _ h => h) (Or.inl ⟨by rfl, ?_⟩) ?_ ?_
                rotate_left
                · intro w'
                  go_simp
                  with_reducible rfl
                rotate_left
                · simp only [Act.put, List.setIfInBounds_toArray, List.set_cons_zero, List.set_cons_succ, i64_w, i32_w]
                  rfl
                refine done_ (by kernel_rfl) ?_
                obtain ⟨Ao31, co31, eo31⟩ := Kd.R_slice HO225.out
                subst eo31
                try go_wp2_with (first | ((with_reducible refine gate_callee (f := 32) rfl ?_); refine goesL_ (some 54) rfl rfl Try.func32 (by kernel_rfl) rfl #[.slice Ao31 y223.length co31, .int .i64 (l0.length : Int)] rfl (by (try simp only [List.map_toArray, List.map_cons, List.map_nil]); first | done | rfl | (simp only [List.length_drop, List.length_take]; rfl)) ?_; (with_reducible refine (impl_ReadHeader.calls kj4 _ _ y223 (l0.length : Int) t226 t227 t228 t229 t230 true _ ?side1 ?side2 A23.out).mono ?_); (case side1 => repeat (first | exact (Kd.R_reads' HO225.out).2.2 | (with_reducible refine Kd.C_alloc ?_ _) | (with_reducible refine Kd.C_drewN ?_ _) | (with_reducible refine Kd.C_drew ?_))); (case side2 => exact (Kd.R_reads' HO225.out).2.1); rintro e w32 ⟨rfl, hb⟩; refine ⟨_, rfl, ?_⟩; have n0_ := Aside0.mk (Kd.R_below (by (with_reducible repeat (first | apply Kd.R_alloc | apply Kd.R_drewN | apply Kd.R_drew)); exact HO222.out) hb); have n1_ := Aside0.mk (Kd.R_below (by (with_reducible repeat (first | apply Kd.R_alloc | apply Kd.R_drewN | apply Kd.R_drew)); exact HO225.out) hb); have n2_ := Aside0.mk (blk_below (g := gb216) (o := .cells #[.int .i64 a1_0, .int .i64 a1_1, .int .i64 a1_2, .bool a1_3] 41 (0, 0)) (by (with_reducible repeat (first | refine blk_drewN ?_ _ | refine blk_drew ?_ | refine blk_alloc ?_ _)); exact BK216.out) hb); have n3_ := Aside0.mk (below_step (by repeat (first | (with_reducible first | exact HB.out | apply below_alloc | apply pw_below_drewN | apply below_drew1 | refine below_set ?_ GE216.out) | exact HB.out)) hb); clear HO222; clear HO225; clear BK216; clear HB; have HO222 := n0_; have HO225 := n1_; have BK216 := n2_; have HB := n3_; clear n0_ n1_ n2_ n3_; (try clear hb); (try clear hb2); (try clear hk); (try clear hi)) | ((with_reducible refine gate_dst (N := 6) rfl ?_); (try (refine gate_guard (by rfl) ?_; dsimp only)); refine box_event ?hg (N := 6) ?hd (cs := #[.int .i64 0, .int .i64 0, .int .i64 0, .bool false]) (t := 41) ?hr ?_; (case hd => rfl); (case hg => rfl); (case hr => first | (go_simp; done) | (go_simp; rfl)); intro gb232 hg w33 hbox hb; have n0_ := Aside0.mk (Kd.R_below (by (with_reducible repeat (first | apply Kd.R_alloc | apply Kd.R_drewN | apply Kd.R_drew)); exact HO222.out) hb); have n1_ := Aside0.mk (Kd.R_below (by (with_reducible repeat (first | apply Kd.R_alloc | apply Kd.R_drewN | apply Kd.R_drew)); exact HO225.out) hb); have n2_ := Aside0.mk (blk_below (g := gb216) (o := .cells #[.int .i64 a1_0, .int .i64 a1_1, .int .i64 a1_2, .bool a1_3] 41 (0, 0)) (by (with_reducible repeat (first | refine blk_drewN ?_ _ | refine blk_drew ?_ | refine blk_alloc ?_ _)); exact BK216.out) hb); have n3_ := Aside0.mk (below_step (by repeat (first | (with_reducible first | exact HB.out | apply below_alloc | apply pw_below_drewN | apply below_drew1 | refine below_set ?_ GE216.out) | exact HB.out)) hb); have n4_ := Aside0.mk (hbox); have n5_ := Aside0.mk ((by rw [hg]; exact (below_size (by repeat (first | (with_reducible first | exact HB.out | apply below_alloc | apply pw_below_drewN | apply below_drew1 | refine below_set ?_ GE216.out) | exact HB.out))) : w.heap.size ≤ gb232)); have n6_ := Aside0.mk ((by rw [hg]; exact (below_size (by repeat (first | (with_reducible first | exact HB.out | apply below_alloc | apply pw_below_drewN | apply below_drew1 | refine below_set ?_ GE216.out) | exact HB.out))) : w.heap.size ≤ gb232)); have n7_ := Aside0.mk ((by rw [hg]; exact Nat.ne_of_lt (blk_lt (g := gb216) (o := .cells #[.int .i64 a1_0, .int .i64 a1_1, .int .i64 a1_2, .bool a1_3] 41 (0, 0)) (by (with_reducible repeat (first | refine blk_drewN ?_ _ | refine blk_drew ?_ | refine blk_alloc ?_ _)); exact BK216.out)) : gb216 ≠ gb232)); have n8_ := Aside0.mk ((by rw [hg]; exact Nat.ne_of_gt (blk_lt (g := gb216) (o := .cells #[.int .i64 a1_0, .int .i64 a1_1, .int .i64 a1_2, .bool a1_3] 41 (0, 0)) (by (with_reducible repeat (first | refine blk_drewN ?_ _ | refine blk_drew ?_ | refine blk_alloc ?_ _)); exact BK216.out)) : gb232 ≠ gb216)); clear HO222; clear HO225; clear BK216; clear HB; have HO222 := n0_; have HO225 := n1_; have BK216 := n2_; have HB := n3_; have BK232 := n4_; have GW232 := n5_; have GE232 := n6_; have NB216_232 := n7_; have NB232_216 := n8_; clear n0_ n1_ n2_ n3_ n4_ n5_ n6_ n7_ n8_; clear hb hbox hg; have hnb34 := NB232_216.out; have hnc34 := NB216_232.out; have hcz35_0 : w33.cell? ⟨gb232, 0, none⟩ = some (.int .i64 0) := (blk_cell BK232.out 0).trans rfl; have hcz35_1 : w33.cell? ⟨gb232, 1, none⟩ = some (.int .i64 0) := (blk_cell BK232.out 1).trans rfl; have hcz35_2 : w33.cell? ⟨gb232, 2, none⟩ = some (.int .i64 0) := (blk_cell BK232.out 2).trans rfl; have hcz35_3 : w33.cell? ⟨gb232, 3, none⟩ = some (.bool false) := (blk_cell BK232.out 3).trans rfl; have hfz35_0 := blk_frozen BK232.out 0; have hfz35_1 := blk_frozen BK232.out 1; have hfz35_2 := blk_frozen BK232.out 2; have hfz35_3 := blk_frozen BK232.out 3; have hcz36_0 : w33.cell? ⟨gb216, 0, none⟩ = some (.int .i64 a1_0) := (blk_cell BK216.out 0).trans rfl; have hcz36_1 : w33.cell? ⟨gb216, 1, none⟩ = some (.int .i64 a1_1) := (blk_cell BK216.out 1).trans rfl; have hcz36_2 : w33.cell? ⟨gb216, 2, none⟩ = some (.int .i64 a1_2) := (blk_cell BK216.out 2).trans rfl; have hcz36_3 : w33.cell? ⟨gb216, 3, none⟩ = some (.bool a1_3) := (blk_cell BK216.out 3).trans rfl; have hfz36_0 := blk_frozen BK216.out 0; have hfz36_1 := blk_frozen BK216.out 1; have hfz36_2 := blk_frozen BK216.out 2; have hfz36_3 := blk_frozen BK216.out 3))
                go_ret
                exact ⟨by first | rfl | (simp [errW_none, errW_some] <;> rfl) | (simp [*, errW_none, errW_some] <;> rfl), by repeat (first | (with_reducible first | exact HB.out | apply below_alloc | apply pw_below_drewN | apply below_drew1 | refine below_set ?_ GE216.out | refine below_set ?_ GE232.out) | exact HB.out)⟩
              · rw [if_neg c25] at H
                have c25b0 : (t226 == a1_0 && (t227 == a1_1 && (t228 == a1_2 && (t229 == a1_3)))) = false := by simpa using c25
                (try (have c25b1 : t226 = !(a1_0 && (t227 == a1_1 && (t228 == a1_2 && (t229 == a1_3)))) := bool_ne_of _ _ (by simpa using c25)))
                (try (have c25b2 : decide (t226 = a1_0 && (t227 == a1_1 && (t228 == a1_2 && (t229 == a1_3)))) = false := by simpa using c25))
                (try (have c25b3 : (t226 == a1_0 && (t227 == a1_1 && (t228 == a1_2 && (t229 == a1_3)))) = false := by simpa using c25))
                (try (have c25b4 : ¬ (t226 = a1_0 && (t227 == a1_1 && (t228 == a1_2 && (t229 == a1_3)))) := by simpa using c25))
                clear c25
                obtain rfl := Option.some.inj H
                try go_wp2
                have n0_ := Aside0.mk (blk_drew BK216.out)
                have n1_ := Aside0.mk (below_drew1 HB.out)
                clear BK216
                clear HB
                have BK216 := n0_
                have HB := n1_
                clear n0_ n1_
                refine start_ (n := 6) (S := fun w' => w'.cell? ⟨gb216, 0, none⟩ = some (.int .i64 a1_0) ∧ w'.cell? ⟨gb216, 1, none⟩ = some (.int .i64 a1_1) ∧ w'.cell? ⟨gb216, 2, none⟩ = some (.int .i64 a1_2) ∧ w'.cell? ⟨gb216, 3, none⟩ = some (.bool a1_3)) (ds := []) #[false, false, false, false, false, false] (by kernel_rfl) rfl rfl ⟨(blk_cell BK216.out 0).trans rfl, (blk_cell BK216.out 1).trans rfl, (blk_cell BK216.out 2).trans rfl, (blk_cell BK216.out 3).trans rfl⟩ (fun hHeld => ?_)
                generalize wc.drew = w37 at BK216 HB hHeld ⊢
                refine pure_ (i := 0) (N := some 45) (v := ?_) (a' := ?_) #[true, false, false, false, false, false] rfl rfl (by kernel_rfl) (fun _ _ _ h => h) (Or.inl ⟨by rfl, ?_⟩) ?_ ?_
                rotate_left
                · intro w'
                  go_simp
                  with_reducible rfl
                rotate_left
                · simp only [Act.put, List.setIfInBounds_toArray, List.set_cons_zero, List.set_cons_succ, i64_w, i32_w]
                  rfl
                refine take_ (i := 2) (N := some 47) (v := ?_) (a' := ?_) #[true, false, true, false, false, false] rfl rfl (by kernel_rfl) (fun _ _ _ h => h) (Or.inl ⟨by rfl, ?_⟩) hHeld ?_ ?_
                rotate_left
                · rintro w' ⟨s0, s1, s2, s3⟩
                  go_simp
                  with_reducible rfl
                rotate_left
                · simp only [Act.put, List.setIfInBounds_toArray, List.set_cons_zero, List.set_cons_succ, i64_w, i32_w]
                  rfl
                refine one_ (i := 1) (N := some 46) #[true, true, true, false, false, false] rfl rfl (by kernel_rfl) (by decide) (fun K hK => ?_)
                refine goes_ Try.func34 (by kernel_rfl) rfl #[.slice A0 l0.length c0] (by rfl) rfl rfl (by (try simp only [List.map_toArray, List.map_cons, List.map_nil]); first | done | rfl | (simp only [List.length_drop, List.length_take]; rfl)) ?_
                with_reducible refine (slices_Clone_byte_byte.calls _ _ l0 t217 _ ?side1 ?side2 A20.out).mono ?_
                (case side1 => repeat (first | exact (Kd.C_below HR0.out HB.out) | (with_reducible refine Kd.C_alloc ?_ _) | (with_reducible refine Kd.C_drewN ?_ _) | (with_reducible refine Kd.C_drew ?_)))
                (case side2 => exact HC0.out)
                rintro e w38 ⟨v218, rfl, ho0, hb⟩
                refine ⟨_, rfl, ?_⟩
                have n0_ := Aside0.mk (Kd.R_lower ho0 (below_size (by repeat (first | (with_reducible first | exact HB.out | apply below_alloc | apply pw_below_drewN | apply below_drew1 | refine below_set ?_ GE216.out) | exact HB.out))))
                have n1_ := Aside0.mk (blk_below (g := gb216) (o := .cells #[.int .i64 a1_0, .int .i64 a1_1, .int .i64 a1_2, .bool a1_3] 41 (0, 0)) (by (with_reducible repeat (first | refine blk_drewN ?_ _ | refine blk_drew ?_ | refine blk_alloc ?_ _)); exact BK216.out) hb)
                have n2_ := Aside0.mk (below_step (by repeat (first | (with_reducible first | exact HB.out | apply below_alloc | apply pw_below_drewN | apply below_drew1 | refine below_set ?_ GE216.out) | exact HB.out)) hb)
                clear BK216
                clear HB
                have HO219 := n0_
                have BK216 := n1_
                have HB := n2_
                clear n0_ n1_ n2_
                (try clear hb)
                (try clear hb2)
                (try clear hk)
                (try clear hi)
                (try clear ho0)
                refine hK.out _ _ ⟨(blk_cell BK216.out 0).trans rfl, (blk_cell BK216.out 1).trans rfl, (blk_cell BK216.out 2).trans rfl, (blk_cell BK216.out 3).trans rfl⟩ (fun hHeld => ?_)
                clear hK K
                refine norm_ (a' := ?_) ?_ ?_
                rotate_left
                · show Act.put _ (some 46) _ = _
                  simp only [Act.put, List.setIfInBounds_toArray, List.set_cons_zero, List.set_cons_succ, i64_w, i32_w]
                  rfl
                refine one_ (i := 3) (N := some 48) #[true, true, true, true, false, false] rfl rfl (by kernel_rfl) (by decide) (fun K hK => ?_)
                refine goes_ Try.func26 (by kernel_rfl) rfl #[.agg #[.int .i64 a1_0, .int .i64 a1_1, .int .i64 a1_2, .bool a1_3]] (by rfl) rfl rfl (by (try simp only [List.map_toArray, List.map_cons, List.map_nil]); first | done | rfl | (simp only [List.length_drop, List.length_take]; rfl)) ?_
                with_reducible refine (impl_PutHeader.calls kj4 a1_0 a1_1 a1_2 a1_3 t220 _ A21.out).mono ?_
                rintro e w39 ⟨v221, rfl, ho0, hb⟩
                refine ⟨_, rfl, ?_⟩
                have n0_ := Aside0.mk (Kd.R_elder' (by (with_reducible repeat (first | apply Kd.R_alloc | apply Kd.R_drewN | apply Kd.R_drew)); exact HO219.out) (Kd.R_base ho0) hb)
                have n1_ := Aside0.mk (Kd.R_lower (Kd.R_new' ho0 (Kd.R_lt (by (with_reducible repeat (first | apply Kd.R_alloc | apply Kd.R_drewN | apply Kd.R_drew)); exact HO219.out))) (below_size (by repeat (first | (with_reducible first | exact HB.out | apply below_alloc | apply pw_below_drewN | apply below_drew1 | refine below_set ?_ GE216.out) | exact HB.out))))
                have n2_ := Aside0.mk (blk_below (g := gb216) (o := .cells #[.int .i64 a1_0, .int .i64 a1_1, .int .i64 a1_2, .bool a1_3] 41 (0, 0)) (by (with_reducible repeat (first | refine blk_drewN ?_ _ | refine blk_drew ?_ | refine blk_alloc ?_ _)); exact BK216.out) hb)
                have n3_ := Aside0.mk (below_step (by repeat (first | (with_reducible first | exact HB.out | apply below_alloc | apply pw_below_drewN | apply below_drew1 | refine below_set ?_ GE216.out) | exact HB.out)) hb)
                clear HO219
                clear BK216
                clear HB
                have HO219 := n0_
                have HO222 := n1_
                have BK216 := n2_
                have HB := n3_
                clear n0_ n1_ n2_ n3_
                (try clear hb)
                (try clear hb2)
                (try clear hk)
                (try clear hi)
                (try clear ho0)
                obtain ⟨Ao41, co41, eo41⟩ := Kd.R_slice HO222.out
                (first | subst eo41 | (injection eo41 with f1_ f2_ f3_; have f4_ := f1_.symm; have f5_ := f3_.symm; clear f1_ f2_ f3_; subst f4_; subst f5_))
                refine hK.out _ _ ⟨(blk_cell BK216.out 0).trans rfl, (blk_cell BK216.out 1).trans rfl, (blk_cell BK216.out 2).trans rfl, (blk_cell BK216.out 3).trans rfl⟩ (fun hHeld => ?_)
                clear hK K
                refine norm_ (a' := ?_) ?_ ?_
                rotate_left
                · show Act.put _ (some 48) _ = _
                  simp only [Act.put, List.setIfInBounds_toArray, List.set_cons_zero, List.set_cons_succ, i64_w, i32_w]
                  rfl
                refine one_ (i := 4) (N := some 49) #[true, true, true, true, true, false] rfl rfl (by kernel_rfl) (by decide) (fun K hK => ?_)
                refine Kd.R_append_rows_step (Kd.int .u8) (w0 := w) w.heap.size (by rfl) (.tmp 46) (.tmp 48) 22 5 (.int .u8 0) 1 rfl Try.underlying22 info5 rfl (by decide) (by omega) v218 t217 t220 _ _ _ (fun k_ => some k_ ≠ (.slice Ao41 t220.length co41 : Value).ownBlock) (fun _ => False) rfl rfl ?aO ?aR (fun _ _ h => h) (fun _ h => h.elim) ?aF ?aB ?aS ?aL ?_
                (case aR => repeat (first | exact (Kd.R_reads' HO222.out).2.2 | (with_reducible refine Kd.C_alloc ?_ _) | (with_reducible refine Kd.C_drewN ?_ _) | (with_reducible refine Kd.C_drew ?_)))
                (case aB => exact (by repeat (first | (with_reducible first | exact HB.out | apply below_alloc | apply pw_below_drewN | apply below_drew1 | refine below_set ?_ GE216.out) | exact HB.out)))
                (case aF => exact (fun k_ hk => Kd.fresh' (Kd.R_lt (by (with_reducible repeat (first | apply Kd.R_alloc | apply Kd.R_drewN | apply Kd.R_drew)); exact HO222.out)) k_ hk))
                (case aO => exact (by (with_reducible repeat (first | apply Kd.R_alloc | apply Kd.R_drewN | apply Kd.R_drew)); exact Kd.R_mono HO219.out (fun _ hk => hk.2)))
                (case aS => exact (below_size (by repeat (first | (with_reducible first | exact HB.out | apply below_alloc | apply pw_below_drewN | apply below_drew1 | refine below_set ?_ GE216.out) | exact HB.out))))
                (case aL => have := LMc22.out; omega)
                intro v224 w40 ho hb hg hat
                rw [← Ny223.out] at ho
                have n0_ := Aside0.mk (blk_grown (g := gb216) (o := .cells #[.int .i64 a1_0, .int .i64 a1_1, .int .i64 a1_2, .bool a1_3] 41 (0, 0)) (by (with_reducible repeat (first | refine blk_drewN ?_ _ | refine blk_drew ?_ | refine blk_alloc ?_ _)); exact BK216.out) hg (Kd.R_ne HO219.out BK216.out (by decide)))
                have n1_ := Aside0.mk (Kd.R_after (ok := (fun _ => True)) (by (with_reducible repeat (first | apply Kd.R_alloc | apply Kd.R_drewN | apply Kd.R_drew)); exact HO222.out) hg hat)
                have n2_ := Aside0.mk (hb)
                have n3_ := Aside0.mk (ho)
                clear BK216
                clear HO222
                clear HB
                clear HO219
                have BK216 := n0_
                have HO222 := n1_
                have HB := n2_
                have HO225 := n3_
                clear n0_ n1_ n2_ n3_
                clear ho hb hg hat
                refine hK.out _ _ ⟨(blk_cell BK216.out 0).trans rfl, (blk_cell BK216.out 1).trans rfl, (blk_cell BK216.out 2).trans rfl, (blk_cell BK216.out 3).trans rfl⟩ (fun hHeld => ?_)
                clear hK K
                refine norm_ (a' := ?_) ?_ ?_
                rotate_left
                · show Act.put _ (some 49) _ = _
                  simp only [Act.put, List.setIfInBounds_toArray, List.set_cons_zero, List.set_cons_succ, i64_w, i32_w]
                  rfl
                refine pure_ (i := 5) (N := some 5) (v := ?_) (a' := ?_) #[true, true, true, true, true, true] rfl rfl (by kernel_rfl) (fun _ _ _ h => h) (Or.inl ⟨by rfl, ?_⟩) ?_ ?_
                rotate_left
                · intro w'
                  go_simp
                  with_reducible rfl
                rotate_left
                · simp only [Act.put, List.setIfInBounds_toArray, List.set_cons_zero, List.set_cons_succ, i64_w, i32_w]
                  rfl
                refine done_ (by kernel_rfl) ?_
                obtain ⟨Ao42, co42, eo42⟩ := Kd.R_slice HO225.out
                subst eo42
                try go_wp2_with (first | ((with_reducible refine gate_callee (f := 32) rfl ?_); refine goesL_ (some 54) rfl rfl Try.func32 (by kernel_rfl) rfl #[.slice Ao42 y223.length co42, .int .i64 (l0.length : Int)] rfl (by (try simp only [List.map_toArray, List.map_cons, List.map_nil]); first | done | rfl | (simp only [List.length_drop, List.length_take]; rfl)) ?_; (with_reducible refine (impl_ReadHeader.calls kj4 _ _ y223 (l0.length : Int) t226 t227 t228 t229 t230 true _ ?side1 ?side2 A23.out).mono ?_); (case side1 => repeat (first | exact (Kd.R_reads' HO225.out).2.2 | (with_reducible refine Kd.C_alloc ?_ _) | (with_reducible refine Kd.C_drewN ?_ _) | (with_reducible refine Kd.C_drew ?_))); (case side2 => exact (Kd.R_reads' HO225.out).2.1); rintro e w43 ⟨rfl, hb⟩; refine ⟨_, rfl, ?_⟩; have n0_ := Aside0.mk (Kd.R_below (by (with_reducible repeat (first | apply Kd.R_alloc | apply Kd.R_drewN | apply Kd.R_drew)); exact HO222.out) hb); have n1_ := Aside0.mk (Kd.R_below (by (with_reducible repeat (first | apply Kd.R_alloc | apply Kd.R_drewN | apply Kd.R_drew)); exact HO225.out) hb); have n2_ := Aside0.mk (blk_below (g := gb216) (o := .cells #[.int .i64 a1_0, .int .i64 a1_1, .int .i64 a1_2, .bool a1_3] 41 (0, 0)) (by (with_reducible repeat (first | refine blk_drewN ?_ _ | refine blk_drew ?_ | refine blk_alloc ?_ _)); exact BK216.out) hb); have n3_ := Aside0.mk (below_step (by repeat (first | (with_reducible first | exact HB.out | apply below_alloc | apply pw_below_drewN | apply below_drew1 | refine below_set ?_ GE216.out) | exact HB.out)) hb); clear HO222; clear HO225; clear BK216; clear HB; have HO222 := n0_; have HO225 := n1_; have BK216 := n2_; have HB := n3_; clear n0_ n1_ n2_ n3_; (try clear hb); (try clear hb2); (try clear hk); (try clear hi)) | ((with_reducible refine gate_dst (N := 6) rfl ?_); (try (refine gate_guard (by rfl) ?_; dsimp only)); refine box_event ?hg (N := 6) ?hd (cs := #[.int .i64 0, .int .i64 0, .int .i64 0, .bool false]) (t := 41) ?hr ?_; (case hd => rfl); (case hg => rfl); (case hr => first | (go_simp; done) | (go_simp; rfl)); intro gb232 hg w44 hbox hb; have n0_ := Aside0.mk (Kd.R_below (by (with_reducible repeat (first | apply Kd.R_alloc | apply Kd.R_drewN | apply Kd.R_drew)); exact HO222.out) hb); have n1_ := Aside0.mk (Kd.R_below (by (with_reducible repeat (first | apply Kd.R_alloc | apply Kd.R_drewN | apply Kd.R_drew)); exact HO225.out) hb); have n2_ := Aside0.mk (blk_below (g := gb216) (o := .cells #[.int .i64 a1_0, .int .i64 a1_1, .int .i64 a1_2, .bool a1_3] 41 (0, 0)) (by (with_reducible repeat (first | refine blk_drewN ?_ _ | refine blk_drew ?_ | refine blk_alloc ?_ _)); exact BK216.out) hb); have n3_ := Aside0.mk (below_step (by repeat (first | (with_reducible first | exact HB.out | apply below_alloc | apply pw_below_drewN | apply below_drew1 | refine below_set ?_ GE216.out) | exact HB.out)) hb); have n4_ := Aside0.mk (hbox); have n5_ := Aside0.mk ((by rw [hg]; exact (below_size (by repeat (first | (with_reducible first | exact HB.out | apply below_alloc | apply pw_below_drewN | apply below_drew1 | refine below_set ?_ GE216.out) | exact HB.out))) : w.heap.size ≤ gb232)); have n6_ := Aside0.mk ((by rw [hg]; exact (below_size (by repeat (first | (with_reducible first | exact HB.out | apply below_alloc | apply pw_below_drewN | apply below_drew1 | refine below_set ?_ GE216.out) | exact HB.out))) : w.heap.size ≤ gb232)); have n7_ := Aside0.mk ((by rw [hg]; exact Nat.ne_of_lt (blk_lt (g := gb216) (o := .cells #[.int .i64 a1_0, .int .i64 a1_1, .int .i64 a1_2, .bool a1_3] 41 (0, 0)) (by (with_reducible repeat (first | refine blk_drewN ?_ _ | refine blk_drew ?_ | refine blk_alloc ?_ _)); exact BK216.out)) : gb216 ≠ gb232)); have n8_ := Aside0.mk ((by rw [hg]; exact Nat.ne_of_gt (blk_lt (g := gb216) (o := .cells #[.int .i64 a1_0, .int .i64 a1_1, .int .i64 a1_2, .bool a1_3] 41 (0, 0)) (by (with_reducible repeat (first | refine blk_drewN ?_ _ | refine blk_drew ?_ | refine blk_alloc ?_ _)); exact BK216.out)) : gb232 ≠ gb216)); clear HO222; clear HO225; clear BK216; clear HB; have HO222 := n0_; have HO225 := n1_; have BK216 := n2_; have HB := n3_; have BK232 := n4_; have GW232 := n5_; have GE232 := n6_; have NB216_232 := n7_; have NB232_216 := n8_; clear n0_ n1_ n2_ n3_ n4_ n5_ n6_ n7_ n8_; clear hb hbox hg; have hnb45 := NB232_216.out; have hnc45 := NB216_232.out; have hcz46_0 : w44.cell? ⟨gb232, 0, none⟩ = some (.int .i64 0) := (blk_cell BK232.out 0).trans rfl; have hcz46_1 : w44.cell? ⟨gb232, 1, none⟩ = some (.int .i64 0) := (blk_cell BK232.out 1).trans rfl; have hcz46_2 : w44.cell? ⟨gb232, 2, none⟩ = some (.int .i64 0) := (blk_cell BK232.out 2).trans rfl; have hcz46_3 : w44.cell? ⟨gb232, 3, none⟩ = some (.bool false) := (blk_cell BK232.out 3).trans rfl; have hfz46_0 := blk_frozen BK232.out 0; have hfz46_1 := blk_frozen BK232.out 1; have hfz46_2 := blk_frozen BK232.out 2; have hfz46_3 := blk_frozen BK232.out 3; have hcz47_0 : w44.cell? ⟨gb216, 0, none⟩ = some (.int .i64 a1_0) := (blk_cell BK216.out 0).trans rfl; have hcz47_1 : w44.cell? ⟨gb216, 1, none⟩ = some (.int .i64 a1_1) := (blk_cell BK216.out 1).trans rfl; have hcz47_2 : w44.cell? ⟨gb216, 2, none⟩ = some (.int .i64 a1_2) := (blk_cell BK216.out 2).trans rfl; have hcz47_3 : w44.cell? ⟨gb216, 3, none⟩ = some (.bool a1_3) := (blk_cell BK216.out 3).trans rfl; have hfz47_0 := blk_frozen BK216.out 0; have hfz47_1 := blk_frozen BK216.out 1; have hfz47_2 := blk_frozen BK216.out 2; have hfz47_3 := blk_frozen BK216.out 3))
                go_ret
                exact ⟨by first | rfl | (simp [errW_none, errW_some] <;> rfl) | (simp [*, errW_none, errW_some] <;> rfl), by repeat (first | (with_reducible first | exact HB.out | apply below_alloc | apply pw_below_drewN | apply below_drew1 | refine below_set ?_ GE216.out | refine below_set ?_ GE232.out) | exact HB.out)⟩
            · replace c24 := Bool.eq_false_iff.mpr c24
              subst c24
              have H1 : (some false) = some r := by rw [if_neg (show ¬ (false = true) by decide)] at H; exact H
              clear H
              have H := H1
              clear H1
              obtain rfl := Option.some.inj H
              try go_wp2
              have n0_ := Aside0.mk (blk_drew BK216.out)
              have n1_ := Aside0.mk (below_drew1 HB.out)
              clear BK216
              clear HB
              have BK216 := n0_
              have HB := n1_
              clear n0_ n1_
              refine start_ (n := 6) (S := fun w' => w'.cell? ⟨gb216, 0, none⟩ = some (.int .i64 a1_0) ∧ w'.cell? ⟨gb216, 1, none⟩ = some (.int .i64 a1_1) ∧ w'.cell? ⟨gb216, 2, none⟩ = some (.int .i64 a1_2) ∧ w'.cell? ⟨gb216, 3, none⟩ = some (.bool a1_3)) (ds := []) #[false, false, false, false, false, false] (by kernel_rfl) rfl rfl ⟨(blk_cell BK216.out 0).trans rfl, (blk_cell BK216.out 1).trans rfl, (blk_cell BK216.out 2).trans rfl, (blk_cell BK216.out 3).trans rfl⟩ (fun hHeld => ?_)
              generalize wc.drew = w48 at BK216 HB hHeld ⊢
              refine pure_ (i := 0) (N := some 45) (v := ?_) (a' := ?_) #[true, false, false, false, false, false] rfl rfl (by kernel_rfl) (fun _ _ _ h => h) (Or.inl ⟨by rfl, ?_⟩) ?_ ?_
              rotate_left
              · intro w'
                go_simp
                with_reducible rfl
              rotate_left
              · simp only [Act.put, List.setIfInBounds_toArray, List.set_cons_zero, List.set_cons_succ, i64_w, i32_w]
                rfl
              refine take_ (i := 2) (N := some 47) (v := ?_) (a' := ?_) #[true, false, true, false, false, false] rfl rfl (by kernel_rfl) (fun _ _ _ h => h) (Or.inl ⟨by rfl, ?_⟩) hHeld ?_ ?_
              rotate_left
              · rintro w' ⟨s0, s1, s2, s3⟩
                go_simp
                with_reducible rfl
              rotate_left
              · simp only [Act.put, List.setIfInBounds_toArray, List.set_cons_zero, List.set_cons_succ, i64_w, i32_w]
                rfl
              refine one_ (i := 1) (N := some 46) #[true, true, true, false, false, false] rfl rfl (by kernel_rfl) (by decide) (fun K hK => ?_)
              refine goes_ Try.func34 (by kernel_rfl) rfl #[.slice A0 l0.length c0] (by rfl) rfl rfl (by (try simp only [List.map_toArray, List.map_cons, List.map_nil]); first | done | rfl | (simp only [List.length_drop, List.length_take]; rfl)) ?_
              with_reducible refine (slices_Clone_byte_byte.calls _ _ l0 t217 _ ?side1 ?side2 A20.out).mono ?_
              (case side1 => repeat (first | exact (Kd.C_below HR0.out HB.out) | (with_reducible refine Kd.C_alloc ?_ _) | (with_reducible refine Kd.C_drewN ?_ _) | (with_reducible refine Kd.C_drew ?_)))
              (case side2 => exact HC0.out)
              rintro e w49 ⟨v218, rfl, ho0, hb⟩
              refine ⟨_, rfl, ?_⟩
              have n0_ := Aside0.mk (Kd.R_lower ho0 (below_size (by repeat (first | (with_reducible first | exact HB.out | apply below_alloc | apply pw_below_drewN | apply below_drew1 | refine below_set ?_ GE216.out) | exact HB.out))))
              have n1_ := Aside0.mk (blk_below (g := gb216) (o := .cells #[.int .i64 a1_0, .int .i64 a1_1, .int .i64 a1_2, .bool a1_3] 41 (0, 0)) (by (with_reducible repeat (first | refine blk_drewN ?_ _ | refine blk_drew ?_ | refine blk_alloc ?_ _)); exact BK216.out) hb)
              have n2_ := Aside0.mk (below_step (by repeat (first | (with_reducible first | exact HB.out | apply below_alloc | apply pw_below_drewN | apply below_drew1 | refine below_set ?_ GE216.out) | exact HB.out)) hb)
              clear BK216
              clear HB
              have HO219 := n0_
              have BK216 := n1_
              have HB := n2_
              clear n0_ n1_ n2_
              (try clear hb)
              (try clear hb2)
              (try clear hk)
              (try clear hi)
              (try clear ho0)
              refine hK.out _ _ ⟨(blk_cell BK216.out 0).trans rfl, (blk_cell BK216.out 1).trans rfl, (blk_cell BK216.out 2).trans rfl, (blk_cell BK216.out 3).trans rfl⟩ (fun hHeld => ?_)
              clear hK K
              refine norm_ (a' := ?_) ?_ ?_
              rotate_left
              · show Act.put _ (some 46) _ = _
                simp only [Act.put, List.setIfInBounds_toArray, List.set_cons_zero, List.set_cons_succ, i64_w, i32_w]
                rfl
              refine one_ (i := 3) (N := some 48) #[true, true, true, true, false, false] rfl rfl (by kernel_rfl) (by decide) (fun K hK => ?_)
              refine goes_ Try.func26 (by kernel_rfl) rfl #[.agg #[.int .i64 a1_0, .int .i64 a1_1, .int .i64 a1_2, .bool a1_3]] (by rfl) rfl rfl (by (try simp only [List.map_toArray, List.map_cons, List.map_nil]); first | done | rfl | (simp only [List.length_drop, List.length_take]; rfl)) ?_
              with_reducible refine (impl_PutHeader.calls kj4 a1_0 a1_1 a1_2 a1_3 t220 _ A21.out).mono ?_
              rintro e w50 ⟨v221, rfl, ho0, hb⟩
              refine ⟨_, rfl, ?_⟩
              have n0_ := Aside0.mk (Kd.R_elder' (by (with_reducible repeat (first | apply Kd.R_alloc | apply Kd.R_drewN | apply Kd.R_drew)); exact HO219.out) (Kd.R_base ho0) hb)
              have n1_ := Aside0.mk (Kd.R_lower (Kd.R_new' ho0 (Kd.R_lt (by (with_reducible repeat (first | apply Kd.R_alloc | apply Kd.R_drewN | apply Kd.R_drew)); exact HO219.out))) (below_size (by repeat (first | (with_reducible first | exact HB.out | apply below_alloc | apply pw_below_drewN | apply below_drew1 | refine below_set ?_ GE216.out) | exact HB.out))))
              have n2_ := Aside0.mk (blk_below (g := gb216) (o := .cells #[.int .i64 a1_0, .int .i64 a1_1, .int .i64 a1_2, .bool a1_3] 41 (0, 0)) (by (with_reducible repeat (first | refine blk_drewN ?_ _ | refine blk_drew ?_ | refine blk_alloc ?_ _)); exact BK216.out) hb)
              have n3_ := Aside0.mk (below_step (by repeat (first | (with_reducible first | exact HB.out | apply below_alloc | apply pw_below_drewN | apply below_drew1 | refine below_set ?_ GE216.out) | exact HB.out)) hb)
              clear HO219
              clear BK216
              clear HB
              have HO219 := n0_
              have HO222 := n1_
              have BK216 := n2_
              have HB := n3_
              clear n0_ n1_ n2_ n3_
              (try clear hb)
              (try clear hb2)
              (try clear hk)
              (try clear hi)
              (try clear ho0)
              obtain ⟨Ao52, co52, eo52⟩ := Kd.R_slice HO222.out
              (first | subst eo52 | (injection eo52 with f1_ f2_ f3_; have f4_ := f1_.symm; have f5_ := f3_.symm; clear f1_ f2_ f3_; subst f4_; subst f5_))
              refine hK.out _ _ ⟨(blk_cell BK216.out 0).trans rfl, (blk_cell BK216.out 1).trans rfl, (blk_cell BK216.out 2).trans rfl, (blk_cell BK216.out 3).trans rfl⟩ (fun hHeld => ?_)
              clear hK K
              refine norm_ (a' := ?_) ?_ ?_
              rotate_left
              · show Act.put _ (some 48) _ = _
                simp only [Act.put, List.setIfInBounds_toArray, List.set_cons_zero, List.set_cons_succ, i64_w, i32_w]
                rfl
              refine one_ (i := 4) (N := some 49) #[true, true, true, true, true, false] rfl rfl (by kernel_rfl) (by decide) (fun K hK => ?_)
              refine Kd.R_append_rows_step (Kd.int .u8) (w0 := w) w.heap.size (by rfl) (.tmp 46) (.tmp 48) 22 5 (.int .u8 0) 1 rfl Try.underlying22 info5 rfl (by decide) (by omega) v218 t217 t220 _ _ _ (fun k_ => some k_ ≠ (.slice Ao52 t220.length co52 : Value).ownBlock) (fun _ => False) rfl rfl ?aO ?aR (fun _ _ h => h) (fun _ h => h.elim) ?aF ?aB ?aS ?aL ?_
              (case aR => repeat (first | exact (Kd.R_reads' HO222.out).2.2 | (with_reducible refine Kd.C_alloc ?_ _) | (with_reducible refine Kd.C_drewN ?_ _) | (with_reducible refine Kd.C_drew ?_)))
              (case aB => exact (by repeat (first | (with_reducible first | exact HB.out | apply below_alloc | apply pw_below_drewN | apply below_drew1 | refine below_set ?_ GE216.out) | exact HB.out)))
              (case aF => exact (fun k_ hk => Kd.fresh' (Kd.R_lt (by (with_reducible repeat (first | apply Kd.R_alloc | apply Kd.R_drewN | apply Kd.R_drew)); exact HO222.out)) k_ hk))
              (case aO => exact (by (with_reducible repeat (first | apply Kd.R_alloc | apply Kd.R_drewN | apply Kd.R_drew)); exact Kd.R_mono HO219.out (fun _ hk => hk.2)))
              (case aS => exact (below_size (by repeat (first | (with_reducible first | exact HB.out | apply below_alloc | apply pw_below_drewN | apply below_drew1 | refine below_set ?_ GE216.out) | exact HB.out))))
              (case aL => have := LMc22.out; omega)
              intro v224 w51 ho hb hg hat
              rw [← Ny223.out] at ho
              have n0_ := Aside0.mk (blk_grown (g := gb216) (o := .cells #[.int .i64 a1_0, .int .i64 a1_1, .int .i64 a1_2, .bool a1_3] 41 (0, 0)) (by (with_reducible repeat (first | refine blk_drewN ?_ _ | refine blk_drew ?_ | refine blk_alloc ?_ _)); exact BK216.out) hg (Kd.R_ne HO219.out BK216.out (by decide)))
              have n1_ := Aside0.mk (Kd.R_after (ok := (fun _ => True)) (by (with_reducible repeat (first | apply Kd.R_alloc | apply Kd.R_drewN | apply Kd.R_drew)); exact HO222.out) hg hat)
              have n2_ := Aside0.mk (hb)
              have n3_ := Aside0.mk (ho)
              clear BK216
              clear HO222
              clear HB
              clear HO219
              have BK216 := n0_
              have HO222 := n1_
              have HB := n2_
              have HO225 := n3_
              clear n0_ n1_ n2_ n3_
              clear ho hb hg hat
              refine hK.out _ _ ⟨(blk_cell BK216.out 0).trans rfl, (blk_cell BK216.out 1).trans rfl, (blk_cell BK216.out 2).trans rfl, (blk_cell BK216.out 3).trans rfl⟩ (fun hHeld => ?_)
              clear hK K
              refine norm_ (a' := ?_) ?_ ?_
              rotate_left
              · show Act.put _ (some 49) _ = _
                simp only [Act.put, List.setIfInBounds_toArray, List.set_cons_zero, List.set_cons_succ, i64_w, i32_w]
                rfl
              refine pure_ (i := 5) (N := some 5) (v := ?_) (a' := ?_) #[true, true, true, true, true, true] rfl rfl (by kernel_rfl) (fun _ _ _ h => h) (Or.inl ⟨by rfl, ?_⟩) ?_ ?_
              rotate_left
              · intro w'
                go_simp
                with_reducible rfl
              rotate_left
              · simp only [Act.put, List.setIfInBounds_toArray, List.set_cons_zero, List.set_cons_succ, i64_w, i32_w]
                rfl
              refine done_ (by kernel_rfl) ?_
              obtain ⟨Ao53, co53, eo53⟩ := Kd.R_slice HO225.out
              subst eo53
              try go_wp2_with (first | ((with_reducible refine gate_callee (f := 32) rfl ?_); refine goesL_ (some 54) rfl rfl Try.func32 (by kernel_rfl) rfl #[.slice Ao53 y223.length co53, .int .i64 (l0.length : Int)] rfl (by (try simp only [List.map_toArray, List.map_cons, List.map_nil]); first | done | rfl | (simp only [List.length_drop, List.length_take]; rfl)) ?_; (with_reducible refine (impl_ReadHeader.calls kj4 _ _ y223 (l0.length : Int) t226 t227 t228 t229 t230 false _ ?side1 ?side2 A23.out).mono ?_); (case side1 => repeat (first | exact (Kd.R_reads' HO225.out).2.2 | (with_reducible refine Kd.C_alloc ?_ _) | (with_reducible refine Kd.C_drewN ?_ _) | (with_reducible refine Kd.C_drew ?_))); (case side2 => exact (Kd.R_reads' HO225.out).2.1); rintro e w54 ⟨rfl, hb⟩; refine ⟨_, rfl, ?_⟩; have n0_ := Aside0.mk (Kd.R_below (by (with_reducible repeat (first | apply Kd.R_alloc | apply Kd.R_drewN | apply Kd.R_drew)); exact HO222.out) hb); have n1_ := Aside0.mk (Kd.R_below (by (with_reducible repeat (first | apply Kd.R_alloc | apply Kd.R_drewN | apply Kd.R_drew)); exact HO225.out) hb); have n2_ := Aside0.mk (blk_below (g := gb216) (o := .cells #[.int .i64 a1_0, .int .i64 a1_1, .int .i64 a1_2, .bool a1_3] 41 (0, 0)) (by (with_reducible repeat (first | refine blk_drewN ?_ _ | refine blk_drew ?_ | refine blk_alloc ?_ _)); exact BK216.out) hb); have n3_ := Aside0.mk (below_step (by repeat (first | (with_reducible first | exact HB.out | apply below_alloc | apply pw_below_drewN | apply below_drew1 | refine below_set ?_ GE216.out) | exact HB.out)) hb); clear HO222; clear HO225; clear BK216; clear HB; have HO222 := n0_; have HO225 := n1_; have BK216 := n2_; have HB := n3_; clear n0_ n1_ n2_ n3_; (try clear hb); (try clear hb2); (try clear hk); (try clear hi)) | ((with_reducible refine gate_dst (N := 6) rfl ?_); (try (refine gate_guard (by rfl) ?_; dsimp only)); refine box_event ?hg (N := 6) ?hd (cs := #[.int .i64 0, .int .i64 0, .int .i64 0, .bool false]) (t := 41) ?hr ?_; (case hd => rfl); (case hg => rfl); (case hr => first | (go_simp; done) | (go_simp; rfl)); intro gb232 hg w55 hbox hb; have n0_ := Aside0.mk (Kd.R_below (by (with_reducible repeat (first | apply Kd.R_alloc | apply Kd.R_drewN | apply Kd.R_drew)); exact HO222.out) hb); have n1_ := Aside0.mk (Kd.R_below (by (with_reducible repeat (first | apply Kd.R_alloc | apply Kd.R_drewN | apply Kd.R_drew)); exact HO225.out) hb); have n2_ := Aside0.mk (blk_below (g := gb216) (o := .cells #[.int .i64 a1_0, .int .i64 a1_1, .int .i64 a1_2, .bool a1_3] 41 (0, 0)) (by (with_reducible repeat (first | refine blk_drewN ?_ _ | refine blk_drew ?_ | refine blk_alloc ?_ _)); exact BK216.out) hb); have n3_ := Aside0.mk (below_step (by repeat (first | (with_reducible first | exact HB.out | apply below_alloc | apply pw_below_drewN | apply below_drew1 | refine below_set ?_ GE216.out) | exact HB.out)) hb); have n4_ := Aside0.mk (hbox); have n5_ := Aside0.mk ((by rw [hg]; exact (below_size (by repeat (first | (with_reducible first | exact HB.out | apply below_alloc | apply pw_below_drewN | apply below_drew1 | refine below_set ?_ GE216.out) | exact HB.out))) : w.heap.size ≤ gb232)); have n6_ := Aside0.mk ((by rw [hg]; exact (below_size (by repeat (first | (with_reducible first | exact HB.out | apply below_alloc | apply pw_below_drewN | apply below_drew1 | refine below_set ?_ GE216.out) | exact HB.out))) : w.heap.size ≤ gb232)); have n7_ := Aside0.mk ((by rw [hg]; exact Nat.ne_of_lt (blk_lt (g := gb216) (o := .cells #[.int .i64 a1_0, .int .i64 a1_1, .int .i64 a1_2, .bool a1_3] 41 (0, 0)) (by (with_reducible repeat (first | refine blk_drewN ?_ _ | refine blk_drew ?_ | refine blk_alloc ?_ _)); exact BK216.out)) : gb216 ≠ gb232)); have n8_ := Aside0.mk ((by rw [hg]; exact Nat.ne_of_gt (blk_lt (g := gb216) (o := .cells #[.int .i64 a1_0, .int .i64 a1_1, .int .i64 a1_2, .bool a1_3] 41 (0, 0)) (by (with_reducible repeat (first | refine blk_drewN ?_ _ | refine blk_drew ?_ | refine blk_alloc ?_ _)); exact BK216.out)) : gb232 ≠ gb216)); clear HO222; clear HO225; clear BK216; clear HB; have HO222 := n0_; have HO225 := n1_; have BK216 := n2_; have HB := n3_; have BK232 := n4_; have GW232 := n5_; have GE232 := n6_; have NB216_232 := n7_; have NB232_216 := n8_; clear n0_ n1_ n2_ n3_ n4_ n5_ n6_ n7_ n8_; clear hb hbox hg; have hnb56 := NB232_216.out; have hnc56 := NB216_232.out; have hcz57_0 : w55.cell? ⟨gb232, 0, none⟩ = some (.int .i64 0) := (blk_cell BK232.out 0).trans rfl; have hcz57_1 : w55.cell? ⟨gb232, 1, none⟩ = some (.int .i64 0) := (blk_cell BK232.out 1).trans rfl; have hcz57_2 : w55.cell? ⟨gb232, 2, none⟩ = some (.int .i64 0) := (blk_cell BK232.out 2).trans rfl; have hcz57_3 : w55.cell? ⟨gb232, 3, none⟩ = some (.bool false) := (blk_cell BK232.out 3).trans rfl; have hfz57_0 := blk_frozen BK232.out 0; have hfz57_1 := blk_frozen BK232.out 1; have hfz57_2 := blk_frozen BK232.out 2; have hfz57_3 := blk_frozen BK232.out 3))
              go_ret
              exact ⟨by first | rfl | (simp [errW_none, errW_some] <;> rfl) | (simp [*, errW_none, errW_some] <;> rfl), by repeat (first | (with_reducible first | exact HB.out | apply below_alloc | apply pw_below_drewN | apply below_drew1 | refine below_set ?_ GE216.out | refine below_set ?_ GE232.out) | exact HB.out)⟩
          · rw [if_neg c22] at H
            exact absurd H (by simp)

end Go.Proofs.Ytapnkngcnlomhaa.QH
