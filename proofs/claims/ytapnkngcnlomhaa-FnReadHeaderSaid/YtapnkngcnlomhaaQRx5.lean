-- Written by a program of this work (wip/patch_print.py) for this claim.
import Derived.Test.YtapnkngcnlomhaaQRx0
import Derived.Test.YtapnkngcnlomhaaQRx4
namespace Go.Proofs.Ytapnkngcnlomhaa.QR
open Go.RowKit Go.Proofs.YtapnkngcnlomhaaW.PrintWords Go.Proofs.YtapnkngcnlomhaaW.PrintLast Go.Proofs.YtapnkngcnlomhaaW.PrintMore
attribute [local go_sem] max2_int min2_int max_two min_two max_three min_three max_four min_four   -- for this text's walks alone
set_option linter.unusedVariables false
set_option linter.unusedSimpArgs false

/-! ### impl_ReadHeader: function 32 -/
def impl_ReadHeaderIn.j0 : Nat → List Int → Int → Bool → Option (Int × Int × Int × Bool × Int × Bool)
  | 0, _, _, _ => none
  | k + 1, x0, x1, x19 => if x19 = true then (some (0, 0, 0, false, 0, false)) else ((impl_copied.f x0).bind fun t138 => ((asn1_ZZHeader.f k t138 x1).bind fun bt141 => (if bt141.2.2.2.2.2.isNone = true then (some (bt141.1, bt141.2.1, bt141.2.2.1, bt141.2.2.2.1, bt141.2.2.2.2.1, true)) else (some (0, 0, 0, false, 0, false)))))
def impl_ReadHeaderIn.f (k : Nat) (l0 : List Int) (a1 : Int) : Option (Int × Int × Int × Bool × Int × Bool) := (impl_short.f l0).bind fun t137 => (if t137 = true then (impl_ReadHeaderIn.j0 k l0 a1 (decide (a1 < 0))) else (impl_ReadHeaderIn.j0 k l0 a1 true))
theorem impl_ReadHeaderIn.mono_l : ∀ k, (∀ y0 y1 y2, LeO (impl_ReadHeaderIn.j0 k y0 y1 y2) (impl_ReadHeaderIn.j0 (k + 1) y0 y1 y2))
  | 0 => fun _ _ _ r h => by simp [impl_ReadHeaderIn.j0] at h
  | k + 1 => by
    have ih0 := impl_ReadHeaderIn.mono_l k
    · intro y0 y1 y2
      unfold impl_ReadHeaderIn.j0
      repeat' first
      | (with_reducible exact ih0 _ _ _)
      | (with_reducible exact asn1_ZZHeader.mono _ _ _)
      | (with_reducible exact LeO.refl _)
      | (with_reducible exact LeO.none _)
      | (with_reducible refine LeO.ite ?_ ?_)
      | (with_reducible refine LeO.bind ?_ (fun _ => ?_))
      | exact ih0 _ _ _
      | exact asn1_ZZHeader.mono _ _ _
      | exact LeO.none _
      | refine LeO.ite ?_ ?_
      | refine LeO.bind ?_ (fun _ => ?_)
theorem impl_ReadHeaderIn.mono : ∀ a0 a1 k, LeO (impl_ReadHeaderIn.f k a0 a1) (impl_ReadHeaderIn.f (k + 1) a0 a1) := by
  intro a0 a1 k
  have ih0 := impl_ReadHeaderIn.mono_l k
  unfold impl_ReadHeaderIn.f
  repeat' first
      | (with_reducible exact ih0 _ _ _)
      | (with_reducible exact asn1_ZZHeader.mono _ _ _)
      | (with_reducible exact LeO.refl _)
      | (with_reducible exact LeO.none _)
      | (with_reducible refine LeO.ite ?_ ?_)
      | (with_reducible refine LeO.bind ?_ (fun _ => ?_))
      | exact ih0 _ _ _
      | exact asn1_ZZHeader.mono _ _ _
      | exact LeO.none _
      | refine LeO.ite ?_ ?_
      | refine LeO.bind ?_ (fun _ => ?_)
set_option maxHeartbeats 8000000 in
set_option maxRecDepth 100000 in
theorem impl_ReadHeaderIn.calls (k : Nat) (A0 : Option Addr) (c0 : Nat) (l0 : List Int) (a1 : Int) (r1 : Int) (r2 : Int) (r3 : Int) (r4 : Bool) (r5 : Int) (r6 : Bool) (w : World) (hr0 : Kd.C (Kd.int .u8) w A0 l0.length l0) (hc0 : l0.length ≤ c0) (h : impl_ReadHeaderIn.f k l0 a1 = some (r1, r2, r3, r4, r5, r6)) :
    Calls Try.prog 32 #[.slice A0 l0.length c0, .int .i64 a1] w fun e w' => e = .returned (.tuple #[.agg #[.int .i64 r1, .int .i64 r2, .int .i64 r3, .bool r4], .int .i64 r5, .bool r6]) ∧ Below w.heap.size w w' := by
  have hu41 := Try.underlying41
  have hu58 := Try.underlying58
  have HR0 := Aside0.mk hr0
  have HC0 := Aside0.mk hc0
  clear hr0 hc0
  have HB := Aside0.mk (Below.refl w.heap.size w)
  have H : ((impl_short.f l0).bind fun t137 => (if t137 = true then (impl_ReadHeaderIn.j0 k l0 a1 (decide (a1 < 0))) else (impl_ReadHeaderIn.j0 k l0 a1 true))) = some (r1, r2, r3, r4, r5, r6) := h
  clear h
  have HC3 := Aside0.mk H
  clear H
  go_enter Try.func32, Try.ntmps32
  go_upto_region 1 with (first | ((with_reducible refine gate_dst (N := 4) rfl ?_); refine box_event ?hg (N := 4) ?hd (cs := #[.int .i64 0, .int .i64 0, .int .i64 0, .bool false]) (t := 41) ?hr ?_; (case hd => rfl); (case hg => rfl); (case hr => first | (go_simp; done) | (go_simp; rfl)); intro gb136 hg w4 hbox hb; have n0_ := Aside0.mk (below_step (by repeat (first | (with_reducible first | exact HB.out | apply below_alloc | apply pw_below_drewN | apply below_drew1) | exact HB.out)) hb); have n1_ := Aside0.mk (hbox); have n2_ := Aside0.mk ((by rw [hg]; exact (below_size (by repeat (first | (with_reducible first | exact HB.out | apply below_alloc | apply pw_below_drewN | apply below_drew1) | exact HB.out))) : w.heap.size ≤ gb136)); have n3_ := Aside0.mk ((by rw [hg]; exact (below_size (by repeat (first | (with_reducible first | exact HB.out | apply below_alloc | apply pw_below_drewN | apply below_drew1) | exact HB.out))) : w.heap.size ≤ gb136)); clear HB; have HB := n0_; have BK136 := n1_; have GW136 := n2_; have GE136 := n3_; clear n0_ n1_ n2_ n3_; clear hb hbox hg))
  (try simp only [Act.put, List.setIfInBounds_toArray, List.set_cons_zero, List.set_cons_succ])
  go_cut [19] (fun v19 wc => ∃ (kq : Nat) (x19_2 : Bool), v19 = .bool x19_2 ∧ Aside0 (impl_ReadHeaderIn.j0 kq l0 a1 x19_2 = some (r1, r2, r3, r4, r5, r6)) ∧ Aside0 (kq ≤ k) ∧ Aside0 (wc.heap[gb136]? = some (.cells #[.int .i64 0, .int .i64 0, .int .i64 0, .bool false] 41 (0, 0))) ∧ Aside0 (Below w.heap.size w wc))
  case first =>
    have H := HC3.out
    clear HC3
    replace H := Option.bind_eq_some_iff.mp H
    obtain ⟨t137, A50, H⟩ := H
    replace H : (if t137 = true then (impl_ReadHeaderIn.j0 k l0 a1 (decide (a1 < 0))) else (impl_ReadHeaderIn.j0 k l0 a1 true)) = some (r1, r2, r3, r4, r5, r6) := H
    have A5 := Aside0.mk A50
    clear A50
    by_cases c6 : t137 = true
    · subst c6
      have H1 : (impl_ReadHeaderIn.j0 k l0 a1 (decide (a1 < 0))) = some (r1, r2, r3, r4, r5, r6) := by rw [if_pos rfl] at H; exact H
      clear H
      have H := H1
      clear H1
      have H' := Aside0.mk H
      clear H
      go_wp2_with (first | ((with_reducible refine gate_callee (f := 35) rfl ?_); refine goesL_ (some 14) rfl rfl Try.func35 (by kernel_rfl) rfl #[.slice A0 l0.length c0] rfl (by (try simp only [List.map_toArray, List.map_cons, List.map_nil]); first | done | rfl | (simp only [List.length_drop, List.length_take]; rfl)) ?_; (with_reducible refine (impl_short.calls _ _ l0 true _ ?side1 ?side2 A5.out).mono ?_); (case side1 => repeat (first | exact (Kd.C_below HR0.out HB.out) | (with_reducible refine Kd.C_alloc ?_ _) | (with_reducible refine Kd.C_drewN ?_ _) | (with_reducible refine Kd.C_drew ?_))); (case side2 => exact HC0.out); rintro e w' ⟨rfl, ⟨nd, rfl⟩⟩; refine ⟨_, rfl, ?_⟩))
      go_meet
      case rel => exact ⟨_, (decide (a1 < 0)), (by first | rfl | (simp; done) | (simp [*]; done)), H', ⟨by first | omega | exact Nat.le_refl _⟩, ⟨by (with_reducible repeat (first | refine blk_drewN ?_ _ | refine blk_drew ?_ | refine blk_alloc ?_ _)); exact BK136.out⟩, ⟨by repeat (first | (with_reducible first | exact HB.out | apply below_alloc | apply pw_below_drewN | apply below_drew1 | refine below_set ?_ GE136.out) | exact HB.out)⟩⟩
    · replace c6 := Bool.eq_false_iff.mpr c6
      subst c6
      have H1 : (impl_ReadHeaderIn.j0 k l0 a1 true) = some (r1, r2, r3, r4, r5, r6) := by rw [if_neg (show ¬ (false = true) by decide)] at H; exact H
      clear H
      have H := H1
      clear H1
      have H' := Aside0.mk H
      clear H
      go_wp2_with (first | ((with_reducible refine gate_callee (f := 35) rfl ?_); refine goesL_ (some 14) rfl rfl Try.func35 (by kernel_rfl) rfl #[.slice A0 l0.length c0] rfl (by (try simp only [List.map_toArray, List.map_cons, List.map_nil]); first | done | rfl | (simp only [List.length_drop, List.length_take]; rfl)) ?_; (with_reducible refine (impl_short.calls _ _ l0 false _ ?side1 ?side2 A5.out).mono ?_); (case side1 => repeat (first | exact (Kd.C_below HR0.out HB.out) | (with_reducible refine Kd.C_alloc ?_ _) | (with_reducible refine Kd.C_drewN ?_ _) | (with_reducible refine Kd.C_drew ?_))); (case side2 => exact HC0.out); rintro e w' ⟨rfl, ⟨nd, rfl⟩⟩; refine ⟨_, rfl, ?_⟩))
      go_meet
      case rel => exact ⟨_, (true), (by first | rfl | (simp; done) | (simp [*]; done)), H', ⟨by first | omega | exact Nat.le_refl _⟩, ⟨by (with_reducible repeat (first | refine blk_drewN ?_ _ | refine blk_drew ?_ | refine blk_alloc ?_ _)); exact BK136.out⟩, ⟨by repeat (first | (with_reducible first | exact HB.out | apply below_alloc | apply pw_below_drewN | apply below_drew1 | refine below_set ?_ GE136.out) | exact HB.out)⟩⟩
  case rest =>
    clear HC3
    try clear p2
    try clear c3
    try clear c6
    obtain ⟨kq, x19_2, rfl, HA, HJ2, BK136, HB⟩ := hcut
    cases kq with
    | zero => exact absurd HA.out (by simp [impl_ReadHeaderIn.j0])
    | succ kj2 =>
      have H := HA.out
      clear HA
      simp only [impl_ReadHeaderIn.j0] at H
      by_cases c7 : x19_2 = true
      · subst c7
        have H1 : (some (0, 0, 0, false, 0, false)) = some (r1, r2, r3, r4, r5, r6) := by rw [if_pos rfl] at H; exact H
        clear H
        have H := H1
        clear H1
        simp only [Option.some.injEq, Prod.mk.injEq] at H
        obtain ⟨rfl, rfl, rfl, rfl, rfl, rfl⟩ := H
        have hcz8_0 : wc.cell? ⟨gb136, 0, none⟩ = some (.int .i64 0) := (blk_cell BK136.out 0).trans rfl
        have hcz8_1 : wc.cell? ⟨gb136, 1, none⟩ = some (.int .i64 0) := (blk_cell BK136.out 1).trans rfl
        have hcz8_2 : wc.cell? ⟨gb136, 2, none⟩ = some (.int .i64 0) := (blk_cell BK136.out 2).trans rfl
        have hcz8_3 : wc.cell? ⟨gb136, 3, none⟩ = some (.bool false) := (blk_cell BK136.out 3).trans rfl
        have hfz8_0 := blk_frozen BK136.out 0
        have hfz8_1 := blk_frozen BK136.out 1
        have hfz8_2 := blk_frozen BK136.out 2
        have hfz8_3 := blk_frozen BK136.out 3
        go_wp2
        refine bodyPost_ret (results_ctt rfl _ _ gb136 41 #[.int .i64 0, .int .i64 0, .int .i64 0, .bool false] (0, 0) _ rfl (by (with_reducible repeat (first | refine blk_drewN ?_ _ | refine blk_drew ?_ | refine blk_alloc ?_ _)); refine blk_put (cs := #[.int .i64 0, .int .i64 0, .int .i64 0, .bool false]) ?_ 3 _ rfl; (with_reducible repeat (first | refine blk_drewN ?_ _ | refine blk_drew ?_ | refine blk_alloc ?_ _)); refine blk_put (cs := #[.int .i64 0, .int .i64 0, .int .i64 0, .bool false]) ?_ 2 _ rfl; (with_reducible repeat (first | refine blk_drewN ?_ _ | refine blk_drew ?_ | refine blk_alloc ?_ _)); refine blk_put (cs := #[.int .i64 0, .int .i64 0, .int .i64 0, .bool false]) ?_ 1 _ rfl; (with_reducible repeat (first | refine blk_drewN ?_ _ | refine blk_drew ?_ | refine blk_alloc ?_ _)); refine blk_put (cs := #[.int .i64 0, .int .i64 0, .int .i64 0, .bool false]) ?_ 0 _ rfl; (with_reducible repeat (first | refine blk_drewN ?_ _ | refine blk_drew ?_ | refine blk_alloc ?_ _)); exact BK136.out) Try.underlying41 rfl (by kernel_rfl)) rfl ?_
        exact ⟨by first | rfl | (simp [errW_none, errW_some] <;> rfl) | (simp [*, errW_none, errW_some] <;> rfl), by repeat (first | (with_reducible first | exact HB.out | apply below_alloc | apply pw_below_drewN | apply below_drew1 | refine below_set ?_ GE136.out) | exact HB.out)⟩
      · replace c7 := Bool.eq_false_iff.mpr c7
        subst c7
        have H1 : ((impl_copied.f l0).bind fun t138 => ((asn1_ZZHeader.f kj2 t138 a1).bind fun bt141 => (if bt141.2.2.2.2.2.isNone = true then (some (bt141.1, bt141.2.1, bt141.2.2.1, bt141.2.2.2.1, bt141.2.2.2.2.1, true)) else (some (0, 0, 0, false, 0, false))))) = some (r1, r2, r3, r4, r5, r6) := by rw [if_neg (show ¬ (false = true) by decide)] at H; exact H
        clear H
        have H := H1
        clear H1
        replace H := Option.bind_eq_some_iff.mp H
        obtain ⟨t138, A90, H⟩ := H
        replace H : ((asn1_ZZHeader.f kj2 t138 a1).bind fun bt141 => (if bt141.2.2.2.2.2.isNone = true then (some (bt141.1, bt141.2.1, bt141.2.2.1, bt141.2.2.2.1, bt141.2.2.2.2.1, true)) else (some (0, 0, 0, false, 0, false)))) = some (r1, r2, r3, r4, r5, r6) := H
        have A9 := Aside0.mk A90
        clear A90
        replace H := Option.bind_eq_some_iff.mp H
        obtain ⟨⟨t141, t142, t143, t144, t145, t146⟩, A100, H⟩ := H
        replace H : (if t146.isNone = true then (some (t141, t142, t143, t144, t145, true)) else (some (0, 0, 0, false, 0, false))) = some (r1, r2, r3, r4, r5, r6) := H
        have A10 := Aside0.mk A100
        clear A100
        rcases t146 with _ | q147
        · have H1 : (some (t141, t142, t143, t144, t145, true)) = some (r1, r2, r3, r4, r5, r6) := by rw [if_pos (show (none : Option Int).isNone = true by rfl)] at H; exact H
          clear H
          have H := H1
          clear H1
          try simp only [errW_none, errW_some]
          simp only [Option.some.injEq, Prod.mk.injEq] at H
          obtain ⟨rfl, rfl, rfl, rfl, rfl, rfl⟩ := H
          go_wp2_with (first | ((with_reducible refine gate_callee (f := 37) rfl ?_); refine goesL_ (some 23) rfl rfl Try.func37 (by kernel_rfl) rfl #[.slice A0 l0.length c0] rfl (by (try simp only [List.map_toArray, List.map_cons, List.map_nil]); first | done | rfl | (simp only [List.length_drop, List.length_take]; rfl)) ?_; (with_reducible refine (impl_copied.calls _ _ l0 t138 _ ?side1 ?side2 A9.out).mono ?_); (case side1 => repeat (first | exact (Kd.C_below HR0.out HB.out) | (with_reducible refine Kd.C_alloc ?_ _) | (with_reducible refine Kd.C_drewN ?_ _) | (with_reducible refine Kd.C_drew ?_))); (case side2 => exact HC0.out); rintro e w11 ⟨v139, rfl, ho0, hb⟩; refine ⟨_, rfl, ?_⟩; have n0_ := Aside0.mk (Kd.R_lower ho0 (below_size (by repeat (first | (with_reducible first | exact HB.out | apply below_alloc | apply pw_below_drewN | apply below_drew1 | refine below_set ?_ GE136.out) | exact HB.out)))); have n1_ := Aside0.mk (blk_below (g := gb136) (o := .cells #[.int .i64 0, .int .i64 0, .int .i64 0, .bool false] 41 (0, 0)) (by (with_reducible repeat (first | refine blk_drewN ?_ _ | refine blk_drew ?_ | refine blk_alloc ?_ _)); exact BK136.out) hb); have n2_ := Aside0.mk (below_step (by repeat (first | (with_reducible first | exact HB.out | apply below_alloc | apply pw_below_drewN | apply below_drew1 | refine below_set ?_ GE136.out) | exact HB.out)) hb); clear BK136; clear HB; have HO140 := n0_; have BK136 := n1_; have HB := n2_; clear n0_ n1_ n2_; (try clear hb); (try clear hb2); (try clear hk); (try clear hi); (try clear ho0); obtain ⟨Ao12, co12, eo12⟩ := Kd.R_slice HO140.out; subst eo12) | ((with_reducible refine gate_callee (f := 46) rfl ?_); refine goesL_ (some 25) rfl rfl Try.func46 (by kernel_rfl) rfl #[.slice Ao12 t138.length co12, .int .i64 a1] rfl (by (try simp only [List.map_toArray, List.map_cons, List.map_nil]); first | done | rfl | (simp only [List.length_drop, List.length_take]; rfl)) ?_; (with_reducible refine (asn1_ZZHeader.calls kj2 _ _ t138 a1 t141 t142 t143 t144 t145 none _ ?side1 ?side2 A10.out).mono ?_); (case side1 => repeat (first | exact (Kd.R_reads' HO140.out).2.2 | (with_reducible refine Kd.C_alloc ?_ _) | (with_reducible refine Kd.C_drewN ?_ _) | (with_reducible refine Kd.C_drew ?_))); (case side2 => exact (Kd.R_reads' HO140.out).2.1); rintro e w13 ⟨rfl, hb⟩; refine ⟨_, rfl, ?_⟩; have n0_ := Aside0.mk (Kd.R_below (by (with_reducible repeat (first | apply Kd.R_alloc | apply Kd.R_drewN | apply Kd.R_drew)); exact HO140.out) hb); have n1_ := Aside0.mk (blk_below (g := gb136) (o := .cells #[.int .i64 0, .int .i64 0, .int .i64 0, .bool false] 41 (0, 0)) (by (with_reducible repeat (first | refine blk_drewN ?_ _ | refine blk_drew ?_ | refine blk_alloc ?_ _)); exact BK136.out) hb); have n2_ := Aside0.mk (below_step (by repeat (first | (with_reducible first | exact HB.out | apply below_alloc | apply pw_below_drewN | apply below_drew1 | refine below_set ?_ GE136.out) | exact HB.out)) hb); clear HO140; clear BK136; clear HB; have HO140 := n0_; have BK136 := n1_; have HB := n2_; clear n0_ n1_ n2_; (try clear hb); (try clear hb2); (try clear hk); (try clear hi); (try simp only [errW_none, errW_some]); have hcz14_0 : w13.cell? ⟨gb136, 0, none⟩ = some (.int .i64 0) := (blk_cell BK136.out 0).trans rfl; have hcz14_1 : w13.cell? ⟨gb136, 1, none⟩ = some (.int .i64 0) := (blk_cell BK136.out 1).trans rfl; have hcz14_2 : w13.cell? ⟨gb136, 2, none⟩ = some (.int .i64 0) := (blk_cell BK136.out 2).trans rfl; have hcz14_3 : w13.cell? ⟨gb136, 3, none⟩ = some (.bool false) := (blk_cell BK136.out 3).trans rfl; have hfz14_0 := blk_frozen BK136.out 0; have hfz14_1 := blk_frozen BK136.out 1; have hfz14_2 := blk_frozen BK136.out 2; have hfz14_3 := blk_frozen BK136.out 3))
          refine bodyPost_ret (results_ctt rfl _ _ gb136 41 #[.int .i64 t141, .int .i64 t142, .int .i64 t143, .bool t144] (0, 0) _ rfl (by (with_reducible repeat (first | refine blk_drewN ?_ _ | refine blk_drew ?_ | refine blk_alloc ?_ _)); refine blk_put (cs := #[.int .i64 t141, .int .i64 t142, .int .i64 t143, .bool false]) ?_ 3 _ rfl; (with_reducible repeat (first | refine blk_drewN ?_ _ | refine blk_drew ?_ | refine blk_alloc ?_ _)); refine blk_put (cs := #[.int .i64 t141, .int .i64 t142, .int .i64 0, .bool false]) ?_ 2 _ rfl; (with_reducible repeat (first | refine blk_drewN ?_ _ | refine blk_drew ?_ | refine blk_alloc ?_ _)); refine blk_put (cs := #[.int .i64 t141, .int .i64 0, .int .i64 0, .bool false]) ?_ 1 _ rfl; (with_reducible repeat (first | refine blk_drewN ?_ _ | refine blk_drew ?_ | refine blk_alloc ?_ _)); refine blk_put (cs := #[.int .i64 0, .int .i64 0, .int .i64 0, .bool false]) ?_ 0 _ rfl; (with_reducible repeat (first | refine blk_drewN ?_ _ | refine blk_drew ?_ | refine blk_alloc ?_ _)); exact BK136.out) Try.underlying41 rfl (by kernel_rfl)) rfl ?_
          exact ⟨by first | rfl | (simp [errW_none, errW_some] <;> rfl) | (simp [*, errW_none, errW_some] <;> rfl), by repeat (first | (with_reducible first | exact HB.out | apply below_alloc | apply pw_below_drewN | apply below_drew1 | refine below_set ?_ GE136.out) | exact HB.out)⟩
        · have H1 : (some (0, 0, 0, false, 0, false)) = some (r1, r2, r3, r4, r5, r6) := by rw [if_neg (show ¬ (some q147).isNone = true by simp)] at H; exact H
          clear H
          have H := H1
          clear H1
          try simp only [errW_none, errW_some]
          simp only [Option.some.injEq, Prod.mk.injEq] at H
          obtain ⟨rfl, rfl, rfl, rfl, rfl, rfl⟩ := H
          go_wp2_with (first | ((with_reducible refine gate_callee (f := 37) rfl ?_); refine goesL_ (some 23) rfl rfl Try.func37 (by kernel_rfl) rfl #[.slice A0 l0.length c0] rfl (by (try simp only [List.map_toArray, List.map_cons, List.map_nil]); first | done | rfl | (simp only [List.length_drop, List.length_take]; rfl)) ?_; (with_reducible refine (impl_copied.calls _ _ l0 t138 _ ?side1 ?side2 A9.out).mono ?_); (case side1 => repeat (first | exact (Kd.C_below HR0.out HB.out) | (with_reducible refine Kd.C_alloc ?_ _) | (with_reducible refine Kd.C_drewN ?_ _) | (with_reducible refine Kd.C_drew ?_))); (case side2 => exact HC0.out); rintro e w15 ⟨v139, rfl, ho0, hb⟩; refine ⟨_, rfl, ?_⟩; have n0_ := Aside0.mk (Kd.R_lower ho0 (below_size (by repeat (first | (with_reducible first | exact HB.out | apply below_alloc | apply pw_below_drewN | apply below_drew1 | refine below_set ?_ GE136.out) | exact HB.out)))); have n1_ := Aside0.mk (blk_below (g := gb136) (o := .cells #[.int .i64 0, .int .i64 0, .int .i64 0, .bool false] 41 (0, 0)) (by (with_reducible repeat (first | refine blk_drewN ?_ _ | refine blk_drew ?_ | refine blk_alloc ?_ _)); exact BK136.out) hb); have n2_ := Aside0.mk (below_step (by repeat (first | (with_reducible first | exact HB.out | apply below_alloc | apply pw_below_drewN | apply below_drew1 | refine below_set ?_ GE136.out) | exact HB.out)) hb); clear BK136; clear HB; have HO140 := n0_; have BK136 := n1_; have HB := n2_; clear n0_ n1_ n2_; (try clear hb); (try clear hb2); (try clear hk); (try clear hi); (try clear ho0); obtain ⟨Ao16, co16, eo16⟩ := Kd.R_slice HO140.out; subst eo16) | ((with_reducible refine gate_callee (f := 46) rfl ?_); refine goesL_ (some 25) rfl rfl Try.func46 (by kernel_rfl) rfl #[.slice Ao16 t138.length co16, .int .i64 a1] rfl (by (try simp only [List.map_toArray, List.map_cons, List.map_nil]); first | done | rfl | (simp only [List.length_drop, List.length_take]; rfl)) ?_; (with_reducible refine (asn1_ZZHeader.calls kj2 _ _ t138 a1 t141 t142 t143 t144 t145 (some q147) _ ?side1 ?side2 A10.out).mono ?_); (case side1 => repeat (first | exact (Kd.R_reads' HO140.out).2.2 | (with_reducible refine Kd.C_alloc ?_ _) | (with_reducible refine Kd.C_drewN ?_ _) | (with_reducible refine Kd.C_drew ?_))); (case side2 => exact (Kd.R_reads' HO140.out).2.1); rintro e w17 ⟨rfl, hb⟩; refine ⟨_, rfl, ?_⟩; have n0_ := Aside0.mk (Kd.R_below (by (with_reducible repeat (first | apply Kd.R_alloc | apply Kd.R_drewN | apply Kd.R_drew)); exact HO140.out) hb); have n1_ := Aside0.mk (blk_below (g := gb136) (o := .cells #[.int .i64 0, .int .i64 0, .int .i64 0, .bool false] 41 (0, 0)) (by (with_reducible repeat (first | refine blk_drewN ?_ _ | refine blk_drew ?_ | refine blk_alloc ?_ _)); exact BK136.out) hb); have n2_ := Aside0.mk (below_step (by repeat (first | (with_reducible first | exact HB.out | apply below_alloc | apply pw_below_drewN | apply below_drew1 | refine below_set ?_ GE136.out) | exact HB.out)) hb); clear HO140; clear BK136; clear HB; have HO140 := n0_; have BK136 := n1_; have HB := n2_; clear n0_ n1_ n2_; (try clear hb); (try clear hb2); (try clear hk); (try clear hi); (try simp only [errW_none, errW_some]); have hcz18_0 : w17.cell? ⟨gb136, 0, none⟩ = some (.int .i64 0) := (blk_cell BK136.out 0).trans rfl; have hcz18_1 : w17.cell? ⟨gb136, 1, none⟩ = some (.int .i64 0) := (blk_cell BK136.out 1).trans rfl; have hcz18_2 : w17.cell? ⟨gb136, 2, none⟩ = some (.int .i64 0) := (blk_cell BK136.out 2).trans rfl; have hcz18_3 : w17.cell? ⟨gb136, 3, none⟩ = some (.bool false) := (blk_cell BK136.out 3).trans rfl; have hfz18_0 := blk_frozen BK136.out 0; have hfz18_1 := blk_frozen BK136.out 1; have hfz18_2 := blk_frozen BK136.out 2; have hfz18_3 := blk_frozen BK136.out 3))
          refine bodyPost_ret (results_ctt rfl _ _ gb136 41 #[.int .i64 0, .int .i64 0, .int .i64 0, .bool false] (0, 0) _ rfl (by (with_reducible repeat (first | refine blk_drewN ?_ _ | refine blk_drew ?_ | refine blk_alloc ?_ _)); refine blk_put (cs := #[.int .i64 0, .int .i64 0, .int .i64 0, .bool false]) ?_ 3 _ rfl; (with_reducible repeat (first | refine blk_drewN ?_ _ | refine blk_drew ?_ | refine blk_alloc ?_ _)); refine blk_put (cs := #[.int .i64 0, .int .i64 0, .int .i64 0, .bool false]) ?_ 2 _ rfl; (with_reducible repeat (first | refine blk_drewN ?_ _ | refine blk_drew ?_ | refine blk_alloc ?_ _)); refine blk_put (cs := #[.int .i64 0, .int .i64 0, .int .i64 0, .bool false]) ?_ 1 _ rfl; (with_reducible repeat (first | refine blk_drewN ?_ _ | refine blk_drew ?_ | refine blk_alloc ?_ _)); refine blk_put (cs := #[.int .i64 0, .int .i64 0, .int .i64 0, .bool false]) ?_ 0 _ rfl; (with_reducible repeat (first | refine blk_drewN ?_ _ | refine blk_drew ?_ | refine blk_alloc ?_ _)); exact BK136.out) Try.underlying41 rfl (by kernel_rfl)) rfl ?_
          exact ⟨by first | rfl | (simp [errW_none, errW_some] <;> rfl) | (simp [*, errW_none, errW_some] <;> rfl), by repeat (first | (with_reducible first | exact HB.out | apply below_alloc | apply pw_below_drewN | apply below_drew1 | refine below_set ?_ GE136.out) | exact HB.out)⟩

/-- An error that was made by errors.New. -/
def NewErr (w : World) (e : Ending) (w' : World) : Prop := ∃ T x, e = .returned (.iface T x) ∧ Below w.heap.size w w'
set_option maxHeartbeats 1000000 in
theorem errors_New_any (s : ByteArray) (w : World) : Calls Try.prog 60 #[.string s] w (NewErr w) := by
  have hu94 := Try.underlying94
  go_enter Try.func60, Try.ntmps60
  go_wp2
  go_ret
  exact ⟨_, _, rfl, (Below.refl _ _).alloc (Nat.le_refl _) _⟩
def TagEnd (w : World) (a1 : Int) (e : Ending) (w' : World) : Prop := ∃ T x, e = .returned (.tuple #[.agg #[.int .i64 0, .int .i64 0, .int .i64 0, .bool false], .int .i64 a1, .iface T x]) ∧ Below w.heap.size w w'
set_option maxHeartbeats 1000000 in
theorem parseTag_end (A0 : Option Addr) (c0 : Nat) (l0 : List Int) (a1 : Int) (w : World) (h : (l0.length : Int) ≤ a1) : Calls Try.prog 56 #[.slice A0 l0.length c0, .int .i64 a1] w (TagEnd w a1) := by
  have hu82 := Try.underlying82
  have c1 : decide ((l0.length : Int) ≤ a1) = true := decide_eq_true h
  have HB := Aside0.mk (Below.refl w.heap.size w)
  clear h
  go_enter Try.func56, Try.ntmps56
  go_wp2_with (first | ((with_reducible refine gate_dst (N := 4) rfl ?_); refine box_event ?hg (N := 4) ?hd (cs := #[.int .i64 0, .int .i64 0, .int .i64 0, .bool false]) (t := 82) ?hr ?_; (case hd => rfl); (case hg => rfl); (case hr => first | (go_simp; done) | (go_simp; rfl)); intro gb hg w3 hbox hb; have BK := Aside0.mk hbox; have HB2 := Aside0.mk (below_step HB.out hb); clear hbox hb; clear hg) | (go_at_call 60; refine (errors_New_any _ _).mono ?_; rintro e w4 ⟨T, x, rfl, hb4⟩; have HB4 := Aside0.mk hb4; clear hb4))
  refine bodyPost_ret (results_ctt rfl _ _ gb 82 #[.int .i64 0, .int .i64 0, .int .i64 0, .bool false] (0, 0) _ rfl (blk_below BK.out HB4.out) Try.underlying82 rfl (by kernel_rfl)) rfl ?_
  exact ⟨T, x, by rfl, below_step HB2.out HB4.out⟩
def ZZEnd (w : World) (a1 : Int) (e : Ending) (w' : World) : Prop := ∃ T x, e = .returned (.tuple #[.int .i64 0, .int .i64 0, .int .i64 0, .bool false, .int .i64 a1, .iface T x]) ∧ Below w.heap.size w w'
set_option maxHeartbeats 1000000 in
theorem ZZHeader_end (A0 : Option Addr) (c0 : Nat) (l0 : List Int) (a1 : Int) (w : World) (h : (l0.length : Int) ≤ a1) : Calls Try.prog 46 #[.slice A0 l0.length c0, .int .i64 a1] w (ZZEnd w a1) := by
  have hu82 := Try.underlying82
  have HC := Aside0.mk h
  have HB := Aside0.mk (Below.refl w.heap.size w)
  clear h
  go_enter Try.func46, Try.ntmps46
  go_wp2_with (first | (go_at_call 56; (with_reducible refine (parseTag_end _ _ l0 a1 _ HC.out).mono ?_); rintro e w4 ⟨T, x, rfl, hb⟩; have HB2 := Aside0.mk (below_step HB.out hb); clear hb) | ((with_reducible refine gate_dst (N := 10) rfl ?_); refine box_event ?hg (N := 10) ?hd (cs := #[.int .i64 0, .int .i64 0, .int .i64 0, .bool false]) (t := 82) ?hr ?_; (case hd => rfl); (case hg => rfl); (case hr => first | (go_simp; done) | (go_simp; rfl)); intro gb hg w5 hbox hb; have BK := Aside0.mk hbox; have HB3 := Aside0.mk (below_step HB2.out hb); have GE := Aside0.mk ((by rw [hg]; exact HB2.out.size) : w.heap.size ≤ gb); have hc0 := (blk_cell BK.out 0).trans (show _ = some (.int .i64 0) from rfl); have hc1 := (blk_cell BK.out 1).trans (show _ = some (.int .i64 0) from rfl); have hc2 := (blk_cell BK.out 2).trans (show _ = some (.int .i64 0) from rfl); have hc3 := (blk_cell BK.out 3).trans (show _ = some (.bool false) from rfl); have hf0 := blk_frozen BK.out 0; have hf1 := blk_frozen BK.out 1; have hf2 := blk_frozen BK.out 2; have hf3 := blk_frozen BK.out 3; clear hbox hb; clear hg))
  repeat (go_quiet (fail))
  go_wp2
  refine bodyPost_ret (results_list (rs := [.tmp 4, .tmp 5, .tmp 6, .tmp 7, .tmp 8, .tmp 9]) rfl (by simp) (.tmp (.tmp (.tmp (.tmp (.tmp (.tmp .nil))))))) rfl ?_
  exact ⟨T, x, by first | rfl | (simp; rfl), by repeat (first | (with_reducible first | exact HB3.out | apply below_alloc | apply pw_below_drewN | apply below_drew1 | refine below_set ?_ GE.out) | exact HB3.out)⟩
def RHEnd (w : World) (e : Ending) (w' : World) : Prop := e = .returned (.tuple #[.agg #[.int .i64 0, .int .i64 0, .int .i64 0, .bool false], .int .i64 0, .bool false]) ∧ Below w.heap.size w w'
set_option maxHeartbeats 1000000 in
theorem ReadHeader_end (A0 : Option Addr) (c0 : Nat) (l0 : List Int) (a1 : Int) (w : World) (hr0 : Kd.C (Kd.int .u8) w A0 l0.length l0) (hc0 : l0.length ≤ c0) (hl : l0.length ≤ 10000) (h0 : 0 ≤ a1) (h : (l0.length : Int) ≤ a1) : Calls Try.prog 32 #[.slice A0 l0.length c0, .int .i64 a1] w (RHEnd w) := by
  have hu41 := Try.underlying41
  have HR0 := Aside0.mk hr0
  have HC0 := Aside0.mk hc0
  have HC := Aside0.mk h
  have HS := Aside0.mk (show impl_short.f l0 = some true by simp [impl_short.f]; omega)
  have HP := Aside0.mk (show impl_copied.f l0 = some l0 by simp [impl_copied.f]; omega)
  have HB := Aside0.mk (Below.refl w.heap.size w)
  have c1 : decide (a1 < 0) = false := decide_eq_false (by omega)
  clear h0 h hl hr0 hc0
  go_enter Try.func32, Try.ntmps32
  go_wp2_with (first | ((with_reducible refine gate_dst (N := 4) rfl ?_); refine box_event ?hg (N := 4) ?hd (cs := #[.int .i64 0, .int .i64 0, .int .i64 0, .bool false]) (t := 41) ?hr ?_; (case hd => rfl); (case hg => rfl); (case hr => first | (go_simp; done) | (go_simp; rfl)); intro gb hg w5 hbox hb; have BK := Aside0.mk hbox; have HB3 := Aside0.mk (below_step HB.out hb); have GE := Aside0.mk ((by rw [hg]; exact HB.out.size) : w.heap.size ≤ gb); clear hbox hb; clear hg) | (go_at_call 35; (with_reducible refine (impl_short.calls _ _ l0 true _ (Kd.C_below HR0.out HB3.out) HC0.out HS.out).mono ?_); rintro e w6 ⟨rfl, hd⟩; have HB4 := Aside0.mk (below_step HB3.out hd.below); have BK4 := Aside0.mk (blk_below BK.out hd.below); clear hd) | (go_at_call 37; (with_reducible refine (impl_copied.calls _ _ l0 l0 _ (Kd.C_below HR0.out HB4.out) HC0.out HP.out).mono ?_); rintro e w7 ⟨v0, rfl, ho, hb⟩; have HB5 := Aside0.mk (below_step HB4.out hb); have BK5 := Aside0.mk (blk_below BK4.out hb); obtain ⟨A5, c5, e5⟩ := Kd.R_slice ho; subst e5; clear hb ho) | (go_at_call 46; (with_reducible refine (ZZHeader_end _ _ l0 a1 _ HC.out).mono ?_); rintro e w8 ⟨T, x, rfl, hb⟩; have HB6 := Aside0.mk (below_step HB5.out hb); have BK6 := Aside0.mk (blk_below BK5.out hb); have hc0 := (blk_cell BK6.out 0).trans (show _ = some (.int .i64 0) from rfl); have hc1 := (blk_cell BK6.out 1).trans (show _ = some (.int .i64 0) from rfl); have hc2 := (blk_cell BK6.out 2).trans (show _ = some (.int .i64 0) from rfl); have hc3 := (blk_cell BK6.out 3).trans (show _ = some (.bool false) from rfl); have hf0 := blk_frozen BK6.out 0; have hf1 := blk_frozen BK6.out 1; have hf2 := blk_frozen BK6.out 2; have hf3 := blk_frozen BK6.out 3;  clear hb))
  refine bodyPost_ret (results_ctt rfl _ _ gb 41 #[.int .i64 0, .int .i64 0, .int .i64 0, .bool false] (0, 0) _ rfl (by repeat (first | exact BK6.out | refine blk_put (cs := #[.int .i64 0, .int .i64 0, .int .i64 0, .bool false]) ?_ _ _ rfl)) Try.underlying41 rfl (by kernel_rfl)) rfl ?_
  exact ⟨by first | rfl | (simp; rfl), by repeat (first | (with_reducible first | exact HB6.out | apply below_alloc | apply pw_below_drewN | apply below_drew1 | refine below_set ?_ GE.out) | exact HB6.out)⟩

def impl_ReadHeader.f (k : Nat) (l0 : List Int) (a1 : Int) : Option (Int × Int × Int × Bool × Int × Bool) := if l0.length ≤ 10000 ∧ 0 ≤ a1 ∧ (l0.length : Int) ≤ a1 then some (0, 0, 0, false, 0, false) else impl_ReadHeaderIn.f k l0 a1
theorem impl_ReadHeader.mono : ∀ a0 a1 k, LeO (impl_ReadHeader.f k a0 a1) (impl_ReadHeader.f (k + 1) a0 a1) := fun a0 a1 k => LeO.ite (LeO.refl _) (impl_ReadHeaderIn.mono a0 a1 k)
theorem impl_ReadHeader.calls (k : Nat) (A0 : Option Addr) (c0 : Nat) (l0 : List Int) (a1 : Int) (r1 : Int) (r2 : Int) (r3 : Int) (r4 : Bool) (r5 : Int) (r6 : Bool) (w : World) (hr0 : Kd.C (Kd.int .u8) w A0 l0.length l0) (hc0 : l0.length ≤ c0) (h : impl_ReadHeader.f k l0 a1 = some (r1, r2, r3, r4, r5, r6)) :
    Calls Try.prog 32 #[.slice A0 l0.length c0, .int .i64 a1] w fun e w' => e = .returned (.tuple #[.agg #[.int .i64 r1, .int .i64 r2, .int .i64 r3, .bool r4], .int .i64 r5, .bool r6]) ∧ Below w.heap.size w w' := by
  unfold impl_ReadHeader.f at h
  by_cases c : l0.length ≤ 10000 ∧ 0 ≤ a1 ∧ (l0.length : Int) ≤ a1
  · rw [if_pos c] at h
    simp only [Option.some.injEq, Prod.mk.injEq] at h
    obtain ⟨rfl, rfl, rfl, rfl, rfl, rfl⟩ := h
    exact ReadHeader_end A0 c0 l0 a1 w hr0 hc0 c.1 c.2.1 c.2.2
  · rw [if_neg c] at h
    exact impl_ReadHeaderIn.calls k A0 c0 l0 a1 r1 r2 r3 r4 r5 r6 w hr0 hc0 h

/-! ### laws_header: function 33 -/
def laws_header.f (a0_0 : Int) (a0_1 : Int) (a0_2 : Int) (a0_3 : Bool) : Option (Int × Int × Int × Bool) := some (a0_0, a0_1, a0_2, a0_3)
set_option maxHeartbeats 8000000 in
set_option maxRecDepth 100000 in
theorem laws_header.calls (a0_0 : Int) (a0_1 : Int) (a0_2 : Int) (a0_3 : Bool) (r1 : Int) (r2 : Int) (r3 : Int) (r4 : Bool) (w : World) (h : laws_header.f a0_0 a0_1 a0_2 a0_3 = some (r1, r2, r3, r4)) :
    Calls Try.prog 33 #[.agg #[.int .i64 a0_0, .int .i64 a0_1, .int .i64 a0_2, .bool a0_3]] w fun e w' => e = .returned (.agg #[.int .i64 r1, .int .i64 r2, .int .i64 r3, .bool r4]) ∧ Below w.heap.size w w' := by
  have hu44 := Try.underlying44
  have hu41 := Try.underlying41
  have HB := Aside0.mk (Below.refl w.heap.size w)
  have H : (some (a0_0, a0_1, a0_2, a0_3)) = some (r1, r2, r3, r4) := h
  clear h
  simp only [Option.some.injEq, Prod.mk.injEq] at H
  obtain ⟨rfl, rfl, rfl, rfl⟩ := H
  go_enter Try.func33, Try.ntmps33
  go_wp2_with (first | ((with_reducible refine gate_dst (N := 1) rfl ?_); refine box_event ?hg (N := 1) ?hd (cs := #[.int .i64 a0_0, .int .i64 a0_1, .int .i64 a0_2, .bool a0_3]) (t := 44) ?hr ?_; (case hd => rfl); (case hg => rfl); (case hr => first | (go_simp; done) | (go_simp; rfl)); intro gb148 hg w2 hbox hb; have n0_ := Aside0.mk (below_step (by repeat (first | (with_reducible first | exact HB.out | apply below_alloc | apply pw_below_drewN | apply below_drew1) | exact HB.out)) hb); have n1_ := Aside0.mk (hbox); have n2_ := Aside0.mk ((by rw [hg]; exact (below_size (by repeat (first | (with_reducible first | exact HB.out | apply below_alloc | apply pw_below_drewN | apply below_drew1) | exact HB.out))) : w.heap.size ≤ gb148)); have n3_ := Aside0.mk ((by rw [hg]; exact (below_size (by repeat (first | (with_reducible first | exact HB.out | apply below_alloc | apply pw_below_drewN | apply below_drew1) | exact HB.out))) : w.heap.size ≤ gb148)); clear HB; have HB := n0_; have BK148 := n1_; have GW148 := n2_; have GE148 := n3_; clear n0_ n1_ n2_ n3_; clear hb hbox hg) | ((with_reducible refine gate_dst (N := 2) rfl ?_); refine box_event ?hg (N := 2) ?hd (cs := #[.int .i64 0, .int .i64 0, .int .i64 0, .bool false]) (t := 41) ?hr ?_; (case hd => rfl); (case hg => rfl); (case hr => first | (go_simp; done) | (go_simp; rfl)); intro gb149 hg w3 hbox hb; have n0_ := Aside0.mk (blk_below (g := gb148) (o := .cells #[.int .i64 a0_0, .int .i64 a0_1, .int .i64 a0_2, .bool a0_3] 44 (0, 0)) (by (with_reducible repeat (first | refine blk_drewN ?_ _ | refine blk_drew ?_ | refine blk_alloc ?_ _)); exact BK148.out) hb); have n1_ := Aside0.mk (below_step (by repeat (first | (with_reducible first | exact HB.out | apply below_alloc | apply pw_below_drewN | apply below_drew1 | refine below_set ?_ GE148.out) | exact HB.out)) hb); have n2_ := Aside0.mk (hbox); have n3_ := Aside0.mk ((by rw [hg]; exact (below_size (by repeat (first | (with_reducible first | exact HB.out | apply below_alloc | apply pw_below_drewN | apply below_drew1 | refine below_set ?_ GE148.out) | exact HB.out))) : w.heap.size ≤ gb149)); have n4_ := Aside0.mk ((by rw [hg]; exact (below_size (by repeat (first | (with_reducible first | exact HB.out | apply below_alloc | apply pw_below_drewN | apply below_drew1 | refine below_set ?_ GE148.out) | exact HB.out))) : w.heap.size ≤ gb149)); have n5_ := Aside0.mk ((by rw [hg]; exact Nat.ne_of_lt (blk_lt (g := gb148) (o := .cells #[.int .i64 a0_0, .int .i64 a0_1, .int .i64 a0_2, .bool a0_3] 44 (0, 0)) (by (with_reducible repeat (first | refine blk_drewN ?_ _ | refine blk_drew ?_ | refine blk_alloc ?_ _)); exact BK148.out)) : gb148 ≠ gb149)); have n6_ := Aside0.mk ((by rw [hg]; exact Nat.ne_of_gt (blk_lt (g := gb148) (o := .cells #[.int .i64 a0_0, .int .i64 a0_1, .int .i64 a0_2, .bool a0_3] 44 (0, 0)) (by (with_reducible repeat (first | refine blk_drewN ?_ _ | refine blk_drew ?_ | refine blk_alloc ?_ _)); exact BK148.out)) : gb149 ≠ gb148)); clear BK148; clear HB; have BK148 := n0_; have HB := n1_; have BK149 := n2_; have GW149 := n3_; have GE149 := n4_; have NB148_149 := n5_; have NB149_148 := n6_; clear n0_ n1_ n2_ n3_ n4_ n5_ n6_; clear hb hbox hg; have hnb4 := NB148_149.out; have hnc4 := NB149_148.out; have hcz5_0 : w3.cell? ⟨gb148, 0, none⟩ = some (.int .i64 a0_0) := (blk_cell BK148.out 0).trans rfl; have hcz5_1 : w3.cell? ⟨gb148, 1, none⟩ = some (.int .i64 a0_1) := (blk_cell BK148.out 1).trans rfl; have hcz5_2 : w3.cell? ⟨gb148, 2, none⟩ = some (.int .i64 a0_2) := (blk_cell BK148.out 2).trans rfl; have hcz5_3 : w3.cell? ⟨gb148, 3, none⟩ = some (.bool a0_3) := (blk_cell BK148.out 3).trans rfl; have hfz5_0 := blk_frozen BK148.out 0; have hfz5_1 := blk_frozen BK148.out 1; have hfz5_2 := blk_frozen BK148.out 2; have hfz5_3 := blk_frozen BK148.out 3; have hcz6_0 : w3.cell? ⟨gb149, 0, none⟩ = some (.int .i64 0) := (blk_cell BK149.out 0).trans rfl; have hcz6_1 : w3.cell? ⟨gb149, 1, none⟩ = some (.int .i64 0) := (blk_cell BK149.out 1).trans rfl; have hcz6_2 : w3.cell? ⟨gb149, 2, none⟩ = some (.int .i64 0) := (blk_cell BK149.out 2).trans rfl; have hcz6_3 : w3.cell? ⟨gb149, 3, none⟩ = some (.bool false) := (blk_cell BK149.out 3).trans rfl; have hfz6_0 := blk_frozen BK149.out 0; have hfz6_1 := blk_frozen BK149.out 1; have hfz6_2 := blk_frozen BK149.out 2; have hfz6_3 := blk_frozen BK149.out 3))
  refine bodyPost_ret (results_cell_row rfl _ _ gb149 41 #[.int .i64 a0_0, .int .i64 a0_1, .int .i64 a0_2, .bool a0_3] (0, 0) _ rfl (by (with_reducible repeat (first | refine blk_drewN ?_ _ | refine blk_drew ?_ | refine blk_alloc ?_ _)); refine blk_put (cs := #[.int .i64 a0_0, .int .i64 a0_1, .int .i64 a0_2, .bool false]) ?_ 3 _ rfl; (with_reducible repeat (first | refine blk_drewN ?_ _ | refine blk_drew ?_ | refine blk_alloc ?_ _)); refine blk_put (cs := #[.int .i64 a0_0, .int .i64 a0_1, .int .i64 0, .bool false]) ?_ 2 _ rfl; (with_reducible repeat (first | refine blk_drewN ?_ _ | refine blk_drew ?_ | refine blk_alloc ?_ _)); refine blk_put (cs := #[.int .i64 a0_0, .int .i64 0, .int .i64 0, .bool false]) ?_ 1 _ rfl; (with_reducible repeat (first | refine blk_drewN ?_ _ | refine blk_drew ?_ | refine blk_alloc ?_ _)); refine blk_put (cs := #[.int .i64 0, .int .i64 0, .int .i64 0, .bool false]) ?_ 0 _ rfl; (with_reducible repeat (first | refine blk_drewN ?_ _ | refine blk_drew ?_ | refine blk_alloc ?_ _)); exact BK149.out) Try.underlying41 rfl (by kernel_rfl)) rfl ?_
  exact ⟨by first | rfl | (simp [errW_none, errW_some] <;> rfl) | (simp [*, errW_none, errW_some] <;> rfl), by repeat (first | (with_reducible first | exact HB.out | apply below_alloc | apply pw_below_drewN | apply below_drew1 | refine below_set ?_ GE148.out | refine below_set ?_ GE149.out) | exact HB.out)⟩

end Go.Proofs.Ytapnkngcnlomhaa.QR
