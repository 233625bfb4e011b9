-- Written by a program of this work (wip/patch_print.py) for this claim.
import Derived.Test.YtmiemfgcggkbnaaQBx0
import Derived.Test.YtmiemfgcggkbnaaQBx1
namespace Go.Proofs.Ytmiemfgcggkbnaa.QB
open Go.RowKit Go.Proofs.YtmiemfgcggkbnaaW.PrintWords Go.Proofs.YtmiemfgcggkbnaaW.PrintLast Go.Proofs.YtmiemfgcggkbnaaW.PrintMore
attribute [local go_sem] max2_int min2_int max_two min_two max_three min_three max_four min_four   -- for this text's walks alone
set_option linter.unusedVariables false
set_option linter.unusedSimpArgs false

/-! ### laws_FnPutBits: function 10 -/
def laws_FnPutBits.j0 : Nat → List Int → Int → Bool → Option (Bool)
  | 0, _, _, _ => none
  | k + 1, x0, x1, x28 => if x28 = true then (some true) else ((impl_PutBits.f x0 x1).bind fun t127 => ((impl_ReadBits.f t127).bind fun bt130 => (if (x0.length : Int) = 0 then ((some (([(wrap64 ((wrap64 (8 * (x0.length : Int))) - x1)) % 256] : List Int) : List Int)).bind fun y135 => (if y135.length + x0.length < 140737488355328 then ((bytes_Equal.f t127 (y135 ++ x0)).bind fun t141 => (if t141 = true then (if (bt130.2.2 == true) = true then (if bt130.2.2 = true then ((bytes_Equal.f bt130.1 x0).bind fun t142 => (if t142 = true then (some (bt130.2.1 == x1)) else (some false))) else (some true)) else (some false)) else (some false))) else (none))) else (if 0 ≤ (wrap64 ((x0.length : Int) - 1)) then (if (wrap64 ((x0.length : Int) - 1)) < (x0.length : Int) then ((some (([(wrap64 ((wrap64 (8 * (x0.length : Int))) - x1)) % 256] : List Int) : List Int)).bind fun y144 => (if y144.length + x0.length < 140737488355328 then ((bytes_Equal.f t127 (y144 ++ x0)).bind fun t150 => (if t150 = true then (if (bt130.2.2 == ((Go.bits .and .u8 (rd x0 (wrap64 ((x0.length : Int) - 1))) (((shl .u8 1 ((wrap64 ((wrap64 (8 * (x0.length : Int))) - x1)) % 256)) - 1) % 256)) == 0)) = true then (if bt130.2.2 = true then ((bytes_Equal.f bt130.1 x0).bind fun t151 => (if t151 = true then (some (bt130.2.1 == x1)) else (some false))) else (some true)) else (some false)) else (some false))) else (none))) else (none)) else (none)))))
def laws_FnPutBits.f (k : Nat) (l0 : List Int) (a1 : Int) : Option (Bool) := if (l0.length : Int) > 2147483647 then (some true) else (if (l0.length : Int) > 100 then (laws_FnPutBits.j0 k l0 a1 true) else (if a1 < 0 then (laws_FnPutBits.j0 k l0 a1 true) else (laws_FnPutBits.j0 k l0 a1 ((wrap64 (Int.tdiv (wrap64 (a1 + 7)) 8)) != (l0.length : Int)))))
theorem laws_FnPutBits.mono_l : ∀ k, (∀ y0 y1 y2, LeO (laws_FnPutBits.j0 k y0 y1 y2) (laws_FnPutBits.j0 (k + 1) y0 y1 y2))
  | 0 => fun _ _ _ r h => by simp [laws_FnPutBits.j0] at h
  | k + 1 => by
    have ih0 := laws_FnPutBits.mono_l k
    · intro y0 y1 y2
      unfold laws_FnPutBits.j0
      repeat' first
      | (with_reducible exact ih0 _ _ _)
      | (with_reducible exact LeO.refl _)
      | (with_reducible exact LeO.none _)
      | (with_reducible refine LeO.ite ?_ ?_)
      | (with_reducible refine LeO.bind ?_ (fun _ => ?_))
      | exact ih0 _ _ _
      | exact LeO.none _
      | refine LeO.ite ?_ ?_
      | refine LeO.bind ?_ (fun _ => ?_)
theorem laws_FnPutBits.mono : ∀ a0 a1 k, LeO (laws_FnPutBits.f k a0 a1) (laws_FnPutBits.f (k + 1) a0 a1) := by
  intro a0 a1 k
  have ih0 := laws_FnPutBits.mono_l k
  unfold laws_FnPutBits.f
  repeat' first
      | (with_reducible exact ih0 _ _ _)
      | (with_reducible exact LeO.refl _)
      | (with_reducible exact LeO.none _)
      | (with_reducible refine LeO.ite ?_ ?_)
      | (with_reducible refine LeO.bind ?_ (fun _ => ?_))
      | exact ih0 _ _ _
      | exact LeO.none _
      | refine LeO.ite ?_ ?_
      | refine LeO.bind ?_ (fun _ => ?_)
set_option maxHeartbeats 8000000 in
set_option maxRecDepth 100000 in
theorem laws_FnPutBits.calls (k : Nat) (A0 : Option Addr) (c0 : Nat) (l0 : List Int) (a1 : Int) (r : Bool) (w : World) (hr0 : Kd.C (Kd.int .u8) w A0 l0.length l0) (hc0 : l0.length ≤ c0) (h : laws_FnPutBits.f k l0 a1 = some r) (hrt : r = true) :
    Calls Try.prog 10 #[.slice A0 l0.length c0, .int .i64 a1] w fun e w' => e = .returned (.bool r) ∧ Below w.heap.size w w' := by
  have HR0 := Aside0.mk hr0
  have HC0 := Aside0.mk hc0
  clear hr0 hc0
  have HB := Aside0.mk (Below.refl w.heap.size w)
  have HRT := Aside0.mk hrt
  clear hrt
  have H : (if (l0.length : Int) > 2147483647 then (some true) else (if (l0.length : Int) > 100 then (laws_FnPutBits.j0 k l0 a1 true) else (if a1 < 0 then (laws_FnPutBits.j0 k l0 a1 true) else (laws_FnPutBits.j0 k l0 a1 ((wrap64 (Int.tdiv (wrap64 (a1 + 7)) 8)) != (l0.length : Int)))))) = some r := h
  clear h
  by_cases c3 : (l0.length : Int) > 2147483647
  · rw [if_pos c3] at H
    have c3b0 : decide (2147483647 < (l0.length : Int)) = true := decide_eq_true c3
    have c3b1 : decide (2147483647 < l0.length) = true := decide_eq_true (by omega)
    clear c3
    obtain rfl := Option.some.inj H
    go_enter Try.func10, Try.ntmps10
    go_wp2
    go_ret
    exact ⟨by first | rfl | (simp [errW_none, errW_some] <;> rfl) | (simp [*, errW_none, errW_some] <;> rfl), by repeat (first | (with_reducible first | exact HB.out | apply below_alloc | apply pw_below_drewN | apply below_drew1) | exact HB.out)⟩
  · rw [if_neg c3] at H
    have c3b0 : decide (2147483647 < (l0.length : Int)) = false := decide_eq_false c3
    have c3b1 : decide (2147483647 < l0.length) = false := decide_eq_false (by omega)
    clear c3
    have HC4 := Aside0.mk H
    clear H
    go_enter Try.func10, Try.ntmps10
    go_upto_region 3 with (fail)
    go_cut [28] (fun v28 wc => ∃ (kq : Nat) (x28_3 : Bool), v28 = .bool x28_3 ∧ Aside0 (laws_FnPutBits.j0 kq l0 a1 x28_3 = some r) ∧ Aside0 (kq ≤ k) ∧ Aside0 (Below w.heap.size w wc))
    case first =>
      have H := HC4.out
      clear HC4
      by_cases c5 : (l0.length : Int) > 100
      · rw [if_pos c5] at H
        have c5b0 : decide (100 < (l0.length : Int)) = true := decide_eq_true c5
        have c5b1 : decide (100 < l0.length) = true := decide_eq_true (by omega)
        clear c5
        (first | rw [c5b0] | (simp only [i64_w, i32_w]; rw [c5b0]) | skip)
        have H' := Aside0.mk H
        clear H
        go_wp2
        go_meet
        case rel => exact ⟨_, (true), (by first | rfl | (simp; done) | (simp [*]; done)), H', ⟨by first | omega | exact Nat.le_refl _⟩, ⟨by repeat (first | (with_reducible first | exact HB.out | apply below_alloc | apply pw_below_drewN | apply below_drew1) | exact HB.out)⟩⟩
      · rw [if_neg c5] at H
        have c5b0 : decide (100 < (l0.length : Int)) = false := decide_eq_false c5
        have c5b1 : decide (100 < l0.length) = false := decide_eq_false (by omega)
        clear c5
        (first | rw [c5b0] | (simp only [i64_w, i32_w]; rw [c5b0]) | skip)
        by_cases c6 : a1 < 0
        · rw [if_pos c6] at H
          have c6b0 : decide (a1 < 0) = true := decide_eq_true c6
          clear c6
          have H' := Aside0.mk H
          clear H
          go_wp2
          go_meet
          case rel => exact ⟨_, (true), (by first | rfl | (simp; done) | (simp [*]; done)), H', ⟨by first | omega | exact Nat.le_refl _⟩, ⟨by repeat (first | (with_reducible first | exact HB.out | apply below_alloc | apply pw_below_drewN | apply below_drew1) | exact HB.out)⟩⟩
        · rw [if_neg c6] at H
          have c6b0 : decide (a1 < 0) = false := decide_eq_false c6
          clear c6
          have H' := Aside0.mk H
          clear H
          go_wp2
          go_meet
          case rel => exact ⟨_, (((wrap64 (Int.tdiv (wrap64 (a1 + 7)) 8)) != (l0.length : Int))), (by first | rfl | (simp; done) | (simp [*]; done)), H', ⟨by first | omega | exact Nat.le_refl _⟩, ⟨by repeat (first | (with_reducible first | exact HB.out | apply below_alloc | apply pw_below_drewN | apply below_drew1) | exact HB.out)⟩⟩
    case rest =>
      clear HC4
      try clear c1
      try clear p2
      try clear c3
      try clear c3b0
      try clear c3b1
      try clear c5
      try clear c5b0
      try clear c5b1
      try clear c6
      try clear c6b0
      try clear p6
      obtain ⟨kq, x28_3, rfl, HA, HJ3, HB⟩ := hcut
      cases kq with
      | zero => exact absurd HA.out (by simp [laws_FnPutBits.j0])
      | succ kj3 =>
        have H := HA.out
        clear HA
        simp only [laws_FnPutBits.j0] at H
        by_cases c7 : x28_3 = true
        · subst c7
          have H1 : (some true) = some r := by rw [if_pos rfl] at H; exact H
          clear H
          have H := H1
          clear H1
          obtain rfl := Option.some.inj H
          go_wp2
          go_ret
          exact ⟨by first | rfl | (simp [errW_none, errW_some] <;> rfl) | (simp [*, errW_none, errW_some] <;> rfl), by repeat (first | (with_reducible first | exact HB.out | apply below_alloc | apply pw_below_drewN | apply below_drew1) | exact HB.out)⟩
        · replace c7 := Bool.eq_false_iff.mpr c7
          subst c7
          have H1 : ((impl_PutBits.f l0 a1).bind fun t127 => ((impl_ReadBits.f t127).bind fun bt130 => (if (l0.length : Int) = 0 then ((some (([(wrap64 ((wrap64 (8 * (l0.length : Int))) - a1)) % 256] : List Int) : List Int)).bind fun y135 => (if y135.length + l0.length < 140737488355328 then ((bytes_Equal.f t127 (y135 ++ l0)).bind fun t141 => (if t141 = true then (if (bt130.2.2 == true) = true then (if bt130.2.2 = true then ((bytes_Equal.f bt130.1 l0).bind fun t142 => (if t142 = true then (some (bt130.2.1 == a1)) else (some false))) else (some true)) else (some false)) else (some false))) else (none))) else (if 0 ≤ (wrap64 ((l0.length : Int) - 1)) then (if (wrap64 ((l0.length : Int) - 1)) < (l0.length : Int) then ((some (([(wrap64 ((wrap64 (8 * (l0.length : Int))) - a1)) % 256] : List Int) : List Int)).bind fun y144 => (if y144.length + l0.length < 140737488355328 then ((bytes_Equal.f t127 (y144 ++ l0)).bind fun t150 => (if t150 = true then (if (bt130.2.2 == ((Go.bits .and .u8 (rd l0 (wrap64 ((l0.length : Int) - 1))) (((shl .u8 1 ((wrap64 ((wrap64 (8 * (l0.length : Int))) - a1)) % 256)) - 1) % 256)) == 0)) = true then (if bt130.2.2 = true then ((bytes_Equal.f bt130.1 l0).bind fun t151 => (if t151 = true then (some (bt130.2.1 == a1)) else (some false))) else (some true)) else (some false)) else (some false))) else (none))) else (none)) else (none))))) = some r := by rw [if_neg (show ¬ (false = true) by decide)] at H; exact H
          clear H
          have H := H1
          clear H1
          replace H := Option.bind_eq_some_iff.mp H
          obtain ⟨t127, A80, H⟩ := H
          replace H : ((impl_ReadBits.f t127).bind fun bt130 => (if (l0.length : Int) = 0 then ((some (([(wrap64 ((wrap64 (8 * (l0.length : Int))) - a1)) % 256] : List Int) : List Int)).bind fun y135 => (if y135.length + l0.length < 140737488355328 then ((bytes_Equal.f t127 (y135 ++ l0)).bind fun t141 => (if t141 = true then (if (bt130.2.2 == true) = true then (if bt130.2.2 = true then ((bytes_Equal.f bt130.1 l0).bind fun t142 => (if t142 = true then (some (bt130.2.1 == a1)) else (some false))) else (some true)) else (some false)) else (some false))) else (none))) else (if 0 ≤ (wrap64 ((l0.length : Int) - 1)) then (if (wrap64 ((l0.length : Int) - 1)) < (l0.length : Int) then ((some (([(wrap64 ((wrap64 (8 * (l0.length : Int))) - a1)) % 256] : List Int) : List Int)).bind fun y144 => (if y144.length + l0.length < 140737488355328 then ((bytes_Equal.f t127 (y144 ++ l0)).bind fun t150 => (if t150 = true then (if (bt130.2.2 == ((Go.bits .and .u8 (rd l0 (wrap64 ((l0.length : Int) - 1))) (((shl .u8 1 ((wrap64 ((wrap64 (8 * (l0.length : Int))) - a1)) % 256)) - 1) % 256)) == 0)) = true then (if bt130.2.2 = true then ((bytes_Equal.f bt130.1 l0).bind fun t151 => (if t151 = true then (some (bt130.2.1 == a1)) else (some false))) else (some true)) else (some false)) else (some false))) else (none))) else (none)) else (none)))) = some r := H
          have A8 := Aside0.mk A80
          clear A80
          replace H := Option.bind_eq_some_iff.mp H
          obtain ⟨⟨t130, t131, t132⟩, A90, H⟩ := H
          replace H : (if (l0.length : Int) = 0 then ((some (([(wrap64 ((wrap64 (8 * (l0.length : Int))) - a1)) % 256] : List Int) : List Int)).bind fun y135 => (if y135.length + l0.length < 140737488355328 then ((bytes_Equal.f t127 (y135 ++ l0)).bind fun t141 => (if t141 = true then (if (t132 == true) = true then (if t132 = true then ((bytes_Equal.f t130 l0).bind fun t142 => (if t142 = true then (some (t131 == a1)) else (some false))) else (some true)) else (some false)) else (some false))) else (none))) else (if 0 ≤ (wrap64 ((l0.length : Int) - 1)) then (if (wrap64 ((l0.length : Int) - 1)) < (l0.length : Int) then ((some (([(wrap64 ((wrap64 (8 * (l0.length : Int))) - a1)) % 256] : List Int) : List Int)).bind fun y144 => (if y144.length + l0.length < 140737488355328 then ((bytes_Equal.f t127 (y144 ++ l0)).bind fun t150 => (if t150 = true then (if (t132 == ((Go.bits .and .u8 (rd l0 (wrap64 ((l0.length : Int) - 1))) (((shl .u8 1 ((wrap64 ((wrap64 (8 * (l0.length : Int))) - a1)) % 256)) - 1) % 256)) == 0)) = true then (if t132 = true then ((bytes_Equal.f t130 l0).bind fun t151 => (if t151 = true then (some (t131 == a1)) else (some false))) else (some true)) else (some false)) else (some false))) else (none))) else (none)) else (none))) = some r := H
          have A9 := Aside0.mk A90
          clear A90
          by_cases c10 : (l0.length : Int) = 0
          · rw [if_pos c10] at H
            have c10b0 : ((l0.length : Int) == 0) = true := beq_iff_eq.mpr c10
            have c10b1 : ((l0.length : Int) != 0) = false := bne_eq_false_iff_eq.mpr c10
            clear c10
            obtain ⟨y135, hy135⟩ : ∃ y_ : List Int, y_ = (([(wrap64 ((wrap64 (8 * (l0.length : Int))) - a1)) % 256] : List Int)) := ⟨_, rfl⟩
            replace H : (if y135.length + l0.length < 140737488355328 then ((bytes_Equal.f t127 (y135 ++ l0)).bind fun t141 => (if t141 = true then (if (t132 == true) = true then (if t132 = true then ((bytes_Equal.f t130 l0).bind fun t142 => (if t142 = true then (some (t131 == a1)) else (some false))) else (some true)) else (some false)) else (some false))) else (none)) = some r := by first | (rw [hy135]; with_reducible exact H) | (have H2_ := (Option.bind_some _ _).symm.trans H; rw [hy135]; with_reducible exact H2_) | (have H2_ := (Option.bind_some _ _).symm.trans H; with_reducible exact H2_) | with_reducible exact H | (rw [hy135]; exact H) | exact H
            have Ny135 := Aside0.mk hy135
            clear hy135
            by_cases c11 : y135.length + l0.length < 140737488355328
            · rw [if_pos c11] at H
              have LMc11 := Aside0.mk c11
              clear c11
              obtain ⟨y138, hy138⟩ : ∃ y_ : List Int, y_ = (y135 ++ l0) := ⟨_, rfl⟩
              replace H : ((bytes_Equal.f t127 y138).bind fun t141 => (if t141 = true then (if (t132 == true) = true then (if t132 = true then ((bytes_Equal.f t130 l0).bind fun t142 => (if t142 = true then (some (t131 == a1)) else (some false))) else (some true)) else (some false)) else (some false))) = some r := by first | (rw [hy138]; with_reducible exact H) | (have H2_ := (Option.bind_some _ _).symm.trans H; rw [hy138]; with_reducible exact H2_) | (have H2_ := (Option.bind_some _ _).symm.trans H; with_reducible exact H2_) | with_reducible exact H | (rw [hy138]; exact H) | exact H
              have Ny138 := Aside0.mk hy138
              clear hy138
              replace H := Option.bind_eq_some_iff.mp H
              obtain ⟨t141, A120, H⟩ := H
              replace H : (if t141 = true then (if (t132 == true) = true then (if t132 = true then ((bytes_Equal.f t130 l0).bind fun t142 => (if t142 = true then (some (t131 == a1)) else (some false))) else (some true)) else (some false)) else (some false)) = some r := H
              have A12 := Aside0.mk A120
              clear A120
              by_cases c13 : t141 = true
              · subst c13
                have H1 : (if (t132 == true) = true then (if t132 = true then ((bytes_Equal.f t130 l0).bind fun t142 => (if t142 = true then (some (t131 == a1)) else (some false))) else (some true)) else (some false)) = some r := by rw [if_pos rfl] at H; exact H
                clear H
                have H := H1
                clear H1
                by_cases c14 : (t132 == true) = true
                · rw [if_pos c14] at H
                  have c14b0 : (t132 == true) = true := c14
                  (try (have c14b1 : t132 = true := bool_eq_of _ _ (by simpa using c14)))
                  (try (have c14b2 : decide (t132 = true) = true := by simpa using c14))
                  (try (have c14b3 : (t132 == true) = true := by simpa using c14))
                  clear c14
                  by_cases c15 : t132 = true
                  · subst c15
                    have H1 : ((bytes_Equal.f t130 l0).bind fun t142 => (if t142 = true then (some (t131 == a1)) else (some false))) = some r := by rw [if_pos rfl] at H; exact H
                    clear H
                    have H := H1
                    clear H1
                    replace H := Option.bind_eq_some_iff.mp H
                    obtain ⟨t142, A160, H⟩ := H
                    replace H : (if t142 = true then (some (t131 == a1)) else (some false)) = some r := H
                    have A16 := Aside0.mk A160
                    clear A160
                    by_cases c17 : t142 = true
                    · subst c17
                      have H1 : (some (t131 == a1)) = some r := by rw [if_pos rfl] at H; exact H
                      clear H
                      have H := H1
                      clear H1
                      obtain rfl := Option.some.inj H
                      go_wp2_with (first | ((with_reducible refine gate_callee (f := 35) rfl ?_); refine goesL_ (some 37) rfl rfl Try.func35 (by kernel_rfl) rfl #[.slice A0 l0.length c0, .int .i64 a1] rfl (by (try simp only [List.map_toArray, List.map_cons, List.map_nil]); first | done | rfl | (simp only [List.length_drop, List.length_take]; rfl)) ?_; (with_reducible refine (impl_PutBits.calls _ _ l0 a1 t127 _ ?side1 ?side2 A8.out).mono ?_); (case side1 => repeat (first | exact (Kd.C_below HR0.out HB.out) | (with_reducible refine Kd.C_alloc ?_ _) | (with_reducible refine Kd.C_drewN ?_ _) | (with_reducible refine Kd.C_drew ?_))); (case side2 => exact HC0.out); rintro e w18 ⟨v128, rfl, ho0, hb⟩; refine ⟨_, rfl, ?_⟩; have n0_ := Aside0.mk (Kd.R_lower ho0 (below_size (by repeat (first | (with_reducible first | exact HB.out | apply below_alloc | apply pw_below_drewN | apply below_drew1) | exact HB.out)))); have n1_ := Aside0.mk (below_step (by repeat (first | (with_reducible first | exact HB.out | apply below_alloc | apply pw_below_drewN | apply below_drew1) | exact HB.out)) hb); clear HB; have HO129 := n0_; have HB := n1_; clear n0_ n1_; (try clear hb); (try clear hb2); (try clear hk); (try clear hi); (try clear ho0); obtain ⟨Ao19, co19, eo19⟩ := Kd.R_slice HO129.out; subst eo19) | ((with_reducible refine gate_callee (f := 36) rfl ?_); refine goesL_ (some 40) rfl rfl Try.func36 (by kernel_rfl) rfl #[.slice Ao19 t127.length co19] rfl (by (try simp only [List.map_toArray, List.map_cons, List.map_nil]); first | done | rfl | (simp only [List.length_drop, List.length_take]; rfl)) ?_; (with_reducible refine (impl_ReadBits.calls _ _ t127 t130 t131 true _ ?side1 ?side2 A9.out).mono ?_); (case side1 => repeat (first | exact (Kd.R_reads' HO129.out).2.2 | (with_reducible refine Kd.C_alloc ?_ _) | (with_reducible refine Kd.C_drewN ?_ _) | (with_reducible refine Kd.C_drew ?_))); (case side2 => exact (Kd.R_reads' HO129.out).2.1); rintro e w20 ⟨v133, rfl, ho0, hb⟩; refine ⟨_, rfl, ?_⟩; have n0_ := Aside0.mk (Kd.R_elder' (by (with_reducible repeat (first | apply Kd.R_alloc | apply Kd.R_drewN | apply Kd.R_drew)); exact HO129.out) (Kd.Q_base ho0) hb); have n1_ := Aside0.mk (Kd.Q_lower (Kd.Q_new' ho0 (Kd.R_lt (by (with_reducible repeat (first | apply Kd.R_alloc | apply Kd.R_drewN | apply Kd.R_drew)); exact HO129.out))) (below_size (by repeat (first | (with_reducible first | exact HB.out | apply below_alloc | apply pw_below_drewN | apply below_drew1) | exact HB.out)))); have n2_ := Aside0.mk (below_step (by repeat (first | (with_reducible first | exact HB.out | apply below_alloc | apply pw_below_drewN | apply below_drew1) | exact HB.out)) hb); clear HO129; clear HB; have HO129 := n0_; have HO134 := n1_; have HB := n2_; clear n0_ n1_ n2_; (try clear hb); (try clear hb2); (try clear hk); (try clear hi); (try clear ho0)) | ((with_reducible refine gate_dst (N := 62) rfl ?_); (try (refine gate_guard (by rfl) ?_; dsimp only)); refine Kd.R_lit (Kd.int .u8) _ 5 ?hg (N := 62) ?hd (xs := ([(wrap64 ((wrap64 (8 * (l0.length : Int))) - a1)) % 256] : List Int)) (inner := [.int .u8 ((wrap64 ((wrap64 (8 * (l0.length : Int))) - a1)) % 256)]) (ok := fun _ => True) (okp := fun _ => True) ?hr ?hp (fun _ hk => hk) trivial (Below.refl _ _) (Nat.le_refl _) (by simp) ?_; (case hd => rfl); (case hg => rfl); (case hr => first | (go_simp; done) | (go_simp; rfl)); (case hp => exact (Reps.one (show Kd.M (Kd.int .u8) _ _ _ ((wrap64 ((wrap64 (8 * (l0.length : Int))) - a1)) % 256) [.int .u8 ((wrap64 ((wrap64 (8 * (l0.length : Int))) - a1)) % 256)] from rfl) (Reps.none _ _))); intro v136 w21 ho22 hb hg_ hnew_; clear hg_ hnew_; (first | rw [← Ny135.out] at ho22 | (simp only [Int.reduceToNat] at ho22; rw [← Ny135.out] at ho22)); have n0_ := Aside0.mk (Kd.R_elder' (by (with_reducible repeat (first | apply Kd.R_alloc | apply Kd.R_drewN | apply Kd.R_drew)); exact HO129.out) (Kd.R_base ho22) hb); have n1_ := Aside0.mk (Kd.Q_elder' (by (with_reducible repeat (first | apply Kd.Q_alloc | apply Kd.Q_drewN | apply Kd.Q_drew)); exact HO134.out) (Kd.R_base ho22) hb); have n2_ := Aside0.mk (Kd.R_lower (Kd.R_new' (Kd.R_new' ho22 (Kd.R_lt (by (with_reducible repeat (first | apply Kd.R_alloc | apply Kd.R_drewN | apply Kd.R_drew)); exact HO129.out))) (Kd.Q_lt (by (with_reducible repeat (first | apply Kd.Q_alloc | apply Kd.Q_drewN | apply Kd.Q_drew)); exact HO134.out))) (below_size (by repeat (first | (with_reducible first | exact HB.out | apply below_alloc | apply pw_below_drewN | apply below_drew1) | exact HB.out)))); have n3_ := Aside0.mk (below_step (by repeat (first | (with_reducible first | exact HB.out | apply below_alloc | apply pw_below_drewN | apply below_drew1) | exact HB.out)) hb); clear HO129; clear HO134; clear HB; have HO129 := n0_; have HO134 := n1_; have HO137 := n2_; have HB := n3_; clear n0_ n1_ n2_ n3_; clear hb ho22) | ((with_reducible refine gate_builtin (b := .append) (xs := #[.tmp 62, .tmp 63]) rfl ?_); (try (refine gate_guard (by rfl) ?_; dsimp only)); at_builtin; refine Kd.R_append_rows (Kd.int .u8) (w0 := w) w.heap.size rfl (.tmp 62) (.tmp 63) 25 5 (.int .u8 0) 1 rfl Try.underlying25 info5 rfl (by decide) (by omega) v136 y135 l0 _ _ _ (fun k_ => some k_ ≠ (.slice Ao19 t127.length co19 : Value).ownBlock ∧ some k_ ≠ (v133 : Value).ownBlock) (fun _ => False) rfl rfl ?aO ?aR (fun _ _ h => h) (fun _ h => h.elim) ?aF ?aB ?aS ?aL ?_; (case aR => repeat (first | exact (Kd.C_below HR0.out HB.out) | (with_reducible refine Kd.C_alloc ?_ _) | (with_reducible refine Kd.C_drewN ?_ _) | (with_reducible refine Kd.C_drew ?_))); (case aB => exact (by repeat (first | (with_reducible first | exact HB.out | apply below_alloc | apply pw_below_drewN | apply below_drew1) | exact HB.out))); (case aF => exact (fun k_ hk => ⟨Kd.fresh' (Kd.R_lt (by (with_reducible repeat (first | apply Kd.R_alloc | apply Kd.R_drewN | apply Kd.R_drew)); exact HO129.out)) k_ hk, Kd.fresh' (Kd.Q_lt (by (with_reducible repeat (first | apply Kd.Q_alloc | apply Kd.Q_drewN | apply Kd.Q_drew)); exact HO134.out)) k_ hk⟩)); (case aO => exact (by (with_reducible repeat (first | apply Kd.R_alloc | apply Kd.R_drewN | apply Kd.R_drew)); exact Kd.R_mono HO137.out (fun _ hk => ⟨hk.1.2, hk.2⟩))); (case aS => exact (below_size (by repeat (first | (with_reducible first | exact HB.out | apply below_alloc | apply pw_below_drewN | apply below_drew1) | exact HB.out)))); (case aL => have := LMc11.out; omega); intro v139 w23 ho hb hg hat; rw [← Ny138.out] at ho; have n0_ := Aside0.mk (Kd.R_after (ok := (fun k_ => some k_ ≠ (v133 : Value).ownBlock)) (by (with_reducible repeat (first | apply Kd.R_alloc | apply Kd.R_drewN | apply Kd.R_drew)); exact Kd.R_mono HO129.out (fun _ hk => ⟨hk.1.2, hk.2⟩)) hg hat); have n1_ := Aside0.mk (Kd.Q_after (ok := (fun k_ => some k_ ≠ (.slice Ao19 t127.length co19 : Value).ownBlock)) (by (with_reducible repeat (first | apply Kd.Q_alloc | apply Kd.Q_drewN | apply Kd.Q_drew)); exact Kd.Q_mono HO134.out (fun _ hk => ⟨hk.1.2, hk.2⟩)) hg hat); have n2_ := Aside0.mk (hb); have n3_ := Aside0.mk (ho); clear HO129; clear HO134; clear HB; clear HO137; have HO129 := n0_; have HO134 := n1_; have HB := n2_; have HO140 := n3_; clear n0_ n1_ n2_ n3_; clear ho hb hg hat; obtain ⟨Ao24, co24, eo24⟩ := Kd.R_slice HO140.out; subst eo24) | ((with_reducible refine gate_callee (f := 17) rfl ?_); refine goesL_ (some 65) rfl rfl Try.func17 (by kernel_rfl) rfl #[.slice Ao19 t127.length co19, .slice Ao24 y138.length co24] rfl (by (try simp only [List.map_toArray, List.map_cons, List.map_nil]); first | done | rfl | (simp only [List.length_drop, List.length_take]; rfl)) ?_; (with_reducible refine (bytes_Equal.calls _ _ t127 _ _ y138 true _ ?side1 ?side2 ?side3 ?side4 A12.out).mono ?_); (case side1 => repeat (first | exact (Kd.R_reads' HO129.out).2.2 | (with_reducible refine Kd.C_alloc ?_ _) | (with_reducible refine Kd.C_drewN ?_ _) | (with_reducible refine Kd.C_drew ?_))); (case side2 => exact (Kd.R_reads' HO129.out).2.1); (case side3 => repeat (first | exact (Kd.R_reads' HO140.out).2.2 | (with_reducible refine Kd.C_alloc ?_ _) | (with_reducible refine Kd.C_drewN ?_ _) | (with_reducible refine Kd.C_drew ?_))); (case side4 => exact (Kd.R_reads' HO140.out).2.1); rintro e w' ⟨rfl, ⟨nd, rfl⟩⟩; refine ⟨_, rfl, ?_⟩; obtain ⟨Ao25, co25, eo25, _⟩ := Kd.Q_slice HO134.out; subst eo25) | (go_at_call 17; (with_reducible refine (bytes_Equal.calls _ _ t130 _ _ l0 true _ ?side1 ?side2 ?side3 ?side4 A16.out).mono ?_); (case side1 => repeat (first | exact (Kd.Q_reads' HO134.out).2.2 | (with_reducible refine Kd.C_alloc ?_ _) | (with_reducible refine Kd.C_drewN ?_ _) | (with_reducible refine Kd.C_drew ?_))); (case side2 => exact (Kd.Q_reads' HO134.out).2.1); (case side3 => repeat (first | exact (Kd.C_below HR0.out (by repeat (first | (with_reducible first | exact HB.out | apply below_alloc | apply pw_below_drewN | apply below_drew1) | exact HB.out))) | (with_reducible refine Kd.C_alloc ?_ _) | (with_reducible refine Kd.C_drewN ?_ _) | (with_reducible refine Kd.C_drew ?_))); (case side4 => exact HC0.out); rintro e w' ⟨rfl, ⟨nd, rfl⟩⟩))
                      go_ret
                      exact ⟨by first | rfl | (simp [errW_none, errW_some] <;> rfl) | (simp [*, errW_none, errW_some] <;> rfl), by repeat (first | (with_reducible first | exact HB.out | apply below_alloc | apply pw_below_drewN | apply below_drew1) | exact HB.out)⟩
                    · replace c17 := Bool.eq_false_iff.mpr c17
                      subst c17
                      have H1 : (some false) = some r := by rw [if_neg (show ¬ (false = true) by decide)] at H; exact H
                      clear H
                      have H := H1
                      clear H1
                      exact absurd (Option.some.inj H) (by rw [HRT.out]; simp)
                  · replace c15 := Bool.eq_false_iff.mpr c15
                    subst c15
                    exact absurd c14b0 (by decide)
                · rw [if_neg c14] at H
                  have c14b0 : (t132 == true) = false := by simpa using c14
                  (try (have c14b1 : t132 = !(true) := bool_ne_of _ _ (by simpa using c14)))
                  (try (have c14b2 : decide (t132 = true) = false := by simpa using c14))
                  (try (have c14b3 : (t132 == true) = false := by simpa using c14))
                  (try (have c14b4 : ¬ (t132 = true) := by simpa using c14))
                  clear c14
                  exact absurd (Option.some.inj H) (by rw [HRT.out]; simp)
              · replace c13 := Bool.eq_false_iff.mpr c13
                subst c13
                have H1 : (some false) = some r := by rw [if_neg (show ¬ (false = true) by decide)] at H; exact H
                clear H
                have H := H1
                clear H1
                exact absurd (Option.some.inj H) (by rw [HRT.out]; simp)
            · rw [if_neg c11] at H
              exact absurd H (by simp)
          · rw [if_neg c10] at H
            have c10b0 : ((l0.length : Int) == 0) = false := beq_eq_false_iff_ne.mpr c10
            have c10b1 : ((l0.length : Int) != 0) = true := bne_iff_ne.mpr c10
            have c10b2 : ¬ (l0 = []) := fun h_ => c10 (by rw [h_]; rfl)
            obtain ⟨ji33, hji33⟩ : ∃ j_ : Int, (wrap64 ((l0.length : Int) - 1)) = j_ := ⟨_, rfl⟩
            replace H : (if 0 ≤ (ji33) then (if (ji33) < (l0.length : Int) then ((some (([(wrap64 ((wrap64 (8 * (l0.length : Int))) - a1)) % 256] : List Int) : List Int)).bind fun y144 => (if y144.length + l0.length < 140737488355328 then ((bytes_Equal.f t127 (y144 ++ l0)).bind fun t150 => (if t150 = true then (if (t132 == ((Go.bits .and .u8 (rd l0 (ji33)) (((shl .u8 1 ((wrap64 ((wrap64 (8 * (l0.length : Int))) - a1)) % 256)) - 1) % 256)) == 0)) = true then (if t132 = true then ((bytes_Equal.f t130 l0).bind fun t151 => (if t151 = true then (some (t131 == a1)) else (some false))) else (some true)) else (some false)) else (some false))) else (none))) else (none)) else (none)) = some r := by first | (rw [hji33] at H; exact H) | (simp only [hji33] at H ⊢; exact H)
            (try rw [hji33] at A8)
            (try rw [hji33] at A9)
            have hji33w : (IntKind.i64.wrap ((l0.length : Int) - 1)) = ji33 := (i64_w _).trans hji33
            by_cases c34 : 0 ≤ (ji33)
            · rw [if_pos c34] at H
              have c34b0 : decide (0 ≤ (ji33)) = true := decide_eq_true c34
              clear c34
              by_cases c35 : (ji33) < (l0.length : Int)
              · rw [if_pos c35] at H
                have c35b0 : decide ((ji33) < (l0.length : Int)) = true := decide_eq_true c35
                clear c35
                obtain ⟨ji36, hji36⟩ : ∃ j_ : Int, (shl .u8 1 ((wrap64 ((wrap64 (8 * (l0.length : Int))) - a1)) % 256)) = j_ := ⟨_, rfl⟩
                replace H : ((some (([(wrap64 ((wrap64 (8 * (l0.length : Int))) - a1)) % 256] : List Int) : List Int)).bind fun y144 => (if y144.length + l0.length < 140737488355328 then ((bytes_Equal.f t127 (y144 ++ l0)).bind fun t150 => (if t150 = true then (if (t132 == ((Go.bits .and .u8 (rd l0 (ji33)) (((ji36) - 1) % 256)) == 0)) = true then (if t132 = true then ((bytes_Equal.f t130 l0).bind fun t151 => (if t151 = true then (some (t131 == a1)) else (some false))) else (some true)) else (some false)) else (some false))) else (none))) = some r := by first | (rw [hji36] at H; exact H) | (simp only [hji36] at H ⊢; exact H)
                (try rw [hji36] at A8)
                (try rw [hji36] at A9)
                have hji36_ : (IntKind.u8.wrap (1 * 2 ^ min ((wrap64 ((wrap64 (8 * (l0.length : Int))) - a1)) % 256).toNat 8)) = ji36 := hji36
                have hji36z : ((wrap64 ((wrap64 (8 * (l0.length : Int))) - a1)) % 256) ≤ 8 → (IntKind.u8.wrap (1 * 2 ^ ((wrap64 ((wrap64 (8 * (l0.length : Int))) - a1)) % 256).toNat)) = ji36 := shl_small hji36
                have hji36u : (IntKind.u8.wrap (2 ^ min ((wrap64 ((wrap64 (8 * (l0.length : Int))) - a1)) % 256).toNat 8)) = ji36 := by have h_ := hji36_; rw [Int.one_mul] at h_; exact h_
                have hji36v : ((wrap64 ((wrap64 (8 * (l0.length : Int))) - a1)) % 256) ≤ 8 → (IntKind.u8.wrap (2 ^ ((wrap64 ((wrap64 (8 * (l0.length : Int))) - a1)) % 256).toNat)) = ji36 := fun hle_ => by have h_ := hji36z hle_; rw [Int.one_mul] at h_; exact h_
                obtain ⟨y144, hy144⟩ : ∃ y_ : List Int, y_ = (([(wrap64 ((wrap64 (8 * (l0.length : Int))) - a1)) % 256] : List Int)) := ⟨_, rfl⟩
                replace H : (if y144.length + l0.length < 140737488355328 then ((bytes_Equal.f t127 (y144 ++ l0)).bind fun t150 => (if t150 = true then (if (t132 == ((Go.bits .and .u8 (rd l0 (ji33)) (((ji36) - 1) % 256)) == 0)) = true then (if t132 = true then ((bytes_Equal.f t130 l0).bind fun t151 => (if t151 = true then (some (t131 == a1)) else (some false))) else (some true)) else (some false)) else (some false))) else (none)) = some r := by first | (rw [hy144]; with_reducible exact H) | (have H2_ := (Option.bind_some _ _).symm.trans H; rw [hy144]; with_reducible exact H2_) | (have H2_ := (Option.bind_some _ _).symm.trans H; with_reducible exact H2_) | with_reducible exact H | (rw [hy144]; exact H) | exact H
                have Ny144 := Aside0.mk hy144
                clear hy144
                by_cases c37 : y144.length + l0.length < 140737488355328
                · rw [if_pos c37] at H
                  have LMc37 := Aside0.mk c37
                  clear c37
                  obtain ⟨y147, hy147⟩ : ∃ y_ : List Int, y_ = (y144 ++ l0) := ⟨_, rfl⟩
                  replace H : ((bytes_Equal.f t127 y147).bind fun t150 => (if t150 = true then (if (t132 == ((Go.bits .and .u8 (rd l0 (ji33)) (((ji36) - 1) % 256)) == 0)) = true then (if t132 = true then ((bytes_Equal.f t130 l0).bind fun t151 => (if t151 = true then (some (t131 == a1)) else (some false))) else (some true)) else (some false)) else (some false))) = some r := by first | (rw [hy147]; with_reducible exact H) | (have H2_ := (Option.bind_some _ _).symm.trans H; rw [hy147]; with_reducible exact H2_) | (have H2_ := (Option.bind_some _ _).symm.trans H; with_reducible exact H2_) | with_reducible exact H | (rw [hy147]; exact H) | exact H
                  have Ny147 := Aside0.mk hy147
                  clear hy147
                  replace H := Option.bind_eq_some_iff.mp H
                  obtain ⟨t150, A380, H⟩ := H
                  replace H : (if t150 = true then (if (t132 == ((Go.bits .and .u8 (rd l0 (ji33)) (((ji36) - 1) % 256)) == 0)) = true then (if t132 = true then ((bytes_Equal.f t130 l0).bind fun t151 => (if t151 = true then (some (t131 == a1)) else (some false))) else (some true)) else (some false)) else (some false)) = some r := H
                  have A38 := Aside0.mk A380
                  clear A380
                  by_cases c39 : t150 = true
                  · subst c39
                    have H1 : (if (t132 == ((Go.bits .and .u8 (rd l0 (ji33)) (((ji36) - 1) % 256)) == 0)) = true then (if t132 = true then ((bytes_Equal.f t130 l0).bind fun t151 => (if t151 = true then (some (t131 == a1)) else (some false))) else (some true)) else (some false)) = some r := by rw [if_pos rfl] at H; exact H
                    clear H
                    have H := H1
                    clear H1
                    by_cases c40 : (t132 == ((Go.bits .and .u8 (rd l0 (ji33)) (((ji36) - 1) % 256)) == 0)) = true
                    · rw [if_pos c40] at H
                      have c40b0 : (t132 == ((Go.bits .and .u8 (rd l0 (ji33)) (((ji36) - 1) % 256)) == 0)) = true := c40
                      (try (have c40b1 : t132 = ((Go.bits .and .u8 (rd l0 (ji33)) (((ji36) - 1) % 256)) == 0) := bool_eq_of _ _ (by simpa using c40)))
                      (try (have c40b2 : decide (t132 = ((Go.bits .and .u8 (rd l0 (ji33)) (((ji36) - 1) % 256)) == 0)) = true := by simpa using c40))
                      (try (have c40b3 : (t132 == ((Go.bits .and .u8 (rd l0 (ji33)) (((ji36) - 1) % 256)) == 0)) = true := by simpa using c40))
                      clear c40
                      by_cases c41 : t132 = true
                      · subst c41
                        have hshl : Op.shift .shl .u8 1 .u8 (((wrap64 ((wrap64 (8 * (l0.length : Int))) - a1)) % 256)) = pure (.int .u8 ji36) := by rw [shift_shl_any _ _ _ _ (Int.emod_nonneg _ (by decide)), ← hji36]; rfl
                        have c99b0 : ((Go.bits .and .u8 (rd l0 (ji33)) (((ji36) - 1) % 256)) == 0) = true := by simpa using c40b0
                        have c99b1 : (Go.bits .and .u8 (rd l0 (ji33)) (((ji36) - 1) % 256)) = 0 := by simpa using c99b0
                        (try clear c40b0)
                        (try clear c40b1)
                        (try clear c40b2)
                        (try clear c40b3)
                        (try clear c40b4)
                        have H1 : ((bytes_Equal.f t130 l0).bind fun t151 => (if t151 = true then (some (t131 == a1)) else (some false))) = some r := by rw [if_pos rfl] at H; exact H
                        clear H
                        have H := H1
                        clear H1
                        replace H := Option.bind_eq_some_iff.mp H
                        obtain ⟨t151, A420, H⟩ := H
                        replace H : (if t151 = true then (some (t131 == a1)) else (some false)) = some r := H
                        have A42 := Aside0.mk A420
                        clear A420
                        by_cases c43 : t151 = true
                        · subst c43
                          have H1 : (some (t131 == a1)) = some r := by rw [if_pos rfl] at H; exact H
                          clear H
                          have H := H1
                          clear H1
                          obtain rfl := Option.some.inj H
                          go_wp2_with (first | ((with_reducible refine gate_callee (f := 35) rfl ?_); refine goesL_ (some 37) rfl rfl Try.func35 (by kernel_rfl) rfl #[.slice A0 l0.length c0, .int .i64 a1] rfl (by (try simp only [List.map_toArray, List.map_cons, List.map_nil]); first | done | rfl | (simp only [List.length_drop, List.length_take]; rfl)) ?_; (with_reducible refine (impl_PutBits.calls _ _ l0 a1 t127 _ ?side1 ?side2 A8.out).mono ?_); (case side1 => repeat (first | exact (Kd.C_below HR0.out HB.out) | (with_reducible refine Kd.C_alloc ?_ _) | (with_reducible refine Kd.C_drewN ?_ _) | (with_reducible refine Kd.C_drew ?_))); (case side2 => exact HC0.out); rintro e w44 ⟨v128, rfl, ho0, hb⟩; refine ⟨_, rfl, ?_⟩; have n0_ := Aside0.mk (Kd.R_lower ho0 (below_size (by repeat (first | (with_reducible first | exact HB.out | apply below_alloc | apply pw_below_drewN | apply below_drew1) | exact HB.out)))); have n1_ := Aside0.mk (below_step (by repeat (first | (with_reducible first | exact HB.out | apply below_alloc | apply pw_below_drewN | apply below_drew1) | exact HB.out)) hb); clear HB; have HO129 := n0_; have HB := n1_; clear n0_ n1_; (try clear hb); (try clear hb2); (try clear hk); (try clear hi); (try clear ho0); obtain ⟨Ao45, co45, eo45⟩ := Kd.R_slice HO129.out; subst eo45) | ((with_reducible refine gate_callee (f := 36) rfl ?_); refine goesL_ (some 40) rfl rfl Try.func36 (by kernel_rfl) rfl #[.slice Ao45 t127.length co45] rfl (by (try simp only [List.map_toArray, List.map_cons, List.map_nil]); first | done | rfl | (simp only [List.length_drop, List.length_take]; rfl)) ?_; (with_reducible refine (impl_ReadBits.calls _ _ t127 t130 t131 true _ ?side1 ?side2 A9.out).mono ?_); (case side1 => repeat (first | exact (Kd.R_reads' HO129.out).2.2 | (with_reducible refine Kd.C_alloc ?_ _) | (with_reducible refine Kd.C_drewN ?_ _) | (with_reducible refine Kd.C_drew ?_))); (case side2 => exact (Kd.R_reads' HO129.out).2.1); rintro e w46 ⟨v133, rfl, ho0, hb⟩; refine ⟨_, rfl, ?_⟩; have n0_ := Aside0.mk (Kd.R_elder' (by (with_reducible repeat (first | apply Kd.R_alloc | apply Kd.R_drewN | apply Kd.R_drew)); exact HO129.out) (Kd.Q_base ho0) hb); have n1_ := Aside0.mk (Kd.Q_lower (Kd.Q_new' ho0 (Kd.R_lt (by (with_reducible repeat (first | apply Kd.R_alloc | apply Kd.R_drewN | apply Kd.R_drew)); exact HO129.out))) (below_size (by repeat (first | (with_reducible first | exact HB.out | apply below_alloc | apply pw_below_drewN | apply below_drew1) | exact HB.out)))); have n2_ := Aside0.mk (below_step (by repeat (first | (with_reducible first | exact HB.out | apply below_alloc | apply pw_below_drewN | apply below_drew1) | exact HB.out)) hb); clear HO129; clear HB; have HO129 := n0_; have HO134 := n1_; have HB := n2_; clear n0_ n1_ n2_; (try clear hb); (try clear hb2); (try clear hk); (try clear hi); (try clear ho0); have p143 : 0 ≤ ((ji33) : Int) := of_decide_eq_true (by first | (with_reducible assumption) | assumption); have q143 : (ji33) < (l0.length : Int) := of_decide_eq_true (by first | (with_reducible assumption) | assumption); obtain ⟨ad143, e143, hx143_0⟩ := Kd.at_int HR0.out (ji33) p143 q143; cases e143; replace hx143_0 := (HB.out.cell (World.block_lt_of_cell? w _ hx143_0)).trans hx143_0; replace p143 := eq_true p143; replace q143 := eq_true q143) | ((with_reducible refine gate_dst (N := 62) rfl ?_); (try (refine gate_guard (by rfl) ?_; dsimp only)); refine Kd.R_lit (Kd.int .u8) _ 5 ?hg (N := 62) ?hd (xs := ([(wrap64 ((wrap64 (8 * (l0.length : Int))) - a1)) % 256] : List Int)) (inner := [.int .u8 ((wrap64 ((wrap64 (8 * (l0.length : Int))) - a1)) % 256)]) (ok := fun _ => True) (okp := fun _ => True) ?hr ?hp (fun _ hk => hk) trivial (Below.refl _ _) (Nat.le_refl _) (by simp) ?_; (case hd => rfl); (case hg => rfl); (case hr => first | (go_simp; done) | (go_simp; rfl)); (case hp => exact (Reps.one (show Kd.M (Kd.int .u8) _ _ _ ((wrap64 ((wrap64 (8 * (l0.length : Int))) - a1)) % 256) [.int .u8 ((wrap64 ((wrap64 (8 * (l0.length : Int))) - a1)) % 256)] from rfl) (Reps.none _ _))); intro v145 w47 ho48 hb hg_ hnew_; clear hg_ hnew_; (first | rw [← Ny144.out] at ho48 | (simp only [Int.reduceToNat] at ho48; rw [← Ny144.out] at ho48)); have n0_ := Aside0.mk (Kd.R_elder' (by (with_reducible repeat (first | apply Kd.R_alloc | apply Kd.R_drewN | apply Kd.R_drew)); exact HO129.out) (Kd.R_base ho48) hb); have n1_ := Aside0.mk (Kd.Q_elder' (by (with_reducible repeat (first | apply Kd.Q_alloc | apply Kd.Q_drewN | apply Kd.Q_drew)); exact HO134.out) (Kd.R_base ho48) hb); have n2_ := Aside0.mk (Kd.R_lower (Kd.R_new' (Kd.R_new' ho48 (Kd.R_lt (by (with_reducible repeat (first | apply Kd.R_alloc | apply Kd.R_drewN | apply Kd.R_drew)); exact HO129.out))) (Kd.Q_lt (by (with_reducible repeat (first | apply Kd.Q_alloc | apply Kd.Q_drewN | apply Kd.Q_drew)); exact HO134.out))) (below_size (by repeat (first | (with_reducible first | exact HB.out | apply below_alloc | apply pw_below_drewN | apply below_drew1) | exact HB.out)))); have n3_ := Aside0.mk (below_step (by repeat (first | (with_reducible first | exact HB.out | apply below_alloc | apply pw_below_drewN | apply below_drew1) | exact HB.out)) hb); clear HO129; clear HO134; clear HB; have HO129 := n0_; have HO134 := n1_; have HO146 := n2_; have HB := n3_; clear n0_ n1_ n2_ n3_; clear hb ho48) | ((with_reducible refine gate_builtin (b := .append) (xs := #[.tmp 62, .tmp 63]) rfl ?_); (try (refine gate_guard (by rfl) ?_; dsimp only)); at_builtin; refine Kd.R_append_rows (Kd.int .u8) (w0 := w) w.heap.size rfl (.tmp 62) (.tmp 63) 25 5 (.int .u8 0) 1 rfl Try.underlying25 info5 rfl (by decide) (by omega) v145 y144 l0 _ _ _ (fun k_ => some k_ ≠ (.slice Ao45 t127.length co45 : Value).ownBlock ∧ some k_ ≠ (v133 : Value).ownBlock) (fun _ => False) rfl rfl ?aO ?aR (fun _ _ h => h) (fun _ h => h.elim) ?aF ?aB ?aS ?aL ?_; (case aR => repeat (first | exact (Kd.C_below HR0.out HB.out) | (with_reducible refine Kd.C_alloc ?_ _) | (with_reducible refine Kd.C_drewN ?_ _) | (with_reducible refine Kd.C_drew ?_))); (case aB => exact (by repeat (first | (with_reducible first | exact HB.out | apply below_alloc | apply pw_below_drewN | apply below_drew1) | exact HB.out))); (case aF => exact (fun k_ hk => ⟨Kd.fresh' (Kd.R_lt (by (with_reducible repeat (first | apply Kd.R_alloc | apply Kd.R_drewN | apply Kd.R_drew)); exact HO129.out)) k_ hk, Kd.fresh' (Kd.Q_lt (by (with_reducible repeat (first | apply Kd.Q_alloc | apply Kd.Q_drewN | apply Kd.Q_drew)); exact HO134.out)) k_ hk⟩)); (case aO => exact (by (with_reducible repeat (first | apply Kd.R_alloc | apply Kd.R_drewN | apply Kd.R_drew)); exact Kd.R_mono HO146.out (fun _ hk => ⟨hk.1.2, hk.2⟩))); (case aS => exact (below_size (by repeat (first | (with_reducible first | exact HB.out | apply below_alloc | apply pw_below_drewN | apply below_drew1) | exact HB.out)))); (case aL => have := LMc37.out; omega); intro v148 w49 ho hb hg hat; rw [← Ny147.out] at ho; have n0_ := Aside0.mk (Kd.R_after (ok := (fun k_ => some k_ ≠ (v133 : Value).ownBlock)) (by (with_reducible repeat (first | apply Kd.R_alloc | apply Kd.R_drewN | apply Kd.R_drew)); exact Kd.R_mono HO129.out (fun _ hk => ⟨hk.1.2, hk.2⟩)) hg hat); have n1_ := Aside0.mk (Kd.Q_after (ok := (fun k_ => some k_ ≠ (.slice Ao45 t127.length co45 : Value).ownBlock)) (by (with_reducible repeat (first | apply Kd.Q_alloc | apply Kd.Q_drewN | apply Kd.Q_drew)); exact Kd.Q_mono HO134.out (fun _ hk => ⟨hk.1.2, hk.2⟩)) hg hat); have n2_ := Aside0.mk (hb); have n3_ := Aside0.mk (ho); clear HO129; clear HO134; clear HB; clear HO146; have HO129 := n0_; have HO134 := n1_; have HB := n2_; have HO149 := n3_; clear n0_ n1_ n2_ n3_; clear ho hb hg hat; obtain ⟨Ao50, co50, eo50⟩ := Kd.R_slice HO149.out; subst eo50) | ((with_reducible refine gate_callee (f := 17) rfl ?_); refine goesL_ (some 65) rfl rfl Try.func17 (by kernel_rfl) rfl #[.slice Ao45 t127.length co45, .slice Ao50 y147.length co50] rfl (by (try simp only [List.map_toArray, List.map_cons, List.map_nil]); first | done | rfl | (simp only [List.length_drop, List.length_take]; rfl)) ?_; (with_reducible refine (bytes_Equal.calls _ _ t127 _ _ y147 true _ ?side1 ?side2 ?side3 ?side4 A38.out).mono ?_); (case side1 => repeat (first | exact (Kd.R_reads' HO129.out).2.2 | (with_reducible refine Kd.C_alloc ?_ _) | (with_reducible refine Kd.C_drewN ?_ _) | (with_reducible refine Kd.C_drew ?_))); (case side2 => exact (Kd.R_reads' HO129.out).2.1); (case side3 => repeat (first | exact (Kd.R_reads' HO149.out).2.2 | (with_reducible refine Kd.C_alloc ?_ _) | (with_reducible refine Kd.C_drewN ?_ _) | (with_reducible refine Kd.C_drew ?_))); (case side4 => exact (Kd.R_reads' HO149.out).2.1); rintro e w' ⟨rfl, ⟨nd, rfl⟩⟩; refine ⟨_, rfl, ?_⟩; obtain ⟨Ao51, co51, eo51, _⟩ := Kd.Q_slice HO134.out; subst eo51) | (go_at_call 17; (with_reducible refine (bytes_Equal.calls _ _ t130 _ _ l0 true _ ?side1 ?side2 ?side3 ?side4 A42.out).mono ?_); (case side1 => repeat (first | exact (Kd.Q_reads' HO134.out).2.2 | (with_reducible refine Kd.C_alloc ?_ _) | (with_reducible refine Kd.C_drewN ?_ _) | (with_reducible refine Kd.C_drew ?_))); (case side2 => exact (Kd.Q_reads' HO134.out).2.1); (case side3 => repeat (first | exact (Kd.C_below HR0.out (by repeat (first | (with_reducible first | exact HB.out | apply below_alloc | apply pw_below_drewN | apply below_drew1) | exact HB.out))) | (with_reducible refine Kd.C_alloc ?_ _) | (with_reducible refine Kd.C_drewN ?_ _) | (with_reducible refine Kd.C_drew ?_))); (case side4 => exact HC0.out); rintro e w' ⟨rfl, ⟨nd, rfl⟩⟩))
                          go_ret
                          exact ⟨by first | rfl | (simp [errW_none, errW_some] <;> rfl) | (simp only [← hji33, ← hji36]; first | rfl | (simp [errW_none, errW_some] <;> rfl)) | (simp [*, errW_none, errW_some] <;> rfl), by repeat (first | (with_reducible first | exact HB.out | apply below_alloc | apply pw_below_drewN | apply below_drew1) | exact HB.out)⟩
                        · replace c43 := Bool.eq_false_iff.mpr c43
                          subst c43
                          have H1 : (some false) = some r := by rw [if_neg (show ¬ (false = true) by decide)] at H; exact H
                          clear H
                          have H := H1
                          clear H1
                          exact absurd (Option.some.inj H) (by rw [HRT.out]; simp)
                      · replace c41 := Bool.eq_false_iff.mpr c41
                        subst c41
                        have hshl : Op.shift .shl .u8 1 .u8 (((wrap64 ((wrap64 (8 * (l0.length : Int))) - a1)) % 256)) = pure (.int .u8 ji36) := by rw [shift_shl_any _ _ _ _ (Int.emod_nonneg _ (by decide)), ← hji36]; rfl
                        have c99b0 : ((Go.bits .and .u8 (rd l0 (ji33)) (((ji36) - 1) % 256)) == 0) = false := by simpa using c40b0
                        (try clear c40b0)
                        (try clear c40b1)
                        (try clear c40b2)
                        (try clear c40b3)
                        (try clear c40b4)
                        have H1 : (some true) = some r := by rw [if_neg (show ¬ (false = true) by decide)] at H; exact H
                        clear H
                        have H := H1
                        clear H1
                        obtain rfl := Option.some.inj H
                        go_wp2_with (first | ((with_reducible refine gate_callee (f := 35) rfl ?_); refine goesL_ (some 37) rfl rfl Try.func35 (by kernel_rfl) rfl #[.slice A0 l0.length c0, .int .i64 a1] rfl (by (try simp only [List.map_toArray, List.map_cons, List.map_nil]); first | done | rfl | (simp only [List.length_drop, List.length_take]; rfl)) ?_; (with_reducible refine (impl_PutBits.calls _ _ l0 a1 t127 _ ?side1 ?side2 A8.out).mono ?_); (case side1 => repeat (first | exact (Kd.C_below HR0.out HB.out) | (with_reducible refine Kd.C_alloc ?_ _) | (with_reducible refine Kd.C_drewN ?_ _) | (with_reducible refine Kd.C_drew ?_))); (case side2 => exact HC0.out); rintro e w52 ⟨v128, rfl, ho0, hb⟩; refine ⟨_, rfl, ?_⟩; have n0_ := Aside0.mk (Kd.R_lower ho0 (below_size (by repeat (first | (with_reducible first | exact HB.out | apply below_alloc | apply pw_below_drewN | apply below_drew1) | exact HB.out)))); have n1_ := Aside0.mk (below_step (by repeat (first | (with_reducible first | exact HB.out | apply below_alloc | apply pw_below_drewN | apply below_drew1) | exact HB.out)) hb); clear HB; have HO129 := n0_; have HB := n1_; clear n0_ n1_; (try clear hb); (try clear hb2); (try clear hk); (try clear hi); (try clear ho0); obtain ⟨Ao53, co53, eo53⟩ := Kd.R_slice HO129.out; subst eo53) | ((with_reducible refine gate_callee (f := 36) rfl ?_); refine goesL_ (some 40) rfl rfl Try.func36 (by kernel_rfl) rfl #[.slice Ao53 t127.length co53] rfl (by (try simp only [List.map_toArray, List.map_cons, List.map_nil]); first | done | rfl | (simp only [List.length_drop, List.length_take]; rfl)) ?_; (with_reducible refine (impl_ReadBits.calls _ _ t127 t130 t131 false _ ?side1 ?side2 A9.out).mono ?_); (case side1 => repeat (first | exact (Kd.R_reads' HO129.out).2.2 | (with_reducible refine Kd.C_alloc ?_ _) | (with_reducible refine Kd.C_drewN ?_ _) | (with_reducible refine Kd.C_drew ?_))); (case side2 => exact (Kd.R_reads' HO129.out).2.1); rintro e w54 ⟨v133, rfl, ho0, hb⟩; refine ⟨_, rfl, ?_⟩; have n0_ := Aside0.mk (Kd.R_elder' (by (with_reducible repeat (first | apply Kd.R_alloc | apply Kd.R_drewN | apply Kd.R_drew)); exact HO129.out) (Kd.Q_base ho0) hb); have n1_ := Aside0.mk (Kd.Q_lower (Kd.Q_new' ho0 (Kd.R_lt (by (with_reducible repeat (first | apply Kd.R_alloc | apply Kd.R_drewN | apply Kd.R_drew)); exact HO129.out))) (below_size (by repeat (first | (with_reducible first | exact HB.out | apply below_alloc | apply pw_below_drewN | apply below_drew1) | exact HB.out)))); have n2_ := Aside0.mk (below_step (by repeat (first | (with_reducible first | exact HB.out | apply below_alloc | apply pw_below_drewN | apply below_drew1) | exact HB.out)) hb); clear HO129; clear HB; have HO129 := n0_; have HO134 := n1_; have HB := n2_; clear n0_ n1_ n2_; (try clear hb); (try clear hb2); (try clear hk); (try clear hi); (try clear ho0); have p143 : 0 ≤ ((ji33) : Int) := of_decide_eq_true (by first | (with_reducible assumption) | assumption); have q143 : (ji33) < (l0.length : Int) := of_decide_eq_true (by first | (with_reducible assumption) | assumption); obtain ⟨ad143, e143, hx143_0⟩ := Kd.at_int HR0.out (ji33) p143 q143; cases e143; replace hx143_0 := (HB.out.cell (World.block_lt_of_cell? w _ hx143_0)).trans hx143_0; replace p143 := eq_true p143; replace q143 := eq_true q143) | ((with_reducible refine gate_dst (N := 62) rfl ?_); (try (refine gate_guard (by rfl) ?_; dsimp only)); refine Kd.R_lit (Kd.int .u8) _ 5 ?hg (N := 62) ?hd (xs := ([(wrap64 ((wrap64 (8 * (l0.length : Int))) - a1)) % 256] : List Int)) (inner := [.int .u8 ((wrap64 ((wrap64 (8 * (l0.length : Int))) - a1)) % 256)]) (ok := fun _ => True) (okp := fun _ => True) ?hr ?hp (fun _ hk => hk) trivial (Below.refl _ _) (Nat.le_refl _) (by simp) ?_; (case hd => rfl); (case hg => rfl); (case hr => first | (go_simp; done) | (go_simp; rfl)); (case hp => exact (Reps.one (show Kd.M (Kd.int .u8) _ _ _ ((wrap64 ((wrap64 (8 * (l0.length : Int))) - a1)) % 256) [.int .u8 ((wrap64 ((wrap64 (8 * (l0.length : Int))) - a1)) % 256)] from rfl) (Reps.none _ _))); intro v145 w55 ho56 hb hg_ hnew_; clear hg_ hnew_; (first | rw [← Ny144.out] at ho56 | (simp only [Int.reduceToNat] at ho56; rw [← Ny144.out] at ho56)); have n0_ := Aside0.mk (Kd.R_elder' (by (with_reducible repeat (first | apply Kd.R_alloc | apply Kd.R_drewN | apply Kd.R_drew)); exact HO129.out) (Kd.R_base ho56) hb); have n1_ := Aside0.mk (Kd.Q_elder' (by (with_reducible repeat (first | apply Kd.Q_alloc | apply Kd.Q_drewN | apply Kd.Q_drew)); exact HO134.out) (Kd.R_base ho56) hb); have n2_ := Aside0.mk (Kd.R_lower (Kd.R_new' (Kd.R_new' ho56 (Kd.R_lt (by (with_reducible repeat (first | apply Kd.R_alloc | apply Kd.R_drewN | apply Kd.R_drew)); exact HO129.out))) (Kd.Q_lt (by (with_reducible repeat (first | apply Kd.Q_alloc | apply Kd.Q_drewN | apply Kd.Q_drew)); exact HO134.out))) (below_size (by repeat (first | (with_reducible first | exact HB.out | apply below_alloc | apply pw_below_drewN | apply below_drew1) | exact HB.out)))); have n3_ := Aside0.mk (below_step (by repeat (first | (with_reducible first | exact HB.out | apply below_alloc | apply pw_below_drewN | apply below_drew1) | exact HB.out)) hb); clear HO129; clear HO134; clear HB; have HO129 := n0_; have HO134 := n1_; have HO146 := n2_; have HB := n3_; clear n0_ n1_ n2_ n3_; clear hb ho56) | ((with_reducible refine gate_builtin (b := .append) (xs := #[.tmp 62, .tmp 63]) rfl ?_); (try (refine gate_guard (by rfl) ?_; dsimp only)); at_builtin; refine Kd.R_append_rows (Kd.int .u8) (w0 := w) w.heap.size rfl (.tmp 62) (.tmp 63) 25 5 (.int .u8 0) 1 rfl Try.underlying25 info5 rfl (by decide) (by omega) v145 y144 l0 _ _ _ (fun k_ => some k_ ≠ (.slice Ao53 t127.length co53 : Value).ownBlock ∧ some k_ ≠ (v133 : Value).ownBlock) (fun _ => False) rfl rfl ?aO ?aR (fun _ _ h => h) (fun _ h => h.elim) ?aF ?aB ?aS ?aL ?_; (case aR => repeat (first | exact (Kd.C_below HR0.out HB.out) | (with_reducible refine Kd.C_alloc ?_ _) | (with_reducible refine Kd.C_drewN ?_ _) | (with_reducible refine Kd.C_drew ?_))); (case aB => exact (by repeat (first | (with_reducible first | exact HB.out | apply below_alloc | apply pw_below_drewN | apply below_drew1) | exact HB.out))); (case aF => exact (fun k_ hk => ⟨Kd.fresh' (Kd.R_lt (by (with_reducible repeat (first | apply Kd.R_alloc | apply Kd.R_drewN | apply Kd.R_drew)); exact HO129.out)) k_ hk, Kd.fresh' (Kd.Q_lt (by (with_reducible repeat (first | apply Kd.Q_alloc | apply Kd.Q_drewN | apply Kd.Q_drew)); exact HO134.out)) k_ hk⟩)); (case aO => exact (by (with_reducible repeat (first | apply Kd.R_alloc | apply Kd.R_drewN | apply Kd.R_drew)); exact Kd.R_mono HO146.out (fun _ hk => ⟨hk.1.2, hk.2⟩))); (case aS => exact (below_size (by repeat (first | (with_reducible first | exact HB.out | apply below_alloc | apply pw_below_drewN | apply below_drew1) | exact HB.out)))); (case aL => have := LMc37.out; omega); intro v148 w57 ho hb hg hat; rw [← Ny147.out] at ho; have n0_ := Aside0.mk (Kd.R_after (ok := (fun k_ => some k_ ≠ (v133 : Value).ownBlock)) (by (with_reducible repeat (first | apply Kd.R_alloc | apply Kd.R_drewN | apply Kd.R_drew)); exact Kd.R_mono HO129.out (fun _ hk => ⟨hk.1.2, hk.2⟩)) hg hat); have n1_ := Aside0.mk (Kd.Q_after (ok := (fun k_ => some k_ ≠ (.slice Ao53 t127.length co53 : Value).ownBlock)) (by (with_reducible repeat (first | apply Kd.Q_alloc | apply Kd.Q_drewN | apply Kd.Q_drew)); exact Kd.Q_mono HO134.out (fun _ hk => ⟨hk.1.2, hk.2⟩)) hg hat); have n2_ := Aside0.mk (hb); have n3_ := Aside0.mk (ho); clear HO129; clear HO134; clear HB; clear HO146; have HO129 := n0_; have HO134 := n1_; have HB := n2_; have HO149 := n3_; clear n0_ n1_ n2_ n3_; clear ho hb hg hat; obtain ⟨Ao58, co58, eo58⟩ := Kd.R_slice HO149.out; subst eo58) | ((with_reducible refine gate_callee (f := 17) rfl ?_); refine goesL_ (some 65) rfl rfl Try.func17 (by kernel_rfl) rfl #[.slice Ao53 t127.length co53, .slice Ao58 y147.length co58] rfl (by (try simp only [List.map_toArray, List.map_cons, List.map_nil]); first | done | rfl | (simp only [List.length_drop, List.length_take]; rfl)) ?_; (with_reducible refine (bytes_Equal.calls _ _ t127 _ _ y147 true _ ?side1 ?side2 ?side3 ?side4 A38.out).mono ?_); (case side1 => repeat (first | exact (Kd.R_reads' HO129.out).2.2 | (with_reducible refine Kd.C_alloc ?_ _) | (with_reducible refine Kd.C_drewN ?_ _) | (with_reducible refine Kd.C_drew ?_))); (case side2 => exact (Kd.R_reads' HO129.out).2.1); (case side3 => repeat (first | exact (Kd.R_reads' HO149.out).2.2 | (with_reducible refine Kd.C_alloc ?_ _) | (with_reducible refine Kd.C_drewN ?_ _) | (with_reducible refine Kd.C_drew ?_))); (case side4 => exact (Kd.R_reads' HO149.out).2.1); rintro e w' ⟨rfl, ⟨nd, rfl⟩⟩; refine ⟨_, rfl, ?_⟩))
                        go_ret
                        exact ⟨by first | rfl | (simp [errW_none, errW_some] <;> rfl) | (simp only [← hji33, ← hji36]; first | rfl | (simp [errW_none, errW_some] <;> rfl)) | (simp [*, errW_none, errW_some] <;> rfl), by repeat (first | (with_reducible first | exact HB.out | apply below_alloc | apply pw_below_drewN | apply below_drew1) | exact HB.out)⟩
                    · rw [if_neg c40] at H
                      have c40b0 : (t132 == ((Go.bits .and .u8 (rd l0 (ji33)) (((ji36) - 1) % 256)) == 0)) = false := by simpa using c40
                      (try (have c40b1 : t132 = !(((Go.bits .and .u8 (rd l0 (ji33)) (((ji36) - 1) % 256)) == 0)) := bool_ne_of _ _ (by simpa using c40)))
                      (try (have c40b2 : decide (t132 = ((Go.bits .and .u8 (rd l0 (ji33)) (((ji36) - 1) % 256)) == 0)) = false := by simpa using c40))
                      (try (have c40b3 : (t132 == ((Go.bits .and .u8 (rd l0 (ji33)) (((ji36) - 1) % 256)) == 0)) = false := by simpa using c40))
                      (try (have c40b4 : ¬ (t132 = ((Go.bits .and .u8 (rd l0 (ji33)) (((ji36) - 1) % 256)) == 0)) := by simpa using c40))
                      clear c40
                      exact absurd (Option.some.inj H) (by rw [HRT.out]; simp)
                  · replace c39 := Bool.eq_false_iff.mpr c39
                    subst c39
                    have H1 : (some false) = some r := by rw [if_neg (show ¬ (false = true) by decide)] at H; exact H
                    clear H
                    have H := H1
                    clear H1
                    exact absurd (Option.some.inj H) (by rw [HRT.out]; simp)
                · rw [if_neg c37] at H
                  exact absurd H (by simp)
              · rw [if_neg c35] at H
                exact absurd H (by simp)
            · rw [if_neg c34] at H
              exact absurd H (by simp)

/-- THE ONE PURE STATEMENT of laws_FnPutBits: yours. -/
def laws_FnPutBits.Pure : Prop := ∀ (l0 : List Int) (a1 : Int), l0.length ≤ maxLen → l0.length * 1 ≤ 140737488351232 → (∀ x ∈ l0, (Lit.int .u8 x).wf = true) → (Lit.int .i64 a1).wf = true → ∃ k, laws_FnPutBits.f k l0 a1 = some true
theorem laws_FnPutBits.walk (P : laws_FnPutBits.Pure) (a0 : Option Addr) (len0 cap0 : Nat) (z0 : List Int) (a1 : Int) (w : World) (w0 : (a0 = none ∧ len0 = 0 ∧ cap0 = 0 ∧ z0 = []) ∨ ∃ x, a0 = some x ∧ len0 ≤ cap0 ∧ cap0 ≤ maxLen ∧ z0.length = cap0 ∧ (∀ i, i < z0.length → w.cell? (x.add i) = some (.int .u8 (z0.getD i 0))) ∧ ∀ n ∈ z0, (Lit.int .u8 n).wf = true) (y0 : len0 * 1 ≤ 140737488351232) (w1 : (Lit.int .i64 a1).wf = true) :
    Calls Try.prog 10 #[.slice a0 len0 cap0, .int .i64 a1] w fun e w' => e = .returned (.bool true) ∧ Below w.heap.size w w' := by
  obtain ⟨l0, rfl, hr0, hm0, hw0, hc0⟩ := ReadsInt.ofRowC w0
  obtain ⟨k, h⟩ := P l0 a1 hm0 y0 hw0 w1
  refine (laws_FnPutBits.calls k _ _ l0 a1 true w (Kd.C_of_reads (d := (0 : Int)) (h1 := fun _ => rfl) hr0) hc0 h rfl).mono ?_
  rintro e w' ⟨rfl, hd⟩
  exact ⟨rfl, hd⟩

end Go.Proofs.Ytmiemfgcggkbnaa.QB
