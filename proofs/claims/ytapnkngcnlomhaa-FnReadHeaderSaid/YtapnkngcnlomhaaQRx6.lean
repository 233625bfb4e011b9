-- Written by a program of this work (wip/patch_print.py) for this claim.
import Derived.Test.YtapnkngcnlomhaaQRx0
import Derived.Test.YtapnkngcnlomhaaQRx1
import Derived.Test.YtapnkngcnlomhaaQRx3
import Derived.Test.YtapnkngcnlomhaaQRx5
namespace Go.Proofs.Ytapnkngcnlomhaa.QR
open Go.RowKit Go.Proofs.YtapnkngcnlomhaaW.PrintWords Go.Proofs.YtapnkngcnlomhaaW.PrintLast Go.Proofs.YtapnkngcnlomhaaW.PrintMore
attribute [local go_sem] max2_int min2_int max_two min_two max_three min_three max_four min_four   -- for this text's walks alone
set_option linter.unusedVariables false
set_option linter.unusedSimpArgs false

attribute [local go_sem high] eqA41
/-! ### laws_FnReadHeader: function 12 -/
def laws_FnReadHeader.j0 : Nat → List Int → Int → Bool → Option (Bool)
  | 0, _, _, _ => none
  | k + 1, x0, x1, x29 => if x29 = true then (some true) else ((spec_Header.f k x0 x1).bind fun bt150 => ((impl_ReadHeader.f k x0 x1).bind fun bt157 => ((impl_ReadHeader.f k (([48, 3] : List Int)) 0).bind fun bt167 => (if (bt157.2.2.2.2.2 == bt150.2.2.2.2.2) = true then (if bt150.2.2.2.2.2 = true then ((laws_header.f bt150.1 bt150.2.1 bt150.2.2.1 bt150.2.2.2.1).bind fun bt174 => (if (bt157.1 == bt174.1 && (bt157.2.1 == bt174.2.1 && (bt157.2.2.1 == bt174.2.2.1 && (bt157.2.2.2.1 == bt174.2.2.2)))) = true then (if bt157.2.2.2.2.1 = bt150.2.2.2.2.1 then (if bt167.2.2.2.2.2 = true then (some (bt167.2.2.1 == 3)) else (some false)) else (some false)) else (some false))) else (if bt167.2.2.2.2.2 = true then (some (bt167.2.2.1 == 3)) else (some false))) else (some false)))))
def laws_FnReadHeader.f (k : Nat) (l0 : List Int) (a1 : Int) : Option (Bool) := if (l0.length : Int) > 2147483647 then (some true) else (if (l0.length : Int) > 200 then (laws_FnReadHeader.j0 k l0 a1 true) else (if a1 < 0 then (laws_FnReadHeader.j0 k l0 a1 true) else (laws_FnReadHeader.j0 k l0 a1 (decide (a1 > (l0.length : Int))))))
theorem laws_FnReadHeader.mono_l : ∀ k, (∀ y0 y1 y2, LeO (laws_FnReadHeader.j0 k y0 y1 y2) (laws_FnReadHeader.j0 (k + 1) y0 y1 y2))
  | 0 => fun _ _ _ r h => by simp [laws_FnReadHeader.j0] at h
  | k + 1 => by
    have ih0 := laws_FnReadHeader.mono_l k
    · intro y0 y1 y2
      unfold laws_FnReadHeader.j0
      repeat' first
      | (with_reducible exact ih0 _ _ _)
      | (with_reducible exact impl_ReadHeader.mono _ _ _)
      | (with_reducible exact spec_Header.mono _ _ _)
      | (with_reducible exact LeO.refl _)
      | (with_reducible exact LeO.none _)
      | (with_reducible refine LeO.ite ?_ ?_)
      | (with_reducible refine LeO.bind ?_ (fun _ => ?_))
      | exact ih0 _ _ _
      | exact impl_ReadHeader.mono _ _ _
      | exact spec_Header.mono _ _ _
      | exact LeO.none _
      | refine LeO.ite ?_ ?_
      | refine LeO.bind ?_ (fun _ => ?_)
theorem laws_FnReadHeader.mono : ∀ a0 a1 k, LeO (laws_FnReadHeader.f k a0 a1) (laws_FnReadHeader.f (k + 1) a0 a1) := by
  intro a0 a1 k
  have ih0 := laws_FnReadHeader.mono_l k
  unfold laws_FnReadHeader.f
  repeat' first
      | (with_reducible exact ih0 _ _ _)
      | (with_reducible exact impl_ReadHeader.mono _ _ _)
      | (with_reducible exact spec_Header.mono _ _ _)
      | (with_reducible exact LeO.refl _)
      | (with_reducible exact LeO.none _)
      | (with_reducible refine LeO.ite ?_ ?_)
      | (with_reducible refine LeO.bind ?_ (fun _ => ?_))
      | exact ih0 _ _ _
      | exact impl_ReadHeader.mono _ _ _
      | exact spec_Header.mono _ _ _
      | exact LeO.none _
      | refine LeO.ite ?_ ?_
      | refine LeO.bind ?_ (fun _ => ?_)
def laws_FnReadHeader.T8 : Bool × List (List Nat × List Nat) := (true, [([], []), ([], []), ([0, 1], [0, 1]), ([2], [2]), ([3], [3]), ([4, 3], [3, 4]), ([5, 3, 3], [3, 5]), ([6], [6]), ([6], [6]), ([8, 6, 6], [6, 8]), ([7, 9, 6], [6, 7, 9]), ([10, 9, 6], [6, 10]), ([11], [11]), ([11], [11]), ([12, 13, 11], [11, 12, 13]), ([11, 14, 6], [6, 11, 14]), ([6, 15, 3], [3, 6, 15]), ([3, 16], [3, 16]), ([17, 11], [17]), ([18], [18]), ([18, 19], [18, 19]), ([20, 18], [20]), ([21], [21]), ([22, 21], [21, 22]), ([23, 21], [21, 23]), ([21, 24], [21, 24]), ([25, 21, 0, 1, 2, 3, 4, 5, 6, 7, 8, 9, 10, 11, 12, 13, 14, 15, 16, 17, 18, 19, 20, 21, 22, 23, 24, 25], [25])])
def laws_FnReadHeader.B8 : List Nat := [0, 0, 3, 7, 15, 31, 63, 127, 127, 383, 1023, 2047, 4095, 4095, 16383, 32767, 65535, 131071, 262143, 524287, 1048575, 2097151, 4194303, 8388607, 16777215, 33554431, 67108863]
theorem laws_FnReadHeader.tab8 : rtab .any (opsOf Try.f12 8) = laws_FnReadHeader.T8 := by kernel_rfl
theorem laws_FnReadHeader.bits8 : waitsOk laws_FnReadHeader.T8.2 laws_FnReadHeader.B8 = true := by kernel_rfl
set_option maxHeartbeats 8000000 in
set_option maxRecDepth 100000 in
theorem laws_FnReadHeader.calls (k : Nat) (A0 : Option Addr) (c0 : Nat) (l0 : List Int) (a1 : Int) (r : Bool) (w : World) (hr0 : Kd.C (Kd.int .u8) w A0 l0.length l0) (hc0 : l0.length ≤ c0) (h : laws_FnReadHeader.f k l0 a1 = some r) (hrt : r = true) :
    Calls Try.prog 12 #[.slice A0 l0.length c0, .int .i64 a1] w fun e w' => e = .returned (.bool r) ∧ Below w.heap.size w w' := by
  have hu44 := Try.underlying44
  have hu41 := Try.underlying41
  have HR0 := Aside0.mk hr0
  have HC0 := Aside0.mk hc0
  clear hr0 hc0
  have HB := Aside0.mk (Below.refl w.heap.size w)
  have HRT := Aside0.mk hrt
  clear hrt
  have H : (if (l0.length : Int) > 2147483647 then (some true) else (if (l0.length : Int) > 200 then (laws_FnReadHeader.j0 k l0 a1 true) else (if a1 < 0 then (laws_FnReadHeader.j0 k l0 a1 true) else (laws_FnReadHeader.j0 k l0 a1 (decide (a1 > (l0.length : Int))))))) = some r := h
  clear h
  by_cases c3 : (l0.length : Int) > 2147483647
  · rw [if_pos c3] at H
    have c3b0 : decide (2147483647 < (l0.length : Int)) = true := decide_eq_true c3
    have c3b1 : decide (2147483647 < l0.length) = true := decide_eq_true (by omega)
    clear c3
    obtain rfl := Option.some.inj H
    go_enter Try.func12, Try.ntmps12
    go_wp2
    go_ret
    exact ⟨by first | rfl | (simp [errW_none, errW_some] <;> rfl) | (simp [*, errW_none, errW_some] <;> rfl), by repeat (first | (with_reducible first | exact HB.out | apply below_alloc | apply pw_below_drewN | apply below_drew1) | exact HB.out)⟩
  · rw [if_neg c3] at H
    have c3b0 : decide (2147483647 < (l0.length : Int)) = false := decide_eq_false c3
    have c3b1 : decide (2147483647 < l0.length) = false := decide_eq_false (by omega)
    clear c3
    have HC4 := Aside0.mk H
    clear H
    go_enter Try.func12, Try.ntmps12
    go_upto_region 3 with (fail)
    go_cut [29] (fun v29 wc => ∃ (kq : Nat) (x29_3 : Bool), v29 = .bool x29_3 ∧ Aside0 (laws_FnReadHeader.j0 kq l0 a1 x29_3 = some r) ∧ Aside0 (kq ≤ k) ∧ Aside0 (Below w.heap.size w wc))
    case first =>
      have H := HC4.out
      clear HC4
      by_cases c5 : (l0.length : Int) > 200
      · rw [if_pos c5] at H
        have c5b0 : decide (200 < (l0.length : Int)) = true := decide_eq_true c5
        have c5b1 : decide (200 < l0.length) = true := decide_eq_true (by omega)
        clear c5
        (first | rw [c5b0] | (simp only [i64_w, i32_w]; rw [c5b0]) | skip)
        have H' := Aside0.mk H
        clear H
        go_wp2
        go_meet
        case rel => exact ⟨_, (true), (by first | rfl | (simp; done) | (simp [*]; done)), H', ⟨by first | omega | exact Nat.le_refl _⟩, ⟨by repeat (first | (with_reducible first | exact HB.out | apply below_alloc | apply pw_below_drewN | apply below_drew1) | exact HB.out)⟩⟩
      · rw [if_neg c5] at H
        have c5b0 : decide (200 < (l0.length : Int)) = false := decide_eq_false c5
        have c5b1 : decide (200 < l0.length) = false := decide_eq_false (by omega)
        clear c5
        (first | rw [c5b0] | (simp only [i64_w, i32_w]; rw [c5b0]) | skip)
        by_cases c6 : a1 < 0
        · rw [if_pos c6] at H
          have c6b0 : decide (a1 < 0) = true := decide_eq_true c6
          clear c6
          have H' := Aside0.mk H
          clear H
          go_wp2
          go_meet
          case rel => exact ⟨_, (true), (by first | rfl | (simp; done) | (simp [*]; done)), H', ⟨by first | omega | exact Nat.le_refl _⟩, ⟨by repeat (first | (with_reducible first | exact HB.out | apply below_alloc | apply pw_below_drewN | apply below_drew1) | exact HB.out)⟩⟩
        · rw [if_neg c6] at H
          have c6b0 : decide (a1 < 0) = false := decide_eq_false c6
          clear c6
          have H' := Aside0.mk H
          clear H
          go_wp2
          go_meet
          case rel => exact ⟨_, (decide (a1 > (l0.length : Int))), (by first | rfl | (simp; done) | (simp [*]; done)), H', ⟨by first | omega | exact Nat.le_refl _⟩, ⟨by repeat (first | (with_reducible first | exact HB.out | apply below_alloc | apply pw_below_drewN | apply below_drew1) | exact HB.out)⟩⟩
    case rest =>
      clear HC4
      try clear c1
      try clear p2
      try clear c3
      try clear c3b0
      try clear c3b1
      try clear c5
      try clear c5b0
      try clear c5b1
      try clear c6
      try clear c6b0
      obtain ⟨kq, x29_3, rfl, HA, HJ3, HB⟩ := hcut
      cases kq with
      | zero => exact absurd HA.out (by simp [laws_FnReadHeader.j0])
      | succ kj3 =>
        have H := HA.out
        clear HA
        simp only [laws_FnReadHeader.j0] at H
        by_cases c7 : x29_3 = true
        · subst c7
          have H1 : (some true) = some r := by rw [if_pos rfl] at H; exact H
          clear H
          have H := H1
          clear H1
          obtain rfl := Option.some.inj H
          go_wp2
          go_ret
          exact ⟨by first | rfl | (simp [errW_none, errW_some] <;> rfl) | (simp [*, errW_none, errW_some] <;> rfl), by repeat (first | (with_reducible first | exact HB.out | apply below_alloc | apply pw_below_drewN | apply below_drew1) | exact HB.out)⟩
        · replace c7 := Bool.eq_false_iff.mpr c7
          subst c7
          have H1 : ((spec_Header.f kj3 l0 a1).bind fun bt150 => ((impl_ReadHeader.f kj3 l0 a1).bind fun bt157 => ((impl_ReadHeader.f kj3 (([48, 3] : List Int)) 0).bind fun bt167 => (if (bt157.2.2.2.2.2 == bt150.2.2.2.2.2) = true then (if bt150.2.2.2.2.2 = true then ((laws_header.f bt150.1 bt150.2.1 bt150.2.2.1 bt150.2.2.2.1).bind fun bt174 => (if (bt157.1 == bt174.1 && (bt157.2.1 == bt174.2.1 && (bt157.2.2.1 == bt174.2.2.1 && (bt157.2.2.2.1 == bt174.2.2.2)))) = true then (if bt157.2.2.2.2.1 = bt150.2.2.2.2.1 then (if bt167.2.2.2.2.2 = true then (some (bt167.2.2.1 == 3)) else (some false)) else (some false)) else (some false))) else (if bt167.2.2.2.2.2 = true then (some (bt167.2.2.1 == 3)) else (some false))) else (some false))))) = some r := by rw [if_neg (show ¬ (false = true) by decide)] at H; exact H
          clear H
          have H := H1
          clear H1
          replace H := Option.bind_eq_some_iff.mp H
          obtain ⟨⟨t150, t151, t152, t153, t154, t155⟩, A80, H⟩ := H
          replace H : ((impl_ReadHeader.f kj3 l0 a1).bind fun bt157 => ((impl_ReadHeader.f kj3 (([48, 3] : List Int)) 0).bind fun bt167 => (if (bt157.2.2.2.2.2 == t155) = true then (if t155 = true then ((laws_header.f t150 t151 t152 t153).bind fun bt174 => (if (bt157.1 == bt174.1 && (bt157.2.1 == bt174.2.1 && (bt157.2.2.1 == bt174.2.2.1 && (bt157.2.2.2.1 == bt174.2.2.2)))) = true then (if bt157.2.2.2.2.1 = t154 then (if bt167.2.2.2.2.2 = true then (some (bt167.2.2.1 == 3)) else (some false)) else (some false)) else (some false))) else (if bt167.2.2.2.2.2 = true then (some (bt167.2.2.1 == 3)) else (some false))) else (some false)))) = some r := H
          have A8 := Aside0.mk A80
          clear A80
          replace H := Option.bind_eq_some_iff.mp H
          obtain ⟨⟨t157, t158, t159, t160, t161, t162⟩, A90, H⟩ := H
          replace H : ((impl_ReadHeader.f kj3 (([48, 3] : List Int)) 0).bind fun bt167 => (if (t162 == t155) = true then (if t155 = true then ((laws_header.f t150 t151 t152 t153).bind fun bt174 => (if (t157 == bt174.1 && (t158 == bt174.2.1 && (t159 == bt174.2.2.1 && (t160 == bt174.2.2.2)))) = true then (if t161 = t154 then (if bt167.2.2.2.2.2 = true then (some (bt167.2.2.1 == 3)) else (some false)) else (some false)) else (some false))) else (if bt167.2.2.2.2.2 = true then (some (bt167.2.2.1 == 3)) else (some false))) else (some false))) = some r := H
          have A9 := Aside0.mk A90
          clear A90
          obtain ⟨y164, hy164⟩ : ∃ y_ : List Int, y_ = (([48, 3] : List Int)) := ⟨_, rfl⟩
          replace H : ((impl_ReadHeader.f kj3 y164 0).bind fun bt167 => (if (t162 == t155) = true then (if t155 = true then ((laws_header.f t150 t151 t152 t153).bind fun bt174 => (if (t157 == bt174.1 && (t158 == bt174.2.1 && (t159 == bt174.2.2.1 && (t160 == bt174.2.2.2)))) = true then (if t161 = t154 then (if bt167.2.2.2.2.2 = true then (some (bt167.2.2.1 == 3)) else (some false)) else (some false)) else (some false))) else (if bt167.2.2.2.2.2 = true then (some (bt167.2.2.1 == 3)) else (some false))) else (some false))) = some r := by first | (rw [hy164]; with_reducible exact H) | (have H2_ := (Option.bind_some _ _).symm.trans H; rw [hy164]; with_reducible exact H2_) | (have H2_ := (Option.bind_some _ _).symm.trans H; with_reducible exact H2_) | with_reducible exact H | (rw [hy164]; exact H) | exact H
          have Ny164 := Aside0.mk hy164
          clear hy164
          replace H := Option.bind_eq_some_iff.mp H
          obtain ⟨⟨t167, t168, t169, t170, t171, t172⟩, A100, H⟩ := H
          replace H : (if (t162 == t155) = true then (if t155 = true then ((laws_header.f t150 t151 t152 t153).bind fun bt174 => (if (t157 == bt174.1 && (t158 == bt174.2.1 && (t159 == bt174.2.2.1 && (t160 == bt174.2.2.2)))) = true then (if t161 = t154 then (if t172 = true then (some (t169 == 3)) else (some false)) else (some false)) else (some false))) else (if t172 = true then (some (t169 == 3)) else (some false))) else (some false)) = some r := H
          have A10 := Aside0.mk A100
          clear A100
          by_cases c11 : (t162 == t155) = true
          · rw [if_pos c11] at H
            have c11b0 : (t162 == t155) = true := c11
            (try (have c11b1 : t162 = t155 := bool_eq_of _ _ (by simpa using c11)))
            (try (have c11b2 : decide (t162 = t155) = true := by simpa using c11))
            (try (have c11b3 : (t162 == t155) = true := by simpa using c11))
            clear c11
            by_cases c12 : t155 = true
            · subst c12
              have H1 : ((laws_header.f t150 t151 t152 t153).bind fun bt174 => (if (t157 == bt174.1 && (t158 == bt174.2.1 && (t159 == bt174.2.2.1 && (t160 == bt174.2.2.2)))) = true then (if t161 = t154 then (if t172 = true then (some (t169 == 3)) else (some false)) else (some false)) else (some false))) = some r := by rw [if_pos rfl] at H; exact H
              clear H
              have H := H1
              clear H1
              replace H := Option.bind_eq_some_iff.mp H
              obtain ⟨⟨t174, t175, t176, t177⟩, A130, H⟩ := H
              replace H : (if (t157 == t174 && (t158 == t175 && (t159 == t176 && (t160 == t177)))) = true then (if t161 = t154 then (if t172 = true then (some (t169 == 3)) else (some false)) else (some false)) else (some false)) = some r := H
              have A13 := Aside0.mk A130
              clear A130
              by_cases c14 : (t157 == t174 && (t158 == t175 && (t159 == t176 && (t160 == t177)))) = true
              · rw [if_pos c14] at H
                have c14b0 : (t157 == t174 && (t158 == t175 && (t159 == t176 && (t160 == t177)))) = true := c14
                (try (have c14b1 : t157 = (t174 && (t158 == t175 && (t159 == t176 && (t160 == t177)))) := bool_eq_of _ _ (by simpa using c14)))
                (try (have c14b2 : decide (t157 = t174 && (t158 == t175 && (t159 == t176 && (t160 == t177)))) = true := by simpa using c14))
                (try (have c14b3 : (t157 == t174 && (t158 == t175 && (t159 == t176 && (t160 == t177)))) = true := by simpa using c14))
                clear c14
                by_cases c15 : t161 = t154
                · rw [if_pos c15] at H
                  have c15b0 : (t161 == t154) = true := beq_iff_eq.mpr c15
                  have c15b1 : (t161 != t154) = false := bne_eq_false_iff_eq.mpr c15
                  clear c15
                  by_cases c16 : t172 = true
                  · subst c16
                    have H1 : (some (t169 == 3)) = some r := by rw [if_pos rfl] at H; exact H
                    clear H
                    have H := H1
                    clear H1
                    obtain rfl := Option.some.inj H
                    try go_wp2_with (first | ((with_reducible refine gate_callee (f := 31) rfl ?_); refine goesL_ (some 33) rfl rfl Try.func31 (by kernel_rfl) rfl #[.slice A0 l0.length c0, .int .i64 a1] rfl (by (try simp only [List.map_toArray, List.map_cons, List.map_nil]); first | done | rfl | (simp only [List.length_drop, List.length_take]; rfl)) ?_; (with_reducible refine (spec_Header.calls kj3 _ _ l0 a1 t150 t151 t152 t153 t154 true _ ?side1 ?side2 A8.out).mono ?_); (case side1 => repeat (first | exact (Kd.C_below HR0.out HB.out) | (with_reducible refine Kd.C_alloc ?_ _) | (with_reducible refine Kd.C_drewN ?_ _) | (with_reducible refine Kd.C_drew ?_))); (case side2 => exact HC0.out); rintro e w17 ⟨rfl, hb⟩; refine ⟨_, rfl, ?_⟩; have n0_ := Aside0.mk (below_step (by repeat (first | (with_reducible first | exact HB.out | apply below_alloc | apply pw_below_drewN | apply below_drew1) | exact HB.out)) hb); clear HB; have HB := n0_; clear n0_; (try clear hb); (try clear hb2); (try clear hk); (try clear hi)) | ((with_reducible refine gate_dst (N := 5) rfl ?_); (try (refine gate_guard (by rfl) ?_; dsimp only)); refine box_event ?hg (N := 5) ?hd (cs := #[.int .i64 0, .int .i64 0, .int .i64 0, .bool false]) (t := 44) ?hr ?_; (case hd => rfl); (case hg => rfl); (case hr => first | (go_simp; done) | (go_simp; rfl)); intro gb156 hg w18 hbox hb; have n0_ := Aside0.mk (below_step (by repeat (first | (with_reducible first | exact HB.out | apply below_alloc | apply pw_below_drewN | apply below_drew1) | exact HB.out)) hb); have n1_ := Aside0.mk (hbox); have n2_ := Aside0.mk ((by rw [hg]; exact (below_size (by repeat (first | (with_reducible first | exact HB.out | apply below_alloc | apply pw_below_drewN | apply below_drew1) | exact HB.out))) : w.heap.size ≤ gb156)); have n3_ := Aside0.mk ((by rw [hg]; exact (below_size (by repeat (first | (with_reducible first | exact HB.out | apply below_alloc | apply pw_below_drewN | apply below_drew1) | exact HB.out))) : w.heap.size ≤ gb156)); clear HB; have HB := n0_; have BK156 := n1_; have GW156 := n2_; have GE156 := n3_; clear n0_ n1_ n2_ n3_; clear hb hbox hg; have hcz19_0 : w18.cell? ⟨gb156, 0, none⟩ = some (.int .i64 0) := (blk_cell BK156.out 0).trans rfl; have hcz19_1 : w18.cell? ⟨gb156, 1, none⟩ = some (.int .i64 0) := (blk_cell BK156.out 1).trans rfl; have hcz19_2 : w18.cell? ⟨gb156, 2, none⟩ = some (.int .i64 0) := (blk_cell BK156.out 2).trans rfl; have hcz19_3 : w18.cell? ⟨gb156, 3, none⟩ = some (.bool false) := (blk_cell BK156.out 3).trans rfl; have hfz19_0 := blk_frozen BK156.out 0; have hfz19_1 := blk_frozen BK156.out 1; have hfz19_2 := blk_frozen BK156.out 2; have hfz19_3 := blk_frozen BK156.out 3) | ((with_reducible refine gate_callee (f := 32) rfl ?_); refine goesL_ (some 40) rfl rfl Try.func32 (by kernel_rfl) rfl #[.slice A0 l0.length c0, .int .i64 a1] rfl (by (try simp only [List.map_toArray, List.map_cons, List.map_nil]); first | done | rfl | (simp only [List.length_drop, List.length_take]; rfl)) ?_; (with_reducible refine (impl_ReadHeader.calls kj3 _ _ l0 a1 t157 t158 t159 t160 t161 t162 _ ?side1 ?side2 A9.out).mono ?_); (case side1 => exact Kd.C_below HR0.out (by repeat (first | (with_reducible first | exact HB.out | apply below_alloc | apply pw_below_drewN | apply below_drew1 | refine below_set ?_ GE156.out) | exact HB.out))); (case side2 => exact HC0.out); rintro e w20 ⟨rfl, hb⟩; refine ⟨_, rfl, ?_⟩; have n0_ := Aside0.mk (blk_below (g := gb156) (o := .cells #[.int .i64 t150, .int .i64 t151, .int .i64 t152, .bool t153] 44 (0, 0)) (by (with_reducible repeat (first | refine blk_drewN ?_ _ | refine blk_drew ?_ | refine blk_alloc ?_ _)); refine blk_put (cs := #[.int .i64 t150, .int .i64 t151, .int .i64 t152, .bool false]) ?_ 3 _ rfl; (with_reducible repeat (first | refine blk_drewN ?_ _ | refine blk_drew ?_ | refine blk_alloc ?_ _)); refine blk_put (cs := #[.int .i64 t150, .int .i64 t151, .int .i64 0, .bool false]) ?_ 2 _ rfl; (with_reducible repeat (first | refine blk_drewN ?_ _ | refine blk_drew ?_ | refine blk_alloc ?_ _)); refine blk_put (cs := #[.int .i64 t150, .int .i64 0, .int .i64 0, .bool false]) ?_ 1 _ rfl; (with_reducible repeat (first | refine blk_drewN ?_ _ | refine blk_drew ?_ | refine blk_alloc ?_ _)); refine blk_put (cs := #[.int .i64 0, .int .i64 0, .int .i64 0, .bool false]) ?_ 0 _ rfl; (with_reducible repeat (first | refine blk_drewN ?_ _ | refine blk_drew ?_ | refine blk_alloc ?_ _)); exact BK156.out) hb); have n1_ := Aside0.mk (below_step (by repeat (first | (with_reducible first | exact HB.out | apply below_alloc | apply pw_below_drewN | apply below_drew1 | refine below_set ?_ GE156.out) | exact HB.out)) hb); clear BK156; clear HB; have BK156 := n0_; have HB := n1_; clear n0_ n1_; (try clear hb); (try clear hb2); (try clear hk); (try clear hi)) | ((with_reducible refine gate_dst (N := 8) rfl ?_); (try (refine gate_guard (by rfl) ?_; dsimp only)); refine box_event ?hg (N := 8) ?hd (cs := #[.int .i64 0, .int .i64 0, .int .i64 0, .bool false]) (t := 41) ?hr ?_; (case hd => rfl); (case hg => rfl); (case hr => first | (go_simp; done) | (go_simp; rfl)); intro gb163 hg w21 hbox hb; have n0_ := Aside0.mk (blk_below (g := gb156) (o := .cells #[.int .i64 t150, .int .i64 t151, .int .i64 t152, .bool t153] 44 (0, 0)) (by (with_reducible repeat (first | refine blk_drewN ?_ _ | refine blk_drew ?_ | refine blk_alloc ?_ _)); exact BK156.out) hb); have n1_ := Aside0.mk (below_step (by repeat (first | (with_reducible first | exact HB.out | apply below_alloc | apply pw_below_drewN | apply below_drew1 | refine below_set ?_ GE156.out) | exact HB.out)) hb); have n2_ := Aside0.mk (hbox); have n3_ := Aside0.mk ((by rw [hg]; exact (below_size (by repeat (first | (with_reducible first | exact HB.out | apply below_alloc | apply pw_below_drewN | apply below_drew1 | refine below_set ?_ GE156.out) | exact HB.out))) : w.heap.size ≤ gb163)); have n4_ := Aside0.mk ((by rw [hg]; exact (below_size (by repeat (first | (with_reducible first | exact HB.out | apply below_alloc | apply pw_below_drewN | apply below_drew1 | refine below_set ?_ GE156.out) | exact HB.out))) : w.heap.size ≤ gb163)); have n5_ := Aside0.mk ((by rw [hg]; exact Nat.ne_of_lt (blk_lt (g := gb156) (o := .cells #[.int .i64 t150, .int .i64 t151, .int .i64 t152, .bool t153] 44 (0, 0)) (by (with_reducible repeat (first | refine blk_drewN ?_ _ | refine blk_drew ?_ | refine blk_alloc ?_ _)); exact BK156.out)) : gb156 ≠ gb163)); have n6_ := Aside0.mk ((by rw [hg]; exact Nat.ne_of_gt (blk_lt (g := gb156) (o := .cells #[.int .i64 t150, .int .i64 t151, .int .i64 t152, .bool t153] 44 (0, 0)) (by (with_reducible repeat (first | refine blk_drewN ?_ _ | refine blk_drew ?_ | refine blk_alloc ?_ _)); exact BK156.out)) : gb163 ≠ gb156)); clear BK156; clear HB; have BK156 := n0_; have HB := n1_; have BK163 := n2_; have GW163 := n3_; have GE163 := n4_; have NB156_163 := n5_; have NB163_156 := n6_; clear n0_ n1_ n2_ n3_ n4_ n5_ n6_; clear hb hbox hg; have hnb22 := NB163_156.out; have hnc22 := NB156_163.out; have hcz23_0 : w21.cell? ⟨gb163, 0, none⟩ = some (.int .i64 0) := (blk_cell BK163.out 0).trans rfl; have hcz23_1 : w21.cell? ⟨gb163, 1, none⟩ = some (.int .i64 0) := (blk_cell BK163.out 1).trans rfl; have hcz23_2 : w21.cell? ⟨gb163, 2, none⟩ = some (.int .i64 0) := (blk_cell BK163.out 2).trans rfl; have hcz23_3 : w21.cell? ⟨gb163, 3, none⟩ = some (.bool false) := (blk_cell BK163.out 3).trans rfl; have hfz23_0 := blk_frozen BK163.out 0; have hfz23_1 := blk_frozen BK163.out 1; have hfz23_2 := blk_frozen BK163.out 2; have hfz23_3 := blk_frozen BK163.out 3) | ((with_reducible refine gate_dst (N := 45) rfl ?_); (try (refine gate_guard (by rfl) ?_; dsimp only)); refine Kd.R_lit (Kd.int .u8) _ 5 ?hg (N := 45) ?hd (xs := ([48, 3] : List Int)) (inner := [.int .u8 48, .int .u8 3]) (ok := fun _ => True) (okp := fun _ => True) ?hr ?hp (fun _ hk => hk) trivial (Below.refl _ _) (Nat.le_refl _) (by simp) ?_; (case hd => rfl); (case hg => rfl); (case hr => first | (go_simp; done) | (go_simp; rfl)); (case hp => exact (Reps.one (show Kd.M (Kd.int .u8) _ _ _ 48 [.int .u8 48] from rfl) (Reps.one (show Kd.M (Kd.int .u8) _ _ _ 3 [.int .u8 3] from rfl) (Reps.none _ _)))); intro v165 w24 ho25 hb hg_ hnew_; clear hg_ hnew_; (first | rw [← Ny164.out] at ho25 | (simp only [Int.reduceToNat] at ho25; rw [← Ny164.out] at ho25)); have n0_ := Aside0.mk (Kd.R_lower ho25 (below_size (by repeat (first | (with_reducible first | exact HB.out | apply below_alloc | apply pw_below_drewN | apply below_drew1 | refine below_set ?_ GE156.out | refine below_set ?_ GE163.out) | exact HB.out)))); have n1_ := Aside0.mk (blk_below (g := gb156) (o := .cells #[.int .i64 t150, .int .i64 t151, .int .i64 t152, .bool t153] 44 (0, 0)) (by (with_reducible repeat (first | refine blk_drewN ?_ _ | refine blk_drew ?_ | refine blk_alloc ?_ _)); refine blk_far ?_ NB156_163.out _; (with_reducible repeat (first | refine blk_drewN ?_ _ | refine blk_drew ?_ | refine blk_alloc ?_ _)); refine blk_far ?_ NB156_163.out _; (with_reducible repeat (first | refine blk_drewN ?_ _ | refine blk_drew ?_ | refine blk_alloc ?_ _)); refine blk_far ?_ NB156_163.out _; (with_reducible repeat (first | refine blk_drewN ?_ _ | refine blk_drew ?_ | refine blk_alloc ?_ _)); refine blk_far ?_ NB156_163.out _; (with_reducible repeat (first | refine blk_drewN ?_ _ | refine blk_drew ?_ | refine blk_alloc ?_ _)); exact BK156.out) hb); have n2_ := Aside0.mk (blk_below (g := gb163) (o := .cells #[.int .i64 t157, .int .i64 t158, .int .i64 t159, .bool t160] 41 (0, 0)) (by (with_reducible repeat (first | refine blk_drewN ?_ _ | refine blk_drew ?_ | refine blk_alloc ?_ _)); refine blk_put (cs := #[.int .i64 t157, .int .i64 t158, .int .i64 t159, .bool false]) ?_ 3 _ rfl; (with_reducible repeat (first | refine blk_drewN ?_ _ | refine blk_drew ?_ | refine blk_alloc ?_ _)); refine blk_put (cs := #[.int .i64 t157, .int .i64 t158, .int .i64 0, .bool false]) ?_ 2 _ rfl; (with_reducible repeat (first | refine blk_drewN ?_ _ | refine blk_drew ?_ | refine blk_alloc ?_ _)); refine blk_put (cs := #[.int .i64 t157, .int .i64 0, .int .i64 0, .bool false]) ?_ 1 _ rfl; (with_reducible repeat (first | refine blk_drewN ?_ _ | refine blk_drew ?_ | refine blk_alloc ?_ _)); refine blk_put (cs := #[.int .i64 0, .int .i64 0, .int .i64 0, .bool false]) ?_ 0 _ rfl; (with_reducible repeat (first | refine blk_drewN ?_ _ | refine blk_drew ?_ | refine blk_alloc ?_ _)); exact BK163.out) hb); have n3_ := Aside0.mk (below_step (by repeat (first | (with_reducible first | exact HB.out | apply below_alloc | apply pw_below_drewN | apply below_drew1 | refine below_set ?_ GE156.out | refine below_set ?_ GE163.out) | exact HB.out)) hb); clear BK156; clear BK163; clear HB; have HO166 := n0_; have BK156 := n1_; have BK163 := n2_; have HB := n3_; clear n0_ n1_ n2_ n3_; clear hb ho25; obtain ⟨Ao26, co26, eo26⟩ := Kd.R_slice HO166.out; subst eo26) | ((with_reducible refine gate_callee (f := 32) rfl ?_); refine goesL_ (some 46) rfl rfl Try.func32 (by kernel_rfl) rfl #[.slice Ao26 y164.length co26, .int .i64 0] rfl (by (try simp only [List.map_toArray, List.map_cons, List.map_nil]); first | done | rfl | (simp only [List.length_drop, List.length_take]; rfl)) ?_; (with_reducible refine (impl_ReadHeader.calls kj3 _ _ y164 0 t167 t168 t169 t170 t171 true _ ?side1 ?side2 A10.out).mono ?_); (case side1 => repeat (first | exact (Kd.R_reads' HO166.out).2.2 | (with_reducible refine Kd.C_alloc ?_ _) | (with_reducible refine Kd.C_drewN ?_ _) | (with_reducible refine Kd.C_drew ?_))); (case side2 => exact (Kd.R_reads' HO166.out).2.1); rintro e w27 ⟨rfl, hb⟩; refine ⟨_, rfl, ?_⟩; have n0_ := Aside0.mk (Kd.R_below (by (with_reducible repeat (first | apply Kd.R_alloc | apply Kd.R_drewN | apply Kd.R_drew)); exact HO166.out) hb); have n1_ := Aside0.mk (blk_below (g := gb156) (o := .cells #[.int .i64 t150, .int .i64 t151, .int .i64 t152, .bool t153] 44 (0, 0)) (by (with_reducible repeat (first | refine blk_drewN ?_ _ | refine blk_drew ?_ | refine blk_alloc ?_ _)); exact BK156.out) hb); have n2_ := Aside0.mk (blk_below (g := gb163) (o := .cells #[.int .i64 t157, .int .i64 t158, .int .i64 t159, .bool t160] 41 (0, 0)) (by (with_reducible repeat (first | refine blk_drewN ?_ _ | refine blk_drew ?_ | refine blk_alloc ?_ _)); exact BK163.out) hb); have n3_ := Aside0.mk (below_step (by repeat (first | (with_reducible first | exact HB.out | apply below_alloc | apply pw_below_drewN | apply below_drew1 | refine below_set ?_ GE156.out | refine below_set ?_ GE163.out) | exact HB.out)) hb); clear HO166; clear BK156; clear BK163; clear HB; have HO166 := n0_; have BK156 := n1_; have BK163 := n2_; have HB := n3_; clear n0_ n1_ n2_ n3_; (try clear hb); (try clear hb2); (try clear hk); (try clear hi)) | ((with_reducible refine gate_dst (N := 11) rfl ?_); (try (refine gate_guard (by rfl) ?_; dsimp only)); refine box_event ?hg (N := 11) ?hd (cs := #[.int .i64 0, .int .i64 0, .int .i64 0, .bool false]) (t := 41) ?hr ?_; (case hd => rfl); (case hg => rfl); (case hr => first | (go_simp; done) | (go_simp; rfl)); intro gb173 hg w28 hbox hb; have n0_ := Aside0.mk (Kd.R_below (by (with_reducible repeat (first | apply Kd.R_alloc | apply Kd.R_drewN | apply Kd.R_drew)); exact HO166.out) hb); have n1_ := Aside0.mk (blk_below (g := gb156) (o := .cells #[.int .i64 t150, .int .i64 t151, .int .i64 t152, .bool t153] 44 (0, 0)) (by (with_reducible repeat (first | refine blk_drewN ?_ _ | refine blk_drew ?_ | refine blk_alloc ?_ _)); exact BK156.out) hb); have n2_ := Aside0.mk (blk_below (g := gb163) (o := .cells #[.int .i64 t157, .int .i64 t158, .int .i64 t159, .bool t160] 41 (0, 0)) (by (with_reducible repeat (first | refine blk_drewN ?_ _ | refine blk_drew ?_ | refine blk_alloc ?_ _)); exact BK163.out) hb); have n3_ := Aside0.mk (below_step (by repeat (first | (with_reducible first | exact HB.out | apply below_alloc | apply pw_below_drewN | apply below_drew1 | refine below_set ?_ GE156.out | refine below_set ?_ GE163.out) | exact HB.out)) hb); have n4_ := Aside0.mk (hbox); have n5_ := Aside0.mk ((by rw [hg]; exact (below_size (by repeat (first | (with_reducible first | exact HB.out | apply below_alloc | apply pw_below_drewN | apply below_drew1 | refine below_set ?_ GE156.out | refine below_set ?_ GE163.out) | exact HB.out))) : w.heap.size ≤ gb173)); have n6_ := Aside0.mk ((by rw [hg]; exact (below_size (by repeat (first | (with_reducible first | exact HB.out | apply below_alloc | apply pw_below_drewN | apply below_drew1 | refine below_set ?_ GE156.out | refine below_set ?_ GE163.out) | exact HB.out))) : w.heap.size ≤ gb173)); have n7_ := Aside0.mk ((by rw [hg]; exact Nat.ne_of_lt (blk_lt (g := gb156) (o := .cells #[.int .i64 t150, .int .i64 t151, .int .i64 t152, .bool t153] 44 (0, 0)) (by (with_reducible repeat (first | refine blk_drewN ?_ _ | refine blk_drew ?_ | refine blk_alloc ?_ _)); exact BK156.out)) : gb156 ≠ gb173)); have n8_ := Aside0.mk ((by rw [hg]; exact Nat.ne_of_gt (blk_lt (g := gb156) (o := .cells #[.int .i64 t150, .int .i64 t151, .int .i64 t152, .bool t153] 44 (0, 0)) (by (with_reducible repeat (first | refine blk_drewN ?_ _ | refine blk_drew ?_ | refine blk_alloc ?_ _)); exact BK156.out)) : gb173 ≠ gb156)); have n9_ := Aside0.mk ((by rw [hg]; exact Nat.ne_of_lt (blk_lt (g := gb163) (o := .cells #[.int .i64 t157, .int .i64 t158, .int .i64 t159, .bool t160] 41 (0, 0)) (by (with_reducible repeat (first | refine blk_drewN ?_ _ | refine blk_drew ?_ | refine blk_alloc ?_ _)); exact BK163.out)) : gb163 ≠ gb173)); have n10_ := Aside0.mk ((by rw [hg]; exact Nat.ne_of_gt (blk_lt (g := gb163) (o := .cells #[.int .i64 t157, .int .i64 t158, .int .i64 t159, .bool t160] 41 (0, 0)) (by (with_reducible repeat (first | refine blk_drewN ?_ _ | refine blk_drew ?_ | refine blk_alloc ?_ _)); exact BK163.out)) : gb173 ≠ gb163)); clear HO166; clear BK156; clear BK163; clear HB; have HO166 := n0_; have BK156 := n1_; have BK163 := n2_; have HB := n3_; have BK173 := n4_; have GW173 := n5_; have GE173 := n6_; have NB156_173 := n7_; have NB173_156 := n8_; have NB163_173 := n9_; have NB173_163 := n10_; clear n0_ n1_ n2_ n3_ n4_ n5_ n6_ n7_ n8_ n9_ n10_; clear hb hbox hg; have hnb29 := NB173_156.out; have hnc29 := NB156_173.out; have hnb30 := NB173_163.out; have hnc30 := NB163_173.out; have hcz31_0 : w28.cell? ⟨gb173, 0, none⟩ = some (.int .i64 0) := (blk_cell BK173.out 0).trans rfl; have hcz31_1 : w28.cell? ⟨gb173, 1, none⟩ = some (.int .i64 0) := (blk_cell BK173.out 1).trans rfl; have hcz31_2 : w28.cell? ⟨gb173, 2, none⟩ = some (.int .i64 0) := (blk_cell BK173.out 2).trans rfl; have hcz31_3 : w28.cell? ⟨gb173, 3, none⟩ = some (.bool false) := (blk_cell BK173.out 3).trans rfl; have hfz31_0 := blk_frozen BK173.out 0; have hfz31_1 := blk_frozen BK173.out 1; have hfz31_2 := blk_frozen BK173.out 2; have hfz31_3 := blk_frozen BK173.out 3))
                    have n0_ : Aside0 (Kd.R (Kd.int .u8) 5 ((((w28.setCell ⟨gb173, 0, none⟩ (.int .i64 t167)).setCell ⟨gb173, 1, none⟩ (.int .i64 t168)).setCell ⟨gb173, 2, none⟩ (.int .i64 t169)).setCell ⟨gb173, 3, none⟩ (.bool t170)) w.heap.size (fun _ => True) (.slice Ao26 y164.length co26) y164) := ⟨by (with_reducible repeat (first | apply Kd.R_alloc | apply Kd.R_drewN | apply Kd.R_drew)); exact Kd.R_mono (Kd.R_far (p := ⟨gb173, 3, none⟩) (Kd.R_far (p := ⟨gb173, 2, none⟩) (Kd.R_far (p := ⟨gb173, 1, none⟩) (Kd.R_far (p := ⟨gb173, 0, none⟩) (Kd.R_types HO166.out BK173.out (by decide)) (fun _ hk => hk.2) (.int .i64 t167)) (fun _ hk => hk.2) (.int .i64 t168)) (fun _ hk => hk.2) (.int .i64 t169)) (fun _ hk => hk.2) (.bool t170)) (fun _ hk => trivial)⟩
                    have n1_ : Aside0 (((((w28.setCell ⟨gb173, 0, none⟩ (.int .i64 t167)).setCell ⟨gb173, 1, none⟩ (.int .i64 t168)).setCell ⟨gb173, 2, none⟩ (.int .i64 t169)).setCell ⟨gb173, 3, none⟩ (.bool t170)).heap[gb156]? = some (.cells #[.int .i64 t150, .int .i64 t151, .int .i64 t152, .bool t153] 44 (0, 0))) := ⟨by (with_reducible repeat (first | refine blk_drewN ?_ _ | refine blk_drew ?_ | refine blk_alloc ?_ _)); refine blk_far ?_ NB156_173.out _; (with_reducible repeat (first | refine blk_drewN ?_ _ | refine blk_drew ?_ | refine blk_alloc ?_ _)); refine blk_far ?_ NB156_173.out _; (with_reducible repeat (first | refine blk_drewN ?_ _ | refine blk_drew ?_ | refine blk_alloc ?_ _)); refine blk_far ?_ NB156_173.out _; (with_reducible repeat (first | refine blk_drewN ?_ _ | refine blk_drew ?_ | refine blk_alloc ?_ _)); refine blk_far ?_ NB156_173.out _; (with_reducible repeat (first | refine blk_drewN ?_ _ | refine blk_drew ?_ | refine blk_alloc ?_ _)); exact BK156.out⟩
                    have n2_ : Aside0 (((((w28.setCell ⟨gb173, 0, none⟩ (.int .i64 t167)).setCell ⟨gb173, 1, none⟩ (.int .i64 t168)).setCell ⟨gb173, 2, none⟩ (.int .i64 t169)).setCell ⟨gb173, 3, none⟩ (.bool t170)).heap[gb163]? = some (.cells #[.int .i64 t157, .int .i64 t158, .int .i64 t159, .bool t160] 41 (0, 0))) := ⟨by (with_reducible repeat (first | refine blk_drewN ?_ _ | refine blk_drew ?_ | refine blk_alloc ?_ _)); refine blk_far ?_ NB163_173.out _; (with_reducible repeat (first | refine blk_drewN ?_ _ | refine blk_drew ?_ | refine blk_alloc ?_ _)); refine blk_far ?_ NB163_173.out _; (with_reducible repeat (first | refine blk_drewN ?_ _ | refine blk_drew ?_ | refine blk_alloc ?_ _)); refine blk_far ?_ NB163_173.out _; (with_reducible repeat (first | refine blk_drewN ?_ _ | refine blk_drew ?_ | refine blk_alloc ?_ _)); refine blk_far ?_ NB163_173.out _; (with_reducible repeat (first | refine blk_drewN ?_ _ | refine blk_drew ?_ | refine blk_alloc ?_ _)); exact BK163.out⟩
                    have n3_ : Aside0 (((((w28.setCell ⟨gb173, 0, none⟩ (.int .i64 t167)).setCell ⟨gb173, 1, none⟩ (.int .i64 t168)).setCell ⟨gb173, 2, none⟩ (.int .i64 t169)).setCell ⟨gb173, 3, none⟩ (.bool t170)).heap[gb173]? = some (.cells #[.int .i64 t167, .int .i64 t168, .int .i64 t169, .bool t170] 41 (0, 0))) := ⟨by (with_reducible repeat (first | refine blk_drewN ?_ _ | refine blk_drew ?_ | refine blk_alloc ?_ _)); refine blk_put (cs := #[.int .i64 t167, .int .i64 t168, .int .i64 t169, .bool false]) ?_ 3 _ rfl; (with_reducible repeat (first | refine blk_drewN ?_ _ | refine blk_drew ?_ | refine blk_alloc ?_ _)); refine blk_put (cs := #[.int .i64 t167, .int .i64 t168, .int .i64 0, .bool false]) ?_ 2 _ rfl; (with_reducible repeat (first | refine blk_drewN ?_ _ | refine blk_drew ?_ | refine blk_alloc ?_ _)); refine blk_put (cs := #[.int .i64 t167, .int .i64 0, .int .i64 0, .bool false]) ?_ 1 _ rfl; (with_reducible repeat (first | refine blk_drewN ?_ _ | refine blk_drew ?_ | refine blk_alloc ?_ _)); refine blk_put (cs := #[.int .i64 0, .int .i64 0, .int .i64 0, .bool false]) ?_ 0 _ rfl; (with_reducible repeat (first | refine blk_drewN ?_ _ | refine blk_drew ?_ | refine blk_alloc ?_ _)); exact BK173.out⟩
                    have n4_ : Aside0 (Below w.heap.size w ((((w28.setCell ⟨gb173, 0, none⟩ (.int .i64 t167)).setCell ⟨gb173, 1, none⟩ (.int .i64 t168)).setCell ⟨gb173, 2, none⟩ (.int .i64 t169)).setCell ⟨gb173, 3, none⟩ (.bool t170))) := ⟨by repeat (first | (with_reducible first | exact HB.out | apply below_alloc | apply pw_below_drewN | apply below_drew1 | refine below_set ?_ GE156.out | refine below_set ?_ GE163.out | refine below_set ?_ GE173.out) | exact HB.out)⟩
                    (try clear HO166)
                    (try clear BK156)
                    (try clear BK163)
                    (try clear BK173)
                    (try clear HB)
                    generalize ((((w28.setCell ⟨gb173, 0, none⟩ (.int .i64 t167)).setCell ⟨gb173, 1, none⟩ (.int .i64 t168)).setCell ⟨gb173, 2, none⟩ (.int .i64 t169)).setCell ⟨gb173, 3, none⟩ (.bool t170)) = w32 at n0_ n1_ n2_ n3_ n4_ ⊢
                    have HO166 := n0_
                    have BK156 := n1_
                    have BK163 := n2_
                    have BK173 := n3_
                    have HB := n4_
                    clear n0_ n1_ n2_ n3_ n4_
                    have n0_ := Aside0.mk (Kd.R_drew HO166.out)
                    have n1_ := Aside0.mk (blk_drew BK156.out)
                    have n2_ := Aside0.mk (blk_drew BK163.out)
                    have n3_ := Aside0.mk (blk_drew BK173.out)
                    have n4_ := Aside0.mk (below_drew1 HB.out)
                    clear HO166
                    clear BK156
                    clear BK163
                    clear BK173
                    clear HB
                    have HO166 := n0_
                    have BK156 := n1_
                    have BK163 := n2_
                    have BK173 := n3_
                    have HB := n4_
                    clear n0_ n1_ n2_ n3_ n4_
                    refine start_ (n := 27) (S := fun w' => w'.cell? ⟨gb163, 0, none⟩ = some (.int .i64 t157) ∧ w'.cell? ⟨gb163, 1, none⟩ = some (.int .i64 t158) ∧ w'.cell? ⟨gb163, 2, none⟩ = some (.int .i64 t159) ∧ w'.cell? ⟨gb163, 3, none⟩ = some (.bool t160) ∧ w'.cell? ⟨gb156, 0, none⟩ = some (.int .i64 t150) ∧ w'.cell? ⟨gb156, 1, none⟩ = some (.int .i64 t151) ∧ w'.cell? ⟨gb156, 2, none⟩ = some (.int .i64 t152) ∧ w'.cell? ⟨gb156, 3, none⟩ = some (.bool t153) ∧ w'.cell? ⟨gb173, 0, none⟩ = some (.int .i64 t167) ∧ w'.cell? ⟨gb173, 1, none⟩ = some (.int .i64 t168) ∧ w'.cell? ⟨gb173, 2, none⟩ = some (.int .i64 t169) ∧ w'.cell? ⟨gb173, 3, none⟩ = some (.bool t170)) (ds := []) #[false, false, false, false, false, false, false, false, false, false, false, false, false, false, false, false, false, false, false, false, false, false, false, false, false, false, false] (by kernel_rfl) rfl rfl ⟨(blk_cell BK163.out 0).trans rfl, (blk_cell BK163.out 1).trans rfl, (blk_cell BK163.out 2).trans rfl, (blk_cell BK163.out 3).trans rfl, (blk_cell BK156.out 0).trans rfl, (blk_cell BK156.out 1).trans rfl, (blk_cell BK156.out 2).trans rfl, (blk_cell BK156.out 3).trans rfl, (blk_cell BK173.out 0).trans rfl, (blk_cell BK173.out 1).trans rfl, (blk_cell BK173.out 2).trans rfl, (blk_cell BK173.out 3).trans rfl⟩ (fun hHeld => ?_); refine with_tabW laws_FnReadHeader.tab8 laws_FnReadHeader.bits8 (fun HT_ HW_ => ?_)
                    generalize w32.drew = w33 at HO166 BK156 BK163 BK173 HB hHeld ⊢
                    refine pure_ (i := 0) (N := some 50) (v := ?_) (a' := ?_) #[true, false, false, false, false, false, false, false, false, false, false, false, false, false, false, false, false, false, false, false, false, false, false, false, false, false, false] rfl rfl (any_of HT_.out (by kernel_rfl)) (fun _ _ _ h => h) (Or.inl ⟨by rfl, ?_⟩) ?_ ?_
                    rotate_left
                    · intro w'
                      go_simp
                      with_reducible rfl
                    rotate_left
                    · simp only [Act.put, List.setIfInBounds_toArray, List.set_cons_zero, List.set_cons_succ, i64_w, i32_w]
                      rfl
                    refine pure_ (i := 1) (N := some 51) (v := ?_) (a' := ?_) #[true, true, false, false, false, false, false, false, false, false, false, false, false, false, false, false, false, false, false, false, false, false, false, false, false, false, false] rfl rfl (any_of HT_.out (by kernel_rfl)) (fun _ _ _ h => h) (Or.inl ⟨by rfl, ?_⟩) ?_ ?_
                    rotate_left
                    · intro w'
                      go_simp
                      with_reducible rfl
                    rotate_left
                    · simp only [Act.put, List.setIfInBounds_toArray, List.set_cons_zero, List.set_cons_succ, i64_w, i32_w]
                      rfl
                    refine pure_ (i := 2) (N := some 52) (v := ?_) (a' := ?_) #[true, true, true, false, false, false, false, false, false, false, false, false, false, false, false, false, false, false, false, false, false, false, false, false, false, false, false] rfl rfl (any_of HT_.out (by kernel_rfl)) (fun _ _ _ h => h) (Or.inl ⟨by rfl, ?_⟩) ?_ ?_
                    rotate_left
                    · intro w'
                      go_simp
                      with_reducible rfl
                    rotate_left
                    · simp only [Act.put, List.setIfInBounds_toArray, List.set_cons_zero, List.set_cons_succ, i64_w, i32_w]
                      rfl
                    refine pure_ (i := 3) (N := some 53) (v := ?_) (a' := ?_) #[true, true, true, true, false, false, false, false, false, false, false, false, false, false, false, false, false, false, false, false, false, false, false, false, false, false, false] rfl rfl (any_of HT_.out (by kernel_rfl)) (fun _ _ _ h => h) (Or.inl ⟨by rfl, ?_⟩) ?_ ?_
                    rotate_left
                    · intro w'
                      go_simp
                      with_reducible rfl
                    rotate_left
                    · simp only [Act.put, List.setIfInBounds_toArray, List.set_cons_zero, List.set_cons_succ, i64_w, i32_w]
                      rfl
                    refine pure_ (i := 4) (N := some 54) (v := ?_) (a' := ?_) #[true, true, true, true, true, false, false, false, false, false, false, false, false, false, false, false, false, false, false, false, false, false, false, false, false, false, false] rfl rfl (any_of HT_.out (by kernel_rfl)) (fun _ _ _ h => h) (Or.inl ⟨by rfl, ?_⟩) ?_ ?_
                    rotate_left
                    · intro w'
                      go_simp
                      with_reducible rfl
                    rotate_left
                    · simp only [Act.put, List.setIfInBounds_toArray, List.set_cons_zero, List.set_cons_succ, i64_w, i32_w]
                      rfl
                    refine pure_ (i := 5) (N := some 55) (v := ?_) (a' := ?_) #[true, true, true, true, true, true, false, false, false, false, false, false, false, false, false, false, false, false, false, false, false, false, false, false, false, false, false] rfl rfl (any_of HT_.out (by kernel_rfl)) (fun _ _ _ h => h) (Or.inl ⟨by rfl, ?_⟩) ?_ ?_
                    rotate_left
                    · intro w'
                      go_simp
                      with_reducible rfl
                    rotate_left
                    · simp only [Act.put, List.setIfInBounds_toArray, List.set_cons_zero, List.set_cons_succ, i64_w, i32_w]
                      rfl
                    refine pure_ (i := 6) (N := some 56) (v := ?_) (a' := ?_) #[true, true, true, true, true, true, true, false, false, false, false, false, false, false, false, false, false, false, false, false, false, false, false, false, false, false, false] rfl rfl (any_of HT_.out (by kernel_rfl)) (fun _ _ _ h => h) (Or.inl ⟨by rfl, ?_⟩) ?_ ?_
                    rotate_left
                    · intro w'
                      go_simp
                      with_reducible rfl
                    rotate_left
                    · simp only [Act.put, List.setIfInBounds_toArray, List.set_cons_zero, List.set_cons_succ, i64_w, i32_w]
                      rfl
                    refine take_ (i := 7) (N := some 57) (v := ?_) (a' := ?_) #[true, true, true, true, true, true, true, true, false, false, false, false, false, false, false, false, false, false, false, false, false, false, false, false, false, false, false] rfl rfl (take_ofW HT_.out HW_.out (by kernel_rfl)) (fun _ _ _ h => h) (Or.inl ⟨by rfl, ?_⟩) hHeld ?_ ?_
                    rotate_left
                    · rintro w' ⟨s0, s1, s2, s3, s4, s5, s6, s7, s8, s9, s10, s11⟩
                      go_simp
                      with_reducible rfl
                    rotate_left
                    · simp only [Act.put, List.setIfInBounds_toArray, List.set_cons_zero, List.set_cons_succ, i64_w, i32_w]
                      rfl
                    refine take_ (i := 8) (N := some 58) (v := ?_) (a' := ?_) #[true, true, true, true, true, true, true, true, true, false, false, false, false, false, false, false, false, false, false, false, false, false, false, false, false, false, false] rfl rfl (take_ofW HT_.out HW_.out (by kernel_rfl)) (fun _ _ _ h => h) (Or.inl ⟨by rfl, ?_⟩) hHeld ?_ ?_
                    rotate_left
                    · rintro w' ⟨s0, s1, s2, s3, s4, s5, s6, s7, s8, s9, s10, s11⟩
                      go_simp
                      with_reducible rfl
                    rotate_left
                    · simp only [Act.put, List.setIfInBounds_toArray, List.set_cons_zero, List.set_cons_succ, i64_w, i32_w]
                      rfl
                    refine one_ (i := 9) (N := some 59) #[true, true, true, true, true, true, true, true, true, true, false, false, false, false, false, false, false, false, false, false, false, false, false, false, false, false, false] rfl rfl (one_of HT_.out (by kernel_rfl)) (by decide) (fun K hK => ?_)
                    refine goes_ Try.func33 (by kernel_rfl) rfl #[.agg #[.int .i64 t150, .int .i64 t151, .int .i64 t152, .bool t153]] (by rfl) rfl rfl (by (try simp only [List.map_toArray, List.map_cons, List.map_nil]); first | done | rfl | (simp only [List.length_drop, List.length_take]; rfl)) ?_
                    with_reducible refine (laws_header.calls t150 t151 t152 t153 t174 t175 t176 t177 _ A13.out).mono ?_
                    rintro e w34 ⟨rfl, hb⟩
                    refine ⟨_, rfl, ?_⟩
                    have n0_ := Aside0.mk (Kd.R_below (by (with_reducible repeat (first | apply Kd.R_alloc | apply Kd.R_drewN | apply Kd.R_drew)); exact HO166.out) hb)
                    have n1_ := Aside0.mk (blk_below (g := gb156) (o := .cells #[.int .i64 t150, .int .i64 t151, .int .i64 t152, .bool t153] 44 (0, 0)) (by (with_reducible repeat (first | refine blk_drewN ?_ _ | refine blk_drew ?_ | refine blk_alloc ?_ _)); exact BK156.out) hb)
                    have n2_ := Aside0.mk (blk_below (g := gb163) (o := .cells #[.int .i64 t157, .int .i64 t158, .int .i64 t159, .bool t160] 41 (0, 0)) (by (with_reducible repeat (first | refine blk_drewN ?_ _ | refine blk_drew ?_ | refine blk_alloc ?_ _)); exact BK163.out) hb)
                    have n3_ := Aside0.mk (blk_below (g := gb173) (o := .cells #[.int .i64 t167, .int .i64 t168, .int .i64 t169, .bool t170] 41 (0, 0)) (by (with_reducible repeat (first | refine blk_drewN ?_ _ | refine blk_drew ?_ | refine blk_alloc ?_ _)); exact BK173.out) hb)
                    have n4_ := Aside0.mk (below_step (by repeat (first | (with_reducible first | exact HB.out | apply below_alloc | apply pw_below_drewN | apply below_drew1 | refine below_set ?_ GE156.out | refine below_set ?_ GE163.out | refine below_set ?_ GE173.out) | exact HB.out)) hb)
                    clear HO166
                    clear BK156
                    clear BK163
                    clear BK173
                    clear HB
                    have HO166 := n0_
                    have BK156 := n1_
                    have BK163 := n2_
                    have BK173 := n3_
                    have HB := n4_
                    clear n0_ n1_ n2_ n3_ n4_
                    (try clear hb)
                    (try clear hb2)
                    (try clear hk)
                    (try clear hi)
                    refine hK.out _ _ ⟨(blk_cell BK163.out 0).trans rfl, (blk_cell BK163.out 1).trans rfl, (blk_cell BK163.out 2).trans rfl, (blk_cell BK163.out 3).trans rfl, (blk_cell BK156.out 0).trans rfl, (blk_cell BK156.out 1).trans rfl, (blk_cell BK156.out 2).trans rfl, (blk_cell BK156.out 3).trans rfl, (blk_cell BK173.out 0).trans rfl, (blk_cell BK173.out 1).trans rfl, (blk_cell BK173.out 2).trans rfl, (blk_cell BK173.out 3).trans rfl⟩ (fun hHeld => ?_)
                    clear hK K
                    refine norm_ (a' := ?_) ?_ ?_
                    rotate_left
                    · show Act.put _ (some 59) _ = _
                      simp only [Act.put, List.setIfInBounds_toArray, List.set_cons_zero, List.set_cons_succ, i64_w, i32_w]
                      rfl
                    refine pure_ (i := 10) (N := some 60) (v := ?_) (a' := ?_) #[true, true, true, true, true, true, true, true, true, true, true, false, false, false, false, false, false, false, false, false, false, false, false, false, false, false, false] rfl rfl (any_of HT_.out (by kernel_rfl)) (fun _ _ _ h => h) (Or.inl ⟨by rfl, ?_⟩) ?_ ?_
                    rotate_left
                    · intro w'
                      go_simp
                      with_reducible rfl
                    rotate_left
                    · simp only [Act.put, List.setIfInBounds_toArray, List.set_cons_zero, List.set_cons_succ, i64_w, i32_w]
                      rfl
                    refine pure_ (i := 11) (N := some 61) (v := ?_) (a' := ?_) #[true, true, true, true, true, true, true, true, true, true, true, true, false, false, false, false, false, false, false, false, false, false, false, false, false, false, false] rfl rfl (any_of HT_.out (by kernel_rfl)) (fun _ _ _ h => h) (Or.inl ⟨by rfl, ?_⟩) ?_ ?_
                    rotate_left
                    · intro w'
                      go_simp
                      with_reducible rfl
                    rotate_left
                    · simp only [Act.put, List.setIfInBounds_toArray, List.set_cons_zero, List.set_cons_succ, i64_w, i32_w]
                      rfl
                    refine pure_ (i := 12) (N := some 62) (v := ?_) (a' := ?_) #[true, true, true, true, true, true, true, true, true, true, true, true, true, false, false, false, false, false, false, false, false, false, false, false, false, false, false] rfl rfl (any_of HT_.out (by kernel_rfl)) (fun _ _ _ h => h) (Or.inl ⟨by rfl, ?_⟩) ?_ ?_
                    rotate_left
                    · intro w'
                      go_simp
                      with_reducible rfl
                    rotate_left
                    · simp only [Act.put, List.setIfInBounds_toArray, List.set_cons_zero, List.set_cons_succ, i64_w, i32_w]
                      rfl
                    refine pure_ (i := 13) (N := some 63) (v := ?_) (a' := ?_) #[true, true, true, true, true, true, true, true, true, true, true, true, true, true, false, false, false, false, false, false, false, false, false, false, false, false, false] rfl rfl (any_of HT_.out (by kernel_rfl)) (fun _ _ _ h => h) (Or.inl ⟨by rfl, ?_⟩) ?_ ?_
                    rotate_left
                    · intro w'
                      go_simp
                      with_reducible rfl
                    rotate_left
                    · simp only [Act.put, List.setIfInBounds_toArray, List.set_cons_zero, List.set_cons_succ, i64_w, i32_w]
                      rfl
                    refine pure_ (i := 14) (N := some 64) (v := ?_) (a' := ?_) #[true, true, true, true, true, true, true, true, true, true, true, true, true, true, true, false, false, false, false, false, false, false, false, false, false, false, false] rfl rfl (any_of HT_.out (by kernel_rfl)) (fun _ _ _ h => h) (Or.inl ⟨by rfl, ?_⟩) ?_ ?_
                    rotate_left
                    · intro w'
                      go_simp
                      with_reducible rfl
                    rotate_left
                    · simp only [Act.put, List.setIfInBounds_toArray, List.set_cons_zero, List.set_cons_succ, i64_w, i32_w]
                      rfl
                    refine pure_ (i := 15) (N := some 65) (v := ?_) (a' := ?_) #[true, true, true, true, true, true, true, true, true, true, true, true, true, true, true, true, false, false, false, false, false, false, false, false, false, false, false] rfl rfl (any_of HT_.out (by kernel_rfl)) (fun _ _ _ h => h) (Or.inl ⟨by rfl, ?_⟩) ?_ ?_
                    rotate_left
                    · intro w'
                      go_simp
                      with_reducible rfl
                    rotate_left
                    · simp only [Act.put, List.setIfInBounds_toArray, List.set_cons_zero, List.set_cons_succ, i64_w, i32_w]
                      rfl
                    refine pure_ (i := 16) (N := some 66) (v := ?_) (a' := ?_) #[true, true, true, true, true, true, true, true, true, true, true, true, true, true, true, true, true, false, false, false, false, false, false, false, false, false, false] rfl rfl (any_of HT_.out (by kernel_rfl)) (fun _ _ _ h => h) (Or.inl ⟨by rfl, ?_⟩) ?_ ?_
                    rotate_left
                    · intro w'
                      go_simp
                      with_reducible rfl
                    rotate_left
                    · simp only [Act.put, List.setIfInBounds_toArray, List.set_cons_zero, List.set_cons_succ, i64_w, i32_w]
                      rfl
                    refine pure_ (i := 17) (N := some 67) (v := ?_) (a' := ?_) #[true, true, true, true, true, true, true, true, true, true, true, true, true, true, true, true, true, true, false, false, false, false, false, false, false, false, false] rfl rfl (any_of HT_.out (by kernel_rfl)) (fun _ _ _ h => h) (Or.inl ⟨by rfl, ?_⟩) ?_ ?_
                    rotate_left
                    · intro w'
                      go_simp
                      with_reducible rfl
                    rotate_left
                    · simp only [Act.put, List.setIfInBounds_toArray, List.set_cons_zero, List.set_cons_succ, i64_w, i32_w]
                      rfl
                    refine pure_ (i := 18) (N := some 68) (v := ?_) (a' := ?_) #[true, true, true, true, true, true, true, true, true, true, true, true, true, true, true, true, true, true, true, false, false, false, false, false, false, false, false] rfl rfl (any_of HT_.out (by kernel_rfl)) (fun _ _ _ h => h) (Or.inl ⟨by rfl, ?_⟩) ?_ ?_
                    rotate_left
                    · intro w'
                      go_simp
                      with_reducible rfl
                    rotate_left
                    · simp only [Act.put, List.setIfInBounds_toArray, List.set_cons_zero, List.set_cons_succ, i64_w, i32_w]
                      rfl
                    refine pure_ (i := 19) (N := some 69) (v := ?_) (a' := ?_) #[true, true, true, true, true, true, true, true, true, true, true, true, true, true, true, true, true, true, true, true, false, false, false, false, false, false, false] rfl rfl (any_of HT_.out (by kernel_rfl)) (fun _ _ _ h => h) (Or.inl ⟨by rfl, ?_⟩) ?_ ?_
                    rotate_left
                    · intro w'
                      go_simp
                      with_reducible rfl
                    rotate_left
                    · simp only [Act.put, List.setIfInBounds_toArray, List.set_cons_zero, List.set_cons_succ, i64_w, i32_w]
                      rfl
                    refine pure_ (i := 20) (N := some 70) (v := ?_) (a' := ?_) #[true, true, true, true, true, true, true, true, true, true, true, true, true, true, true, true, true, true, true, true, true, false, false, false, false, false, false] rfl rfl (any_of HT_.out (by kernel_rfl)) (fun _ _ _ h => h) (Or.inl ⟨by rfl, ?_⟩) ?_ ?_
                    rotate_left
                    · intro w'
                      go_simp
                      with_reducible rfl
                    rotate_left
                    · simp only [Act.put, List.setIfInBounds_toArray, List.set_cons_zero, List.set_cons_succ, i64_w, i32_w]
                      rfl
                    refine pure_ (i := 21) (N := some 71) (v := ?_) (a' := ?_) #[true, true, true, true, true, true, true, true, true, true, true, true, true, true, true, true, true, true, true, true, true, true, false, false, false, false, false] rfl rfl (any_of HT_.out (by kernel_rfl)) (fun _ _ _ h => h) (Or.inl ⟨by rfl, ?_⟩) ?_ ?_
                    rotate_left
                    · intro w'
                      go_simp
                      with_reducible rfl
                    rotate_left
                    · simp only [Act.put, List.setIfInBounds_toArray, List.set_cons_zero, List.set_cons_succ, i64_w, i32_w]
                      rfl
                    refine pure_ (i := 22) (N := some 72) (v := ?_) (a' := ?_) #[true, true, true, true, true, true, true, true, true, true, true, true, true, true, true, true, true, true, true, true, true, true, true, false, false, false, false] rfl rfl (any_of HT_.out (by kernel_rfl)) (fun _ _ _ h => h) (Or.inl ⟨by rfl, ?_⟩) ?_ ?_
                    rotate_left
                    · intro w'
                      go_simp
                      with_reducible rfl
                    rotate_left
                    · simp only [Act.put, List.setIfInBounds_toArray, List.set_cons_zero, List.set_cons_succ, i64_w, i32_w]
                      rfl
                    refine take_ (i := 23) (N := some 73) (v := ?_) (a' := ?_) #[true, true, true, true, true, true, true, true, true, true, true, true, true, true, true, true, true, true, true, true, true, true, true, true, false, false, false] rfl rfl (take_ofW HT_.out HW_.out (by kernel_rfl)) (fun _ _ _ h => h) (Or.inl ⟨by rfl, ?_⟩) hHeld ?_ ?_
                    rotate_left
                    · rintro w' ⟨s0, s1, s2, s3, s4, s5, s6, s7, s8, s9, s10, s11⟩
                      go_simp
                      with_reducible rfl
                    rotate_left
                    · simp only [Act.put, List.setIfInBounds_toArray, List.set_cons_zero, List.set_cons_succ, i64_w, i32_w]
                      rfl
                    refine pure_ (i := 24) (N := some 74) (v := ?_) (a' := ?_) #[true, true, true, true, true, true, true, true, true, true, true, true, true, true, true, true, true, true, true, true, true, true, true, true, true, false, false] rfl rfl (any_of HT_.out (by kernel_rfl)) (fun _ _ _ h => h) (Or.inl ⟨by rfl, ?_⟩) ?_ ?_
                    rotate_left
                    · intro w'
                      go_simp
                      with_reducible rfl
                    rotate_left
                    · simp only [Act.put, List.setIfInBounds_toArray, List.set_cons_zero, List.set_cons_succ, i64_w, i32_w]
                      rfl
                    refine pure_ (i := 25) (N := some 75) (v := ?_) (a' := ?_) #[true, true, true, true, true, true, true, true, true, true, true, true, true, true, true, true, true, true, true, true, true, true, true, true, true, true, false] rfl rfl (any_of HT_.out (by kernel_rfl)) (fun _ _ _ h => h) (Or.inl ⟨by rfl, ?_⟩) ?_ ?_
                    rotate_left
                    · intro w'
                      go_simp
                      with_reducible rfl
                    rotate_left
                    · simp only [Act.put, List.setIfInBounds_toArray, List.set_cons_zero, List.set_cons_succ, i64_w, i32_w]
                      rfl
                    refine pure_ (i := 26) (N := some 4) (v := ?_) (a' := ?_) #[true, true, true, true, true, true, true, true, true, true, true, true, true, true, true, true, true, true, true, true, true, true, true, true, true, true, true] rfl rfl (any_of HT_.out (by kernel_rfl)) (fun _ _ _ h => h) (Or.inl ⟨by rfl, ?_⟩) ?_ ?_
                    rotate_left
                    · intro w'
                      go_simp
                      with_reducible rfl
                    rotate_left
                    · simp only [Act.put, List.setIfInBounds_toArray, List.set_cons_zero, List.set_cons_succ, i64_w, i32_w]
                      rfl
                    refine done_ (done_of HT_.out (by kernel_rfl)) ?_
                    try go_wp2
                    go_ret
                    exact ⟨by first | rfl | (simp [errW_none, errW_some] <;> rfl) | (simp [*, errW_none, errW_some] <;> rfl), by repeat (first | (with_reducible first | exact HB.out | apply below_alloc | apply pw_below_drewN | apply below_drew1 | refine below_set ?_ GE156.out | refine below_set ?_ GE163.out | refine below_set ?_ GE173.out) | exact HB.out)⟩
                  · replace c16 := Bool.eq_false_iff.mpr c16
                    subst c16
                    have H1 : (some false) = some r := by rw [if_neg (show ¬ (false = true) by decide)] at H; exact H
                    clear H
                    have H := H1
                    clear H1
                    exact absurd (Option.some.inj H) (by rw [HRT.out]; simp)
                · rw [if_neg c15] at H
                  have c15b0 : (t161 == t154) = false := beq_eq_false_iff_ne.mpr c15
                  have c15b1 : (t161 != t154) = true := bne_iff_ne.mpr c15
                  exact absurd (Option.some.inj H) (by rw [HRT.out]; simp)
              · rw [if_neg c14] at H
                have c14b0 : (t157 == t174 && (t158 == t175 && (t159 == t176 && (t160 == t177)))) = false := by simpa using c14
                (try (have c14b1 : t157 = !(t174 && (t158 == t175 && (t159 == t176 && (t160 == t177)))) := bool_ne_of _ _ (by simpa using c14)))
                (try (have c14b2 : decide (t157 = t174 && (t158 == t175 && (t159 == t176 && (t160 == t177)))) = false := by simpa using c14))
                (try (have c14b3 : (t157 == t174 && (t158 == t175 && (t159 == t176 && (t160 == t177)))) = false := by simpa using c14))
                (try (have c14b4 : ¬ (t157 = t174 && (t158 == t175 && (t159 == t176 && (t160 == t177)))) := by simpa using c14))
                clear c14
                exact absurd (Option.some.inj H) (by rw [HRT.out]; simp)
            · replace c12 := Bool.eq_false_iff.mpr c12
              subst c12
              have H1 : (if t172 = true then (some (t169 == 3)) else (some false)) = some r := by rw [if_neg (show ¬ (false = true) by decide)] at H; exact H
              clear H
              have H := H1
              clear H1
              by_cases c35 : t172 = true
              · subst c35
                have H1 : (some (t169 == 3)) = some r := by rw [if_pos rfl] at H; exact H
                clear H
                have H := H1
                clear H1
                obtain rfl := Option.some.inj H
                try go_wp2_with (first | ((with_reducible refine gate_callee (f := 31) rfl ?_); refine goesL_ (some 33) rfl rfl Try.func31 (by kernel_rfl) rfl #[.slice A0 l0.length c0, .int .i64 a1] rfl (by (try simp only [List.map_toArray, List.map_cons, List.map_nil]); first | done | rfl | (simp only [List.length_drop, List.length_take]; rfl)) ?_; (with_reducible refine (spec_Header.calls kj3 _ _ l0 a1 t150 t151 t152 t153 t154 false _ ?side1 ?side2 A8.out).mono ?_); (case side1 => repeat (first | exact (Kd.C_below HR0.out HB.out) | (with_reducible refine Kd.C_alloc ?_ _) | (with_reducible refine Kd.C_drewN ?_ _) | (with_reducible refine Kd.C_drew ?_))); (case side2 => exact HC0.out); rintro e w36 ⟨rfl, hb⟩; refine ⟨_, rfl, ?_⟩; have n0_ := Aside0.mk (below_step (by repeat (first | (with_reducible first | exact HB.out | apply below_alloc | apply pw_below_drewN | apply below_drew1) | exact HB.out)) hb); clear HB; have HB := n0_; clear n0_; (try clear hb); (try clear hb2); (try clear hk); (try clear hi)) | ((with_reducible refine gate_dst (N := 5) rfl ?_); (try (refine gate_guard (by rfl) ?_; dsimp only)); refine box_event ?hg (N := 5) ?hd (cs := #[.int .i64 0, .int .i64 0, .int .i64 0, .bool false]) (t := 44) ?hr ?_; (case hd => rfl); (case hg => rfl); (case hr => first | (go_simp; done) | (go_simp; rfl)); intro gb156 hg w37 hbox hb; have n0_ := Aside0.mk (below_step (by repeat (first | (with_reducible first | exact HB.out | apply below_alloc | apply pw_below_drewN | apply below_drew1) | exact HB.out)) hb); have n1_ := Aside0.mk (hbox); have n2_ := Aside0.mk ((by rw [hg]; exact (below_size (by repeat (first | (with_reducible first | exact HB.out | apply below_alloc | apply pw_below_drewN | apply below_drew1) | exact HB.out))) : w.heap.size ≤ gb156)); have n3_ := Aside0.mk ((by rw [hg]; exact (below_size (by repeat (first | (with_reducible first | exact HB.out | apply below_alloc | apply pw_below_drewN | apply below_drew1) | exact HB.out))) : w.heap.size ≤ gb156)); clear HB; have HB := n0_; have BK156 := n1_; have GW156 := n2_; have GE156 := n3_; clear n0_ n1_ n2_ n3_; clear hb hbox hg; have hcz38_0 : w37.cell? ⟨gb156, 0, none⟩ = some (.int .i64 0) := (blk_cell BK156.out 0).trans rfl; have hcz38_1 : w37.cell? ⟨gb156, 1, none⟩ = some (.int .i64 0) := (blk_cell BK156.out 1).trans rfl; have hcz38_2 : w37.cell? ⟨gb156, 2, none⟩ = some (.int .i64 0) := (blk_cell BK156.out 2).trans rfl; have hcz38_3 : w37.cell? ⟨gb156, 3, none⟩ = some (.bool false) := (blk_cell BK156.out 3).trans rfl; have hfz38_0 := blk_frozen BK156.out 0; have hfz38_1 := blk_frozen BK156.out 1; have hfz38_2 := blk_frozen BK156.out 2; have hfz38_3 := blk_frozen BK156.out 3) | ((with_reducible refine gate_callee (f := 32) rfl ?_); refine goesL_ (some 40) rfl rfl Try.func32 (by kernel_rfl) rfl #[.slice A0 l0.length c0, .int .i64 a1] rfl (by (try simp only [List.map_toArray, List.map_cons, List.map_nil]); first | done | rfl | (simp only [List.length_drop, List.length_take]; rfl)) ?_; (with_reducible refine (impl_ReadHeader.calls kj3 _ _ l0 a1 t157 t158 t159 t160 t161 t162 _ ?side1 ?side2 A9.out).mono ?_); (case side1 => exact Kd.C_below HR0.out (by repeat (first | (with_reducible first | exact HB.out | apply below_alloc | apply pw_below_drewN | apply below_drew1 | refine below_set ?_ GE156.out) | exact HB.out))); (case side2 => exact HC0.out); rintro e w39 ⟨rfl, hb⟩; refine ⟨_, rfl, ?_⟩; have n0_ := Aside0.mk (blk_below (g := gb156) (o := .cells #[.int .i64 t150, .int .i64 t151, .int .i64 t152, .bool t153] 44 (0, 0)) (by (with_reducible repeat (first | refine blk_drewN ?_ _ | refine blk_drew ?_ | refine blk_alloc ?_ _)); refine blk_put (cs := #[.int .i64 t150, .int .i64 t151, .int .i64 t152, .bool false]) ?_ 3 _ rfl; (with_reducible repeat (first | refine blk_drewN ?_ _ | refine blk_drew ?_ | refine blk_alloc ?_ _)); refine blk_put (cs := #[.int .i64 t150, .int .i64 t151, .int .i64 0, .bool false]) ?_ 2 _ rfl; (with_reducible repeat (first | refine blk_drewN ?_ _ | refine blk_drew ?_ | refine blk_alloc ?_ _)); refine blk_put (cs := #[.int .i64 t150, .int .i64 0, .int .i64 0, .bool false]) ?_ 1 _ rfl; (with_reducible repeat (first | refine blk_drewN ?_ _ | refine blk_drew ?_ | refine blk_alloc ?_ _)); refine blk_put (cs := #[.int .i64 0, .int .i64 0, .int .i64 0, .bool false]) ?_ 0 _ rfl; (with_reducible repeat (first | refine blk_drewN ?_ _ | refine blk_drew ?_ | refine blk_alloc ?_ _)); exact BK156.out) hb); have n1_ := Aside0.mk (below_step (by repeat (first | (with_reducible first | exact HB.out | apply below_alloc | apply pw_below_drewN | apply below_drew1 | refine below_set ?_ GE156.out) | exact HB.out)) hb); clear BK156; clear HB; have BK156 := n0_; have HB := n1_; clear n0_ n1_; (try clear hb); (try clear hb2); (try clear hk); (try clear hi)) | ((with_reducible refine gate_dst (N := 8) rfl ?_); (try (refine gate_guard (by rfl) ?_; dsimp only)); refine box_event ?hg (N := 8) ?hd (cs := #[.int .i64 0, .int .i64 0, .int .i64 0, .bool false]) (t := 41) ?hr ?_; (case hd => rfl); (case hg => rfl); (case hr => first | (go_simp; done) | (go_simp; rfl)); intro gb163 hg w40 hbox hb; have n0_ := Aside0.mk (blk_below (g := gb156) (o := .cells #[.int .i64 t150, .int .i64 t151, .int .i64 t152, .bool t153] 44 (0, 0)) (by (with_reducible repeat (first | refine blk_drewN ?_ _ | refine blk_drew ?_ | refine blk_alloc ?_ _)); exact BK156.out) hb); have n1_ := Aside0.mk (below_step (by repeat (first | (with_reducible first | exact HB.out | apply below_alloc | apply pw_below_drewN | apply below_drew1 | refine below_set ?_ GE156.out) | exact HB.out)) hb); have n2_ := Aside0.mk (hbox); have n3_ := Aside0.mk ((by rw [hg]; exact (below_size (by repeat (first | (with_reducible first | exact HB.out | apply below_alloc | apply pw_below_drewN | apply below_drew1 | refine below_set ?_ GE156.out) | exact HB.out))) : w.heap.size ≤ gb163)); have n4_ := Aside0.mk ((by rw [hg]; exact (below_size (by repeat (first | (with_reducible first | exact HB.out | apply below_alloc | apply pw_below_drewN | apply below_drew1 | refine below_set ?_ GE156.out) | exact HB.out))) : w.heap.size ≤ gb163)); have n5_ := Aside0.mk ((by rw [hg]; exact Nat.ne_of_lt (blk_lt (g := gb156) (o := .cells #[.int .i64 t150, .int .i64 t151, .int .i64 t152, .bool t153] 44 (0, 0)) (by (with_reducible repeat (first | refine blk_drewN ?_ _ | refine blk_drew ?_ | refine blk_alloc ?_ _)); exact BK156.out)) : gb156 ≠ gb163)); have n6_ := Aside0.mk ((by rw [hg]; exact Nat.ne_of_gt (blk_lt (g := gb156) (o := .cells #[.int .i64 t150, .int .i64 t151, .int .i64 t152, .bool t153] 44 (0, 0)) (by (with_reducible repeat (first | refine blk_drewN ?_ _ | refine blk_drew ?_ | refine blk_alloc ?_ _)); exact BK156.out)) : gb163 ≠ gb156)); clear BK156; clear HB; have BK156 := n0_; have HB := n1_; have BK163 := n2_; have GW163 := n3_; have GE163 := n4_; have NB156_163 := n5_; have NB163_156 := n6_; clear n0_ n1_ n2_ n3_ n4_ n5_ n6_; clear hb hbox hg; have hnb41 := NB163_156.out; have hnc41 := NB156_163.out; have hcz42_0 : w40.cell? ⟨gb163, 0, none⟩ = some (.int .i64 0) := (blk_cell BK163.out 0).trans rfl; have hcz42_1 : w40.cell? ⟨gb163, 1, none⟩ = some (.int .i64 0) := (blk_cell BK163.out 1).trans rfl; have hcz42_2 : w40.cell? ⟨gb163, 2, none⟩ = some (.int .i64 0) := (blk_cell BK163.out 2).trans rfl; have hcz42_3 : w40.cell? ⟨gb163, 3, none⟩ = some (.bool false) := (blk_cell BK163.out 3).trans rfl; have hfz42_0 := blk_frozen BK163.out 0; have hfz42_1 := blk_frozen BK163.out 1; have hfz42_2 := blk_frozen BK163.out 2; have hfz42_3 := blk_frozen BK163.out 3) | ((with_reducible refine gate_dst (N := 45) rfl ?_); (try (refine gate_guard (by rfl) ?_; dsimp only)); refine Kd.R_lit (Kd.int .u8) _ 5 ?hg (N := 45) ?hd (xs := ([48, 3] : List Int)) (inner := [.int .u8 48, .int .u8 3]) (ok := fun _ => True) (okp := fun _ => True) ?hr ?hp (fun _ hk => hk) trivial (Below.refl _ _) (Nat.le_refl _) (by simp) ?_; (case hd => rfl); (case hg => rfl); (case hr => first | (go_simp; done) | (go_simp; rfl)); (case hp => exact (Reps.one (show Kd.M (Kd.int .u8) _ _ _ 48 [.int .u8 48] from rfl) (Reps.one (show Kd.M (Kd.int .u8) _ _ _ 3 [.int .u8 3] from rfl) (Reps.none _ _)))); intro v165 w43 ho44 hb hg_ hnew_; clear hg_ hnew_; (first | rw [← Ny164.out] at ho44 | (simp only [Int.reduceToNat] at ho44; rw [← Ny164.out] at ho44)); have n0_ := Aside0.mk (Kd.R_lower ho44 (below_size (by repeat (first | (with_reducible first | exact HB.out | apply below_alloc | apply pw_below_drewN | apply below_drew1 | refine below_set ?_ GE156.out | refine below_set ?_ GE163.out) | exact HB.out)))); have n1_ := Aside0.mk (blk_below (g := gb156) (o := .cells #[.int .i64 t150, .int .i64 t151, .int .i64 t152, .bool t153] 44 (0, 0)) (by (with_reducible repeat (first | refine blk_drewN ?_ _ | refine blk_drew ?_ | refine blk_alloc ?_ _)); refine blk_far ?_ NB156_163.out _; (with_reducible repeat (first | refine blk_drewN ?_ _ | refine blk_drew ?_ | refine blk_alloc ?_ _)); refine blk_far ?_ NB156_163.out _; (with_reducible repeat (first | refine blk_drewN ?_ _ | refine blk_drew ?_ | refine blk_alloc ?_ _)); refine blk_far ?_ NB156_163.out _; (with_reducible repeat (first | refine blk_drewN ?_ _ | refine blk_drew ?_ | refine blk_alloc ?_ _)); refine blk_far ?_ NB156_163.out _; (with_reducible repeat (first | refine blk_drewN ?_ _ | refine blk_drew ?_ | refine blk_alloc ?_ _)); exact BK156.out) hb); have n2_ := Aside0.mk (blk_below (g := gb163) (o := .cells #[.int .i64 t157, .int .i64 t158, .int .i64 t159, .bool t160] 41 (0, 0)) (by (with_reducible repeat (first | refine blk_drewN ?_ _ | refine blk_drew ?_ | refine blk_alloc ?_ _)); refine blk_put (cs := #[.int .i64 t157, .int .i64 t158, .int .i64 t159, .bool false]) ?_ 3 _ rfl; (with_reducible repeat (first | refine blk_drewN ?_ _ | refine blk_drew ?_ | refine blk_alloc ?_ _)); refine blk_put (cs := #[.int .i64 t157, .int .i64 t158, .int .i64 0, .bool false]) ?_ 2 _ rfl; (with_reducible repeat (first | refine blk_drewN ?_ _ | refine blk_drew ?_ | refine blk_alloc ?_ _)); refine blk_put (cs := #[.int .i64 t157, .int .i64 0, .int .i64 0, .bool false]) ?_ 1 _ rfl; (with_reducible repeat (first | refine blk_drewN ?_ _ | refine blk_drew ?_ | refine blk_alloc ?_ _)); refine blk_put (cs := #[.int .i64 0, .int .i64 0, .int .i64 0, .bool false]) ?_ 0 _ rfl; (with_reducible repeat (first | refine blk_drewN ?_ _ | refine blk_drew ?_ | refine blk_alloc ?_ _)); exact BK163.out) hb); have n3_ := Aside0.mk (below_step (by repeat (first | (with_reducible first | exact HB.out | apply below_alloc | apply pw_below_drewN | apply below_drew1 | refine below_set ?_ GE156.out | refine below_set ?_ GE163.out) | exact HB.out)) hb); clear BK156; clear BK163; clear HB; have HO166 := n0_; have BK156 := n1_; have BK163 := n2_; have HB := n3_; clear n0_ n1_ n2_ n3_; clear hb ho44; obtain ⟨Ao45, co45, eo45⟩ := Kd.R_slice HO166.out; subst eo45) | ((with_reducible refine gate_callee (f := 32) rfl ?_); refine goesL_ (some 46) rfl rfl Try.func32 (by kernel_rfl) rfl #[.slice Ao45 y164.length co45, .int .i64 0] rfl (by (try simp only [List.map_toArray, List.map_cons, List.map_nil]); first | done | rfl | (simp only [List.length_drop, List.length_take]; rfl)) ?_; (with_reducible refine (impl_ReadHeader.calls kj3 _ _ y164 0 t167 t168 t169 t170 t171 true _ ?side1 ?side2 A10.out).mono ?_); (case side1 => repeat (first | exact (Kd.R_reads' HO166.out).2.2 | (with_reducible refine Kd.C_alloc ?_ _) | (with_reducible refine Kd.C_drewN ?_ _) | (with_reducible refine Kd.C_drew ?_))); (case side2 => exact (Kd.R_reads' HO166.out).2.1); rintro e w46 ⟨rfl, hb⟩; refine ⟨_, rfl, ?_⟩; have n0_ := Aside0.mk (Kd.R_below (by (with_reducible repeat (first | apply Kd.R_alloc | apply Kd.R_drewN | apply Kd.R_drew)); exact HO166.out) hb); have n1_ := Aside0.mk (blk_below (g := gb156) (o := .cells #[.int .i64 t150, .int .i64 t151, .int .i64 t152, .bool t153] 44 (0, 0)) (by (with_reducible repeat (first | refine blk_drewN ?_ _ | refine blk_drew ?_ | refine blk_alloc ?_ _)); exact BK156.out) hb); have n2_ := Aside0.mk (blk_below (g := gb163) (o := .cells #[.int .i64 t157, .int .i64 t158, .int .i64 t159, .bool t160] 41 (0, 0)) (by (with_reducible repeat (first | refine blk_drewN ?_ _ | refine blk_drew ?_ | refine blk_alloc ?_ _)); exact BK163.out) hb); have n3_ := Aside0.mk (below_step (by repeat (first | (with_reducible first | exact HB.out | apply below_alloc | apply pw_below_drewN | apply below_drew1 | refine below_set ?_ GE156.out | refine below_set ?_ GE163.out) | exact HB.out)) hb); clear HO166; clear BK156; clear BK163; clear HB; have HO166 := n0_; have BK156 := n1_; have BK163 := n2_; have HB := n3_; clear n0_ n1_ n2_ n3_; (try clear hb); (try clear hb2); (try clear hk); (try clear hi)) | ((with_reducible refine gate_dst (N := 11) rfl ?_); (try (refine gate_guard (by rfl) ?_; dsimp only)); refine box_event ?hg (N := 11) ?hd (cs := #[.int .i64 0, .int .i64 0, .int .i64 0, .bool false]) (t := 41) ?hr ?_; (case hd => rfl); (case hg => rfl); (case hr => first | (go_simp; done) | (go_simp; rfl)); intro gb173 hg w47 hbox hb; have n0_ := Aside0.mk (Kd.R_below (by (with_reducible repeat (first | apply Kd.R_alloc | apply Kd.R_drewN | apply Kd.R_drew)); exact HO166.out) hb); have n1_ := Aside0.mk (blk_below (g := gb156) (o := .cells #[.int .i64 t150, .int .i64 t151, .int .i64 t152, .bool t153] 44 (0, 0)) (by (with_reducible repeat (first | refine blk_drewN ?_ _ | refine blk_drew ?_ | refine blk_alloc ?_ _)); exact BK156.out) hb); have n2_ := Aside0.mk (blk_below (g := gb163) (o := .cells #[.int .i64 t157, .int .i64 t158, .int .i64 t159, .bool t160] 41 (0, 0)) (by (with_reducible repeat (first | refine blk_drewN ?_ _ | refine blk_drew ?_ | refine blk_alloc ?_ _)); exact BK163.out) hb); have n3_ := Aside0.mk (below_step (by repeat (first | (with_reducible first | exact HB.out | apply below_alloc | apply pw_below_drewN | apply below_drew1 | refine below_set ?_ GE156.out | refine below_set ?_ GE163.out) | exact HB.out)) hb); have n4_ := Aside0.mk (hbox); have n5_ := Aside0.mk ((by rw [hg]; exact (below_size (by repeat (first | (with_reducible first | exact HB.out | apply below_alloc | apply pw_below_drewN | apply below_drew1 | refine below_set ?_ GE156.out | refine below_set ?_ GE163.out) | exact HB.out))) : w.heap.size ≤ gb173)); have n6_ := Aside0.mk ((by rw [hg]; exact (below_size (by repeat (first | (with_reducible first | exact HB.out | apply below_alloc | apply pw_below_drewN | apply below_drew1 | refine below_set ?_ GE156.out | refine below_set ?_ GE163.out) | exact HB.out))) : w.heap.size ≤ gb173)); have n7_ := Aside0.mk ((by rw [hg]; exact Nat.ne_of_lt (blk_lt (g := gb156) (o := .cells #[.int .i64 t150, .int .i64 t151, .int .i64 t152, .bool t153] 44 (0, 0)) (by (with_reducible repeat (first | refine blk_drewN ?_ _ | refine blk_drew ?_ | refine blk_alloc ?_ _)); exact BK156.out)) : gb156 ≠ gb173)); have n8_ := Aside0.mk ((by rw [hg]; exact Nat.ne_of_gt (blk_lt (g := gb156) (o := .cells #[.int .i64 t150, .int .i64 t151, .int .i64 t152, .bool t153] 44 (0, 0)) (by (with_reducible repeat (first | refine blk_drewN ?_ _ | refine blk_drew ?_ | refine blk_alloc ?_ _)); exact BK156.out)) : gb173 ≠ gb156)); have n9_ := Aside0.mk ((by rw [hg]; exact Nat.ne_of_lt (blk_lt (g := gb163) (o := .cells #[.int .i64 t157, .int .i64 t158, .int .i64 t159, .bool t160] 41 (0, 0)) (by (with_reducible repeat (first | refine blk_drewN ?_ _ | refine blk_drew ?_ | refine blk_alloc ?_ _)); exact BK163.out)) : gb163 ≠ gb173)); have n10_ := Aside0.mk ((by rw [hg]; exact Nat.ne_of_gt (blk_lt (g := gb163) (o := .cells #[.int .i64 t157, .int .i64 t158, .int .i64 t159, .bool t160] 41 (0, 0)) (by (with_reducible repeat (first | refine blk_drewN ?_ _ | refine blk_drew ?_ | refine blk_alloc ?_ _)); exact BK163.out)) : gb173 ≠ gb163)); clear HO166; clear BK156; clear BK163; clear HB; have HO166 := n0_; have BK156 := n1_; have BK163 := n2_; have HB := n3_; have BK173 := n4_; have GW173 := n5_; have GE173 := n6_; have NB156_173 := n7_; have NB173_156 := n8_; have NB163_173 := n9_; have NB173_163 := n10_; clear n0_ n1_ n2_ n3_ n4_ n5_ n6_ n7_ n8_ n9_ n10_; clear hb hbox hg; have hnb48 := NB173_156.out; have hnc48 := NB156_173.out; have hnb49 := NB173_163.out; have hnc49 := NB163_173.out; have hcz50_0 : w47.cell? ⟨gb173, 0, none⟩ = some (.int .i64 0) := (blk_cell BK173.out 0).trans rfl; have hcz50_1 : w47.cell? ⟨gb173, 1, none⟩ = some (.int .i64 0) := (blk_cell BK173.out 1).trans rfl; have hcz50_2 : w47.cell? ⟨gb173, 2, none⟩ = some (.int .i64 0) := (blk_cell BK173.out 2).trans rfl; have hcz50_3 : w47.cell? ⟨gb173, 3, none⟩ = some (.bool false) := (blk_cell BK173.out 3).trans rfl; have hfz50_0 := blk_frozen BK173.out 0; have hfz50_1 := blk_frozen BK173.out 1; have hfz50_2 := blk_frozen BK173.out 2; have hfz50_3 := blk_frozen BK173.out 3))
                have n0_ : Aside0 (Kd.R (Kd.int .u8) 5 ((((w47.setCell ⟨gb173, 0, none⟩ (.int .i64 t167)).setCell ⟨gb173, 1, none⟩ (.int .i64 t168)).setCell ⟨gb173, 2, none⟩ (.int .i64 t169)).setCell ⟨gb173, 3, none⟩ (.bool t170)) w.heap.size (fun _ => True) (.slice Ao45 y164.length co45) y164) := ⟨by (with_reducible repeat (first | apply Kd.R_alloc | apply Kd.R_drewN | apply Kd.R_drew)); exact Kd.R_mono (Kd.R_far (p := ⟨gb173, 3, none⟩) (Kd.R_far (p := ⟨gb173, 2, none⟩) (Kd.R_far (p := ⟨gb173, 1, none⟩) (Kd.R_far (p := ⟨gb173, 0, none⟩) (Kd.R_types HO166.out BK173.out (by decide)) (fun _ hk => hk.2) (.int .i64 t167)) (fun _ hk => hk.2) (.int .i64 t168)) (fun _ hk => hk.2) (.int .i64 t169)) (fun _ hk => hk.2) (.bool t170)) (fun _ hk => trivial)⟩
                have n1_ : Aside0 (((((w47.setCell ⟨gb173, 0, none⟩ (.int .i64 t167)).setCell ⟨gb173, 1, none⟩ (.int .i64 t168)).setCell ⟨gb173, 2, none⟩ (.int .i64 t169)).setCell ⟨gb173, 3, none⟩ (.bool t170)).heap[gb156]? = some (.cells #[.int .i64 t150, .int .i64 t151, .int .i64 t152, .bool t153] 44 (0, 0))) := ⟨by (with_reducible repeat (first | refine blk_drewN ?_ _ | refine blk_drew ?_ | refine blk_alloc ?_ _)); refine blk_far ?_ NB156_173.out _; (with_reducible repeat (first | refine blk_drewN ?_ _ | refine blk_drew ?_ | refine blk_alloc ?_ _)); refine blk_far ?_ NB156_173.out _; (with_reducible repeat (first | refine blk_drewN ?_ _ | refine blk_drew ?_ | refine blk_alloc ?_ _)); refine blk_far ?_ NB156_173.out _; (with_reducible repeat (first | refine blk_drewN ?_ _ | refine blk_drew ?_ | refine blk_alloc ?_ _)); refine blk_far ?_ NB156_173.out _; (with_reducible repeat (first | refine blk_drewN ?_ _ | refine blk_drew ?_ | refine blk_alloc ?_ _)); exact BK156.out⟩
                have n2_ : Aside0 (((((w47.setCell ⟨gb173, 0, none⟩ (.int .i64 t167)).setCell ⟨gb173, 1, none⟩ (.int .i64 t168)).setCell ⟨gb173, 2, none⟩ (.int .i64 t169)).setCell ⟨gb173, 3, none⟩ (.bool t170)).heap[gb163]? = some (.cells #[.int .i64 t157, .int .i64 t158, .int .i64 t159, .bool t160] 41 (0, 0))) := ⟨by (with_reducible repeat (first | refine blk_drewN ?_ _ | refine blk_drew ?_ | refine blk_alloc ?_ _)); refine blk_far ?_ NB163_173.out _; (with_reducible repeat (first | refine blk_drewN ?_ _ | refine blk_drew ?_ | refine blk_alloc ?_ _)); refine blk_far ?_ NB163_173.out _; (with_reducible repeat (first | refine blk_drewN ?_ _ | refine blk_drew ?_ | refine blk_alloc ?_ _)); refine blk_far ?_ NB163_173.out _; (with_reducible repeat (first | refine blk_drewN ?_ _ | refine blk_drew ?_ | refine blk_alloc ?_ _)); refine blk_far ?_ NB163_173.out _; (with_reducible repeat (first | refine blk_drewN ?_ _ | refine blk_drew ?_ | refine blk_alloc ?_ _)); exact BK163.out⟩
                have n3_ : Aside0 (((((w47.setCell ⟨gb173, 0, none⟩ (.int .i64 t167)).setCell ⟨gb173, 1, none⟩ (.int .i64 t168)).setCell ⟨gb173, 2, none⟩ (.int .i64 t169)).setCell ⟨gb173, 3, none⟩ (.bool t170)).heap[gb173]? = some (.cells #[.int .i64 t167, .int .i64 t168, .int .i64 t169, .bool t170] 41 (0, 0))) := ⟨by (with_reducible repeat (first | refine blk_drewN ?_ _ | refine blk_drew ?_ | refine blk_alloc ?_ _)); refine blk_put (cs := #[.int .i64 t167, .int .i64 t168, .int .i64 t169, .bool false]) ?_ 3 _ rfl; (with_reducible repeat (first | refine blk_drewN ?_ _ | refine blk_drew ?_ | refine blk_alloc ?_ _)); refine blk_put (cs := #[.int .i64 t167, .int .i64 t168, .int .i64 0, .bool false]) ?_ 2 _ rfl; (with_reducible repeat (first | refine blk_drewN ?_ _ | refine blk_drew ?_ | refine blk_alloc ?_ _)); refine blk_put (cs := #[.int .i64 t167, .int .i64 0, .int .i64 0, .bool false]) ?_ 1 _ rfl; (with_reducible repeat (first | refine blk_drewN ?_ _ | refine blk_drew ?_ | refine blk_alloc ?_ _)); refine blk_put (cs := #[.int .i64 0, .int .i64 0, .int .i64 0, .bool false]) ?_ 0 _ rfl; (with_reducible repeat (first | refine blk_drewN ?_ _ | refine blk_drew ?_ | refine blk_alloc ?_ _)); exact BK173.out⟩
                have n4_ : Aside0 (Below w.heap.size w ((((w47.setCell ⟨gb173, 0, none⟩ (.int .i64 t167)).setCell ⟨gb173, 1, none⟩ (.int .i64 t168)).setCell ⟨gb173, 2, none⟩ (.int .i64 t169)).setCell ⟨gb173, 3, none⟩ (.bool t170))) := ⟨by repeat (first | (with_reducible first | exact HB.out | apply below_alloc | apply pw_below_drewN | apply below_drew1 | refine below_set ?_ GE156.out | refine below_set ?_ GE163.out | refine below_set ?_ GE173.out) | exact HB.out)⟩
                (try clear HO166)
                (try clear BK156)
                (try clear BK163)
                (try clear BK173)
                (try clear HB)
                generalize ((((w47.setCell ⟨gb173, 0, none⟩ (.int .i64 t167)).setCell ⟨gb173, 1, none⟩ (.int .i64 t168)).setCell ⟨gb173, 2, none⟩ (.int .i64 t169)).setCell ⟨gb173, 3, none⟩ (.bool t170)) = w51 at n0_ n1_ n2_ n3_ n4_ ⊢
                have HO166 := n0_
                have BK156 := n1_
                have BK163 := n2_
                have BK173 := n3_
                have HB := n4_
                clear n0_ n1_ n2_ n3_ n4_
                have n0_ := Aside0.mk (Kd.R_drew HO166.out)
                have n1_ := Aside0.mk (blk_drew BK156.out)
                have n2_ := Aside0.mk (blk_drew BK163.out)
                have n3_ := Aside0.mk (blk_drew BK173.out)
                have n4_ := Aside0.mk (below_drew1 HB.out)
                clear HO166
                clear BK156
                clear BK163
                clear BK173
                clear HB
                have HO166 := n0_
                have BK156 := n1_
                have BK163 := n2_
                have BK173 := n3_
                have HB := n4_
                clear n0_ n1_ n2_ n3_ n4_
                refine start_ (n := 27) (S := fun w' => w'.cell? ⟨gb173, 0, none⟩ = some (.int .i64 t167) ∧ w'.cell? ⟨gb173, 1, none⟩ = some (.int .i64 t168) ∧ w'.cell? ⟨gb173, 2, none⟩ = some (.int .i64 t169) ∧ w'.cell? ⟨gb173, 3, none⟩ = some (.bool t170)) (ds := []) #[false, false, false, false, false, false, false, false, false, false, false, false, false, false, false, false, false, false, false, false, false, false, false, false, false, false, false] (by kernel_rfl) rfl rfl ⟨(blk_cell BK173.out 0).trans rfl, (blk_cell BK173.out 1).trans rfl, (blk_cell BK173.out 2).trans rfl, (blk_cell BK173.out 3).trans rfl⟩ (fun hHeld => ?_); refine with_tabW laws_FnReadHeader.tab8 laws_FnReadHeader.bits8 (fun HT_ HW_ => ?_)
                generalize w51.drew = w52 at HO166 BK156 BK163 BK173 HB hHeld ⊢
                refine pure_ (i := 0) (N := some 50) (v := ?_) (a' := ?_) #[true, false, false, false, false, false, false, false, false, false, false, false, false, false, false, false, false, false, false, false, false, false, false, false, false, false, false] rfl rfl (any_of HT_.out (by kernel_rfl)) (fun _ _ _ h => h) (Or.inl ⟨by rfl, ?_⟩) ?_ ?_
                rotate_left
                · intro w'
                  go_simp
                  with_reducible rfl
                rotate_left
                · simp only [Act.put, List.setIfInBounds_toArray, List.set_cons_zero, List.set_cons_succ, i64_w, i32_w]
                  rfl
                refine pure_ (i := 1) (N := some 51) (v := ?_) (a' := ?_) #[true, true, false, false, false, false, false, false, false, false, false, false, false, false, false, false, false, false, false, false, false, false, false, false, false, false, false] rfl rfl (any_of HT_.out (by kernel_rfl)) (fun _ _ _ h => h) (Or.inl ⟨by rfl, ?_⟩) ?_ ?_
                rotate_left
                · intro w'
                  go_simp
                  with_reducible rfl
                rotate_left
                · simp only [Act.put, List.setIfInBounds_toArray, List.set_cons_zero, List.set_cons_succ, i64_w, i32_w]
                  rfl
                refine pure_ (i := 2) (N := some 52) (v := ?_) (a' := ?_) #[true, true, true, false, false, false, false, false, false, false, false, false, false, false, false, false, false, false, false, false, false, false, false, false, false, false, false] rfl rfl (any_of HT_.out (by kernel_rfl)) (fun _ _ _ h => h) (Or.inl ⟨by rfl, ?_⟩) ?_ ?_
                rotate_left
                · intro w'
                  go_simp
                  with_reducible rfl
                rotate_left
                · simp only [Act.put, List.setIfInBounds_toArray, List.set_cons_zero, List.set_cons_succ, i64_w, i32_w]
                  rfl
                refine pure_ (i := 3) (N := some 53) (v := ?_) (a' := ?_) #[true, true, true, true, false, false, false, false, false, false, false, false, false, false, false, false, false, false, false, false, false, false, false, false, false, false, false] rfl rfl (any_of HT_.out (by kernel_rfl)) (fun _ _ _ h => h) (Or.inl ⟨by rfl, ?_⟩) ?_ ?_
                rotate_left
                · intro w'
                  go_simp
                  with_reducible rfl
                rotate_left
                · simp only [Act.put, List.setIfInBounds_toArray, List.set_cons_zero, List.set_cons_succ, i64_w, i32_w]
                  rfl
                refine pure_ (i := 4) (N := some 54) (v := ?_) (a' := ?_) #[true, true, true, true, true, false, false, false, false, false, false, false, false, false, false, false, false, false, false, false, false, false, false, false, false, false, false] rfl rfl (any_of HT_.out (by kernel_rfl)) (fun _ _ _ h => h) (Or.inl ⟨by rfl, ?_⟩) ?_ ?_
                rotate_left
                · intro w'
                  go_simp
                  with_reducible rfl
                rotate_left
                · simp only [Act.put, List.setIfInBounds_toArray, List.set_cons_zero, List.set_cons_succ, i64_w, i32_w]
                  rfl
                refine pure_ (i := 5) (N := some 55) (v := ?_) (a' := ?_) #[true, true, true, true, true, true, false, false, false, false, false, false, false, false, false, false, false, false, false, false, false, false, false, false, false, false, false] rfl rfl (any_of HT_.out (by kernel_rfl)) (fun _ _ _ h => h) (Or.inl ⟨by rfl, ?_⟩) ?_ ?_
                rotate_left
                · intro w'
                  go_simp
                  with_reducible rfl
                rotate_left
                · simp only [Act.put, List.setIfInBounds_toArray, List.set_cons_zero, List.set_cons_succ, i64_w, i32_w]
                  rfl
                refine pure_ (i := 6) (N := some 56) (v := ?_) (a' := ?_) #[true, true, true, true, true, true, true, false, false, false, false, false, false, false, false, false, false, false, false, false, false, false, false, false, false, false, false] rfl rfl (any_of HT_.out (by kernel_rfl)) (fun _ _ _ h => h) (Or.inl ⟨by rfl, ?_⟩) ?_ ?_
                rotate_left
                · intro w'
                  go_simp
                  with_reducible rfl
                rotate_left
                · simp only [Act.put, List.setIfInBounds_toArray, List.set_cons_zero, List.set_cons_succ, i64_w, i32_w]
                  rfl
                refine pure_ (i := 7) (N := some 57) (v := undef) (a' := ?_) #[true, true, true, true, true, true, true, true, false, false, false, false, false, false, false, false, false, false, false, false, false, false, false, false, false, false, false] rfl rfl (any_of HT_.out (by kernel_rfl)) (fun _ _ _ h => h) (Or.inr ⟨by rfl, rfl⟩) ?_ ?_
                rotate_left
                · simp only [Act.put, List.setIfInBounds_toArray, List.set_cons_zero, List.set_cons_succ, i64_w, i32_w]
                  rfl
                refine pure_ (i := 8) (N := some 58) (v := undef) (a' := ?_) #[true, true, true, true, true, true, true, true, true, false, false, false, false, false, false, false, false, false, false, false, false, false, false, false, false, false, false] rfl rfl (any_of HT_.out (by kernel_rfl)) (fun _ _ _ h => h) (Or.inr ⟨by rfl, rfl⟩) ?_ ?_
                rotate_left
                · simp only [Act.put, List.setIfInBounds_toArray, List.set_cons_zero, List.set_cons_succ, i64_w, i32_w]
                  rfl
                refine pure_ (i := 9) (N := some 59) (v := undef) (a' := ?_) #[true, true, true, true, true, true, true, true, true, true, false, false, false, false, false, false, false, false, false, false, false, false, false, false, false, false, false] rfl rfl (any_of HT_.out (by kernel_rfl)) (fun _ _ _ h => h) (Or.inr ⟨by rfl, rfl⟩) ?_ ?_
                rotate_left
                · simp only [Act.put, List.setIfInBounds_toArray, List.set_cons_zero, List.set_cons_succ, i64_w, i32_w]
                  rfl
                refine pure_ (i := 10) (N := some 60) (v := undef) (a' := ?_) #[true, true, true, true, true, true, true, true, true, true, true, false, false, false, false, false, false, false, false, false, false, false, false, false, false, false, false] rfl rfl (any_of HT_.out (by kernel_rfl)) (fun _ _ _ h => h) (Or.inr ⟨by rfl, rfl⟩) ?_ ?_
                rotate_left
                · simp only [Act.put, List.setIfInBounds_toArray, List.set_cons_zero, List.set_cons_succ, i64_w, i32_w]
                  rfl
                refine pure_ (i := 11) (N := some 61) (v := undef) (a' := ?_) #[true, true, true, true, true, true, true, true, true, true, true, true, false, false, false, false, false, false, false, false, false, false, false, false, false, false, false] rfl rfl (any_of HT_.out (by kernel_rfl)) (fun _ _ _ h => h) (Or.inr ⟨by rfl, rfl⟩) ?_ ?_
                rotate_left
                · simp only [Act.put, List.setIfInBounds_toArray, List.set_cons_zero, List.set_cons_succ, i64_w, i32_w]
                  rfl
                refine pure_ (i := 12) (N := some 62) (v := undef) (a' := ?_) #[true, true, true, true, true, true, true, true, true, true, true, true, true, false, false, false, false, false, false, false, false, false, false, false, false, false, false] rfl rfl (any_of HT_.out (by kernel_rfl)) (fun _ _ _ h => h) (Or.inr ⟨by rfl, rfl⟩) ?_ ?_
                rotate_left
                · simp only [Act.put, List.setIfInBounds_toArray, List.set_cons_zero, List.set_cons_succ, i64_w, i32_w]
                  rfl
                refine pure_ (i := 13) (N := some 63) (v := undef) (a' := ?_) #[true, true, true, true, true, true, true, true, true, true, true, true, true, true, false, false, false, false, false, false, false, false, false, false, false, false, false] rfl rfl (any_of HT_.out (by kernel_rfl)) (fun _ _ _ h => h) (Or.inr ⟨by rfl, rfl⟩) ?_ ?_
                rotate_left
                · simp only [Act.put, List.setIfInBounds_toArray, List.set_cons_zero, List.set_cons_succ, i64_w, i32_w]
                  rfl
                refine pure_ (i := 14) (N := some 64) (v := undef) (a' := ?_) #[true, true, true, true, true, true, true, true, true, true, true, true, true, true, true, false, false, false, false, false, false, false, false, false, false, false, false] rfl rfl (any_of HT_.out (by kernel_rfl)) (fun _ _ _ h => h) (Or.inr ⟨by rfl, rfl⟩) ?_ ?_
                rotate_left
                · simp only [Act.put, List.setIfInBounds_toArray, List.set_cons_zero, List.set_cons_succ, i64_w, i32_w]
                  rfl
                refine pure_ (i := 15) (N := some 65) (v := undef) (a' := ?_) #[true, true, true, true, true, true, true, true, true, true, true, true, true, true, true, true, false, false, false, false, false, false, false, false, false, false, false] rfl rfl (any_of HT_.out (by kernel_rfl)) (fun _ _ _ h => h) (Or.inr ⟨by rfl, rfl⟩) ?_ ?_
                rotate_left
                · simp only [Act.put, List.setIfInBounds_toArray, List.set_cons_zero, List.set_cons_succ, i64_w, i32_w]
                  rfl
                refine pure_ (i := 16) (N := some 66) (v := ?_) (a' := ?_) #[true, true, true, true, true, true, true, true, true, true, true, true, true, true, true, true, true, false, false, false, false, false, false, false, false, false, false] rfl rfl (any_of HT_.out (by kernel_rfl)) (fun _ _ _ h => h) (Or.inl ⟨by rfl, ?_⟩) ?_ ?_
                rotate_left
                · intro w'
                  go_simp
                  with_reducible rfl
                rotate_left
                · simp only [Act.put, List.setIfInBounds_toArray, List.set_cons_zero, List.set_cons_succ, i64_w, i32_w]
                  rfl
                refine pure_ (i := 17) (N := some 67) (v := ?_) (a' := ?_) #[true, true, true, true, true, true, true, true, true, true, true, true, true, true, true, true, true, true, false, false, false, false, false, false, false, false, false] rfl rfl (any_of HT_.out (by kernel_rfl)) (fun _ _ _ h => h) (Or.inl ⟨by rfl, ?_⟩) ?_ ?_
                rotate_left
                · intro w'
                  go_simp
                  with_reducible rfl
                rotate_left
                · simp only [Act.put, List.setIfInBounds_toArray, List.set_cons_zero, List.set_cons_succ, i64_w, i32_w]
                  rfl
                refine pure_ (i := 18) (N := some 68) (v := ?_) (a' := ?_) #[true, true, true, true, true, true, true, true, true, true, true, true, true, true, true, true, true, true, true, false, false, false, false, false, false, false, false] rfl rfl (any_of HT_.out (by kernel_rfl)) (fun _ _ _ h => h) (Or.inl ⟨by rfl, ?_⟩) ?_ ?_
                rotate_left
                · intro w'
                  go_simp
                  with_reducible rfl
                rotate_left
                · simp only [Act.put, List.setIfInBounds_toArray, List.set_cons_zero, List.set_cons_succ, i64_w, i32_w]
                  rfl
                refine pure_ (i := 19) (N := some 69) (v := ?_) (a' := ?_) #[true, true, true, true, true, true, true, true, true, true, true, true, true, true, true, true, true, true, true, true, false, false, false, false, false, false, false] rfl rfl (any_of HT_.out (by kernel_rfl)) (fun _ _ _ h => h) (Or.inl ⟨by rfl, ?_⟩) ?_ ?_
                rotate_left
                · intro w'
                  go_simp
                  with_reducible rfl
                rotate_left
                · simp only [Act.put, List.setIfInBounds_toArray, List.set_cons_zero, List.set_cons_succ, i64_w, i32_w]
                  rfl
                refine pure_ (i := 20) (N := some 70) (v := ?_) (a' := ?_) #[true, true, true, true, true, true, true, true, true, true, true, true, true, true, true, true, true, true, true, true, true, false, false, false, false, false, false] rfl rfl (any_of HT_.out (by kernel_rfl)) (fun _ _ _ h => h) (Or.inl ⟨by rfl, ?_⟩) ?_ ?_
                rotate_left
                · intro w'
                  go_simp
                  with_reducible rfl
                rotate_left
                · simp only [Act.put, List.setIfInBounds_toArray, List.set_cons_zero, List.set_cons_succ, i64_w, i32_w]
                  rfl
                refine pure_ (i := 21) (N := some 71) (v := ?_) (a' := ?_) #[true, true, true, true, true, true, true, true, true, true, true, true, true, true, true, true, true, true, true, true, true, true, false, false, false, false, false] rfl rfl (any_of HT_.out (by kernel_rfl)) (fun _ _ _ h => h) (Or.inl ⟨by rfl, ?_⟩) ?_ ?_
                rotate_left
                · intro w'
                  go_simp
                  with_reducible rfl
                rotate_left
                · simp only [Act.put, List.setIfInBounds_toArray, List.set_cons_zero, List.set_cons_succ, i64_w, i32_w]
                  rfl
                refine pure_ (i := 22) (N := some 72) (v := ?_) (a' := ?_) #[true, true, true, true, true, true, true, true, true, true, true, true, true, true, true, true, true, true, true, true, true, true, true, false, false, false, false] rfl rfl (any_of HT_.out (by kernel_rfl)) (fun _ _ _ h => h) (Or.inl ⟨by rfl, ?_⟩) ?_ ?_
                rotate_left
                · intro w'
                  go_simp
                  with_reducible rfl
                rotate_left
                · simp only [Act.put, List.setIfInBounds_toArray, List.set_cons_zero, List.set_cons_succ, i64_w, i32_w]
                  rfl
                refine take_ (i := 23) (N := some 73) (v := ?_) (a' := ?_) #[true, true, true, true, true, true, true, true, true, true, true, true, true, true, true, true, true, true, true, true, true, true, true, true, false, false, false] rfl rfl (take_ofW HT_.out HW_.out (by kernel_rfl)) (fun _ _ _ h => h) (Or.inl ⟨by rfl, ?_⟩) hHeld ?_ ?_
                rotate_left
                · rintro w' ⟨s0, s1, s2, s3⟩
                  go_simp
                  with_reducible rfl
                rotate_left
                · simp only [Act.put, List.setIfInBounds_toArray, List.set_cons_zero, List.set_cons_succ, i64_w, i32_w]
                  rfl
                refine pure_ (i := 24) (N := some 74) (v := ?_) (a' := ?_) #[true, true, true, true, true, true, true, true, true, true, true, true, true, true, true, true, true, true, true, true, true, true, true, true, true, false, false] rfl rfl (any_of HT_.out (by kernel_rfl)) (fun _ _ _ h => h) (Or.inl ⟨by rfl, ?_⟩) ?_ ?_
                rotate_left
                · intro w'
                  go_simp
                  with_reducible rfl
                rotate_left
                · simp only [Act.put, List.setIfInBounds_toArray, List.set_cons_zero, List.set_cons_succ, i64_w, i32_w]
                  rfl
                refine pure_ (i := 25) (N := some 75) (v := ?_) (a' := ?_) #[true, true, true, true, true, true, true, true, true, true, true, true, true, true, true, true, true, true, true, true, true, true, true, true, true, true, false] rfl rfl (any_of HT_.out (by kernel_rfl)) (fun _ _ _ h => h) (Or.inl ⟨by rfl, ?_⟩) ?_ ?_
                rotate_left
                · intro w'
                  go_simp
                  with_reducible rfl
                rotate_left
                · simp only [Act.put, List.setIfInBounds_toArray, List.set_cons_zero, List.set_cons_succ, i64_w, i32_w]
                  rfl
                refine pure_ (i := 26) (N := some 4) (v := ?_) (a' := ?_) #[true, true, true, true, true, true, true, true, true, true, true, true, true, true, true, true, true, true, true, true, true, true, true, true, true, true, true] rfl rfl (any_of HT_.out (by kernel_rfl)) (fun _ _ _ h => h) (Or.inl ⟨by rfl, ?_⟩) ?_ ?_
                rotate_left
                · intro w'
                  go_simp
                  with_reducible rfl
                rotate_left
                · simp only [Act.put, List.setIfInBounds_toArray, List.set_cons_zero, List.set_cons_succ, i64_w, i32_w]
                  rfl
                refine done_ (done_of HT_.out (by kernel_rfl)) ?_
                try go_wp2
                go_ret
                exact ⟨by first | rfl | (simp [errW_none, errW_some] <;> rfl) | (simp [*, errW_none, errW_some] <;> rfl), by repeat (first | (with_reducible first | exact HB.out | apply below_alloc | apply pw_below_drewN | apply below_drew1 | refine below_set ?_ GE156.out | refine below_set ?_ GE163.out | refine below_set ?_ GE173.out) | exact HB.out)⟩
              · replace c35 := Bool.eq_false_iff.mpr c35
                subst c35
                have H1 : (some false) = some r := by rw [if_neg (show ¬ (false = true) by decide)] at H; exact H
                clear H
                have H := H1
                clear H1
                exact absurd (Option.some.inj H) (by rw [HRT.out]; simp)
          · rw [if_neg c11] at H
            have c11b0 : (t162 == t155) = false := by simpa using c11
            (try (have c11b1 : t162 = !(t155) := bool_ne_of _ _ (by simpa using c11)))
            (try (have c11b2 : decide (t162 = t155) = false := by simpa using c11))
            (try (have c11b3 : (t162 == t155) = false := by simpa using c11))
            (try (have c11b4 : ¬ (t162 = t155) := by simpa using c11))
            clear c11
            exact absurd (Option.some.inj H) (by rw [HRT.out]; simp)

/-- THE ONE PURE STATEMENT of laws_FnReadHeader: yours. -/
def laws_FnReadHeader.Pure : Prop := ∀ (l0 : List Int) (a1 : Int), l0.length ≤ maxLen → l0.length * 1 ≤ 140737488351232 → (∀ x ∈ l0, (Lit.int .u8 x).wf = true) → (Lit.int .i64 a1).wf = true → ∃ k, laws_FnReadHeader.f k l0 a1 = some true
theorem laws_FnReadHeader.walk (P : laws_FnReadHeader.Pure) (a0 : Option Addr) (len0 cap0 : Nat) (z0 : List Int) (a1 : Int) (w : World) (w0 : (a0 = none ∧ len0 = 0 ∧ cap0 = 0 ∧ z0 = []) ∨ ∃ x, a0 = some x ∧ len0 ≤ cap0 ∧ cap0 ≤ maxLen ∧ z0.length = cap0 ∧ (∀ i, i < z0.length → w.cell? (x.add i) = some (.int .u8 (z0.getD i 0))) ∧ ∀ n ∈ z0, (Lit.int .u8 n).wf = true) (y0 : len0 * 1 ≤ 140737488351232) (w1 : (Lit.int .i64 a1).wf = true) :
    Calls Try.prog 12 #[.slice a0 len0 cap0, .int .i64 a1] w fun e w' => e = .returned (.bool true) ∧ Below w.heap.size w w' := by
  obtain ⟨l0, rfl, hr0, hm0, hw0, hc0⟩ := ReadsInt.ofRowC w0
  obtain ⟨k, h⟩ := P l0 a1 hm0 y0 hw0 w1
  refine (laws_FnReadHeader.calls k _ _ l0 a1 true w (Kd.C_of_reads (d := (0 : Int)) (h1 := fun _ => rfl) hr0) hc0 h rfl).mono ?_
  rintro e w' ⟨rfl, hd⟩
  exact ⟨rfl, hd⟩

end Go.Proofs.Ytapnkngcnlomhaa.QR
