-- Written by a program of this work (wip/patch_print.py) for this claim.
import Derived.Test.YtapnkngcnlomhaaQRx0
namespace Go.Proofs.Ytapnkngcnlomhaa.QR
open Go.RowKit Go.Proofs.YtapnkngcnlomhaaW.PrintWords Go.Proofs.YtapnkngcnlomhaaW.PrintLast Go.Proofs.YtapnkngcnlomhaaW.PrintMore
attribute [local go_sem] max2_int min2_int max_two min_two max_three min_three max_four min_four   -- for this text's walks alone
set_option linter.unusedVariables false
set_option linter.unusedSimpArgs false

/-! ### impl_short: function 35 -/
def impl_short.f (l0 : List Int) : Option (Bool) := some (decide ((l0.length : Int) ≤ 10000))
set_option maxHeartbeats 8000000 in
set_option maxRecDepth 100000 in
theorem impl_short.calls (A0 : Option Addr) (c0 : Nat) (l0 : List Int) (r : Bool) (w : World) (hr0 : Kd.C (Kd.int .u8) w A0 l0.length l0) (hc0 : l0.length ≤ c0) (h : impl_short.f l0 = some r) :
    Calls Try.prog 35 #[.slice A0 l0.length c0] w fun e w' => e = .returned (.bool r) ∧ Drawn0 w w' := by
  have HR0 := Aside0.mk hr0
  have HC0 := Aside0.mk hc0
  clear hr0 hc0
  have H : (some (decide ((l0.length : Int) ≤ 10000))) = some r := h
  clear h
  obtain rfl := Option.some.inj H
  go_enter Try.func35, Try.ntmps35
  go_wp2
  go_ret
  exact ⟨by first | rfl | (simp; done) | (simp [*]; done), by repeat (first | exact Drawn0.refl _ | apply Drawn0.step)⟩

/-! ### impl_copied: function 37 -/
def impl_copied.f (l0 : List Int) : Option (List Int) := if ([] : List Int).length + l0.length < 140737488355328 then (some (([] : List Int) ++ l0)) else (none)
set_option maxHeartbeats 8000000 in
set_option maxRecDepth 100000 in
theorem impl_copied.calls (A0 : Option Addr) (c0 : Nat) (l0 : List Int) (r : List Int) (w : World) (hr0 : Kd.C (Kd.int .u8) w A0 l0.length l0) (hc0 : l0.length ≤ c0) (h : impl_copied.f l0 = some r) :
    Calls Try.prog 37 #[.slice A0 l0.length c0] w fun e w' => ∃ v0_ : Value, e = .returned (v0_) ∧ Kd.R (Kd.int .u8) 5 w' w.heap.size (fun _ => True) v0_ r ∧ Below w.heap.size w w' := by
  have HR0 := Aside0.mk hr0
  have HC0 := Aside0.mk hc0
  clear hr0 hc0
  have HB := Aside0.mk (Below.refl w.heap.size w)
  have H : (if ([] : List Int).length + l0.length < 140737488355328 then (some (([] : List Int) ++ l0)) else (none)) = some r := h
  clear h
  by_cases c2 : ([] : List Int).length + l0.length < 140737488355328
  · rw [if_pos c2] at H
    have LMc2 := Aside0.mk c2
    clear c2
    obtain ⟨y116, hy116⟩ : ∃ y_ : List Int, y_ = (([] : List Int) ++ l0) := ⟨_, rfl⟩
    replace H : (some y116) = some r := by first | (rw [hy116]; with_reducible exact H) | (have H2_ := (Option.bind_some _ _).symm.trans H; rw [hy116]; with_reducible exact H2_) | (have H2_ := (Option.bind_some _ _).symm.trans H; with_reducible exact H2_) | with_reducible exact H | (rw [hy116]; exact H) | exact H
    have Ny116 := Aside0.mk hy116
    clear hy116
    obtain rfl := Option.some.inj H
    go_enter Try.func37, Try.ntmps37
    go_wp2_with (first | ((with_reducible refine gate_builtin (b := .append) (xs := #[.const (.slice none 0 0), .tmp 3]) rfl ?_); at_builtin; refine Kd.R_append_rows (Kd.int .u8) (w0 := w) w.heap.size rfl (.const (.slice none 0 0)) (.tmp 3) 22 5 (.int .u8 0) 1 rfl Try.underlying22 info5 rfl (by decide) (by omega) (.slice none 0 0) ([] : List Int) l0 _ _ _ (fun _ => True) (fun _ => False) rfl rfl ?aO ?aR (fun _ _ h => h) (fun _ h => h.elim) ?aF ?aB ?aS ?aL ?_; (case aR => repeat (first | exact HR0.out | (with_reducible refine Kd.C_alloc ?_ _) | (with_reducible refine Kd.C_drewN ?_ _) | (with_reducible refine Kd.C_drew ?_))); (case aB => exact (by repeat (first | (with_reducible first | exact HB.out | apply below_alloc | apply pw_below_drewN | apply below_drew1) | exact HB.out))); (case aF => exact (fun _ _ => trivial)); (case aO => exact ((Kd.R_nil _ _ _ _ (fun _ => True)))); (case aS => exact (below_size (by repeat (first | (with_reducible first | exact HB.out | apply below_alloc | apply pw_below_drewN | apply below_drew1) | exact HB.out)))); (case aL => have := LMc2.out; omega); intro v117 w3 ho hb hg hat; rw [← Ny116.out] at ho; have n0_ := Aside0.mk (hb); have n1_ := Aside0.mk (ho); clear HB; have HB := n0_; have HO118 := n1_; clear n0_ n1_; clear ho hb hg hat))
    go_ret
    exact ⟨_, by first | rfl | (simp [errW_none, errW_some] <;> rfl) | (simp [*, errW_none, errW_some] <;> rfl), by (with_reducible repeat (first | apply Kd.R_alloc | apply Kd.R_drewN | apply Kd.R_drew)); exact HO118.out, by repeat (first | (with_reducible first | exact HB.out | apply below_alloc | apply pw_below_drewN | apply below_drew1) | exact HB.out)⟩
  · rw [if_neg c2] at H
    exact absurd H (by simp)

/-! ### asn1_parseBase128Int: function 51 -/
mutual
def asn1_parseBase128Int.l0 : Nat → List Int → Int → Int → Option Int → Int → Int → Option (Int × Int × Option Int)
  | 0, _, _, _, _, _, _ => none
  | k + 1, x0, x4, x5, x6, x7, x8 => if x5 < (x0.length : Int) then (if x8 = 5 then (some (x4, x5, some 1)) else (if 0 ≤ x5 then (if x8 = 0 then (asn1_parseBase128Int.j1 k x0 x4 x5 x6 (wrap64 (x7 * 128)) x8 (rd x0 x5) ((rd x0 x5) == 128)) else (asn1_parseBase128Int.j1 k x0 x4 x5 x6 (wrap64 (x7 * 128)) x8 (rd x0 x5) false)) else (none))) else (some (x4, x5, some 0))
def asn1_parseBase128Int.j1 : Nat → List Int → Int → Int → Option Int → Int → Int → Int → Bool → Option (Int × Int × Option Int)
  | 0, _, _, _, _, _, _, _, _ => none
  | k + 1, x0, x4, x5, x6, x7, x8, x9, x32 => if x32 = true then (some (x4, x5, some 2)) else (if (Go.bits .and .u8 x9 128) = 0 then (if (Go.bits .or .i64 x7 (wrap64 (Go.bits .and .u8 x9 127))) > 2147483647 then (some (Go.bits .or .i64 x7 (wrap64 (Go.bits .and .u8 x9 127)), wrap64 (x5 + 1), some 1)) else (some (Go.bits .or .i64 x7 (wrap64 (Go.bits .and .u8 x9 127)), wrap64 (x5 + 1), x6))) else (asn1_parseBase128Int.l0 k x0 x4 (wrap64 (x5 + 1)) x6 (Go.bits .or .i64 x7 (wrap64 (Go.bits .and .u8 x9 127))) (wrap64 (x8 + 1))))
end
def asn1_parseBase128Int.f (k : Nat) (l0 : List Int) (a1 : Int) : Option (Int × Int × Option Int) := asn1_parseBase128Int.l0 k l0 0 a1 none 0 0
theorem asn1_parseBase128Int.mono_l : ∀ k, (∀ y0 y1 y2 y3 y4 y5, LeO (asn1_parseBase128Int.l0 k y0 y1 y2 y3 y4 y5) (asn1_parseBase128Int.l0 (k + 1) y0 y1 y2 y3 y4 y5)) ∧ (∀ y0 y1 y2 y3 y4 y5 y6 y7, LeO (asn1_parseBase128Int.j1 k y0 y1 y2 y3 y4 y5 y6 y7) (asn1_parseBase128Int.j1 (k + 1) y0 y1 y2 y3 y4 y5 y6 y7))
  | 0 => ⟨fun _ _ _ _ _ _ r h => by simp [asn1_parseBase128Int.l0] at h, fun _ _ _ _ _ _ _ _ r h => by simp [asn1_parseBase128Int.j1] at h⟩
  | k + 1 => by
    obtain ⟨ih0, ih1⟩ := asn1_parseBase128Int.mono_l k
    refine ⟨?_, ?_⟩
    · intro y0 y1 y2 y3 y4 y5
      unfold asn1_parseBase128Int.l0
      repeat' first
      | (with_reducible exact ih0 _ _ _ _ _ _)
      | (with_reducible exact ih1 _ _ _ _ _ _ _ _)
      | (with_reducible exact LeO.refl _)
      | (with_reducible exact LeO.none _)
      | (with_reducible refine LeO.ite ?_ ?_)
      | (with_reducible refine LeO.bind ?_ (fun _ => ?_))
      | exact ih0 _ _ _ _ _ _
      | exact ih1 _ _ _ _ _ _ _ _
      | exact LeO.none _
      | refine LeO.ite ?_ ?_
      | refine LeO.bind ?_ (fun _ => ?_)
    · intro y0 y1 y2 y3 y4 y5 y6 y7
      unfold asn1_parseBase128Int.j1
      repeat' first
      | (with_reducible exact ih0 _ _ _ _ _ _)
      | (with_reducible exact ih1 _ _ _ _ _ _ _ _)
      | (with_reducible exact LeO.refl _)
      | (with_reducible exact LeO.none _)
      | (with_reducible refine LeO.ite ?_ ?_)
      | (with_reducible refine LeO.bind ?_ (fun _ => ?_))
      | exact ih0 _ _ _ _ _ _
      | exact ih1 _ _ _ _ _ _ _ _
      | exact LeO.none _
      | refine LeO.ite ?_ ?_
      | refine LeO.bind ?_ (fun _ => ?_)
theorem asn1_parseBase128Int.mono : ∀ a0 a1 k, LeO (asn1_parseBase128Int.f k a0 a1) (asn1_parseBase128Int.f (k + 1) a0 a1) := by
  intro a0 a1 k
  obtain ⟨ih0, ih1⟩ := asn1_parseBase128Int.mono_l k
  unfold asn1_parseBase128Int.f
  repeat' first
      | (with_reducible exact ih0 _ _ _ _ _ _)
      | (with_reducible exact ih1 _ _ _ _ _ _ _ _)
      | (with_reducible exact LeO.refl _)
      | (with_reducible exact LeO.none _)
      | (with_reducible refine LeO.ite ?_ ?_)
      | (with_reducible refine LeO.bind ?_ (fun _ => ?_))
      | exact ih0 _ _ _ _ _ _
      | exact ih1 _ _ _ _ _ _ _ _
      | exact LeO.none _
      | refine LeO.ite ?_ ?_
      | refine LeO.bind ?_ (fun _ => ?_)
set_option maxHeartbeats 8000000 in
set_option maxRecDepth 100000 in
theorem asn1_parseBase128Int.calls (k : Nat) (A0 : Option Addr) (c0 : Nat) (l0 : List Int) (a1 : Int) (r1 : Int) (r2 : Int) (r3 : Option Int) (w : World) (hr0 : Kd.C (Kd.int .u8) w A0 l0.length l0) (hc0 : l0.length ≤ c0) (h : asn1_parseBase128Int.f k l0 a1 = some (r1, r2, r3)) :
    Calls Try.prog 51 #[.slice A0 l0.length c0, .int .i64 a1] w fun e w' => e = .returned (.tuple #[.int .i64 r1, .int .i64 r2, errW r3]) ∧ Below w.heap.size w w' := by
  have hu86 := Try.underlying86
  have hu87 := Try.underlying87
  have hu58 := Try.underlying58
  have HR0 := Aside0.mk hr0
  have HC0 := Aside0.mk hc0
  clear hr0 hc0
  have HB := Aside0.mk (Below.refl w.heap.size w)
  have H : (asn1_parseBase128Int.l0 k l0 0 a1 none 0 0) = some (r1, r2, r3) := h
  clear h
  have H' := Aside0.mk H
  clear H
  go_enter Try.func51, Try.ntmps51
  go_wp2
  go_loopg [4, 5, 6, 7, 8] k (fun kq v4 v5 v6 v7 v8 w' => ∃ (x4_1 : Int) (x5_1 : Int) (x6_1 : Option Int) (x7_1 : Int) (x8_1 : Int), v4 = .int .i64 x4_1 ∧ v5 = .int .i64 x5_1 ∧ v6 = errW x6_1 ∧ v7 = .int .i64 x7_1 ∧ v8 = .int .i64 x8_1 ∧ Aside0 (asn1_parseBase128Int.l0 kq l0 x4_1 x5_1 x6_1 x7_1 x8_1 = some (r1, r2, r3)) ∧ Aside0 (kq ≤ k) ∧ Aside0 (Below w.heap.size w w'))
  case atStart => exact ⟨(0), (a1), (none), (0), (0), (by first | rfl | (simp; done) | (simp [*]; done)), (by first | rfl | (simp; done) | (simp [*]; done)), (by first | rfl | (simp; done) | (simp [*]; done)), (by first | rfl | (simp; done) | (simp [*]; done)), (by first | rfl | (simp; done) | (simp [*]; done)), H', ⟨Nat.le_refl _⟩, ⟨by repeat (first | (with_reducible first | exact HB.out | apply below_alloc | apply pw_below_drewN | apply below_drew1) | exact HB.out)⟩⟩
  case round =>
    clear H'
    try clear p2
    obtain ⟨x4_1, x5_1, x6_1, x7_1, x8_1, rfl, rfl, rfl, rfl, rfl, HA, HK1, HB⟩ := hrel
    cases gk with
    | zero => exact absurd HA.out (by simp [asn1_parseBase128Int.l0])
    | succ k1 =>
      have H := HA.out
      clear HA
      simp only [asn1_parseBase128Int.l0] at H
      by_cases c3 : x5_1 < (l0.length : Int)
      · rw [if_pos c3] at H
        have c3b0 : decide (x5_1 < (l0.length : Int)) = true := decide_eq_true c3
        clear c3
        by_cases c4 : x8_1 = 5
        · rw [if_pos c4] at H
          have c4b0 : (x8_1 == 5) = true := beq_iff_eq.mpr c4
          have c4b1 : (x8_1 != 5) = false := bne_eq_false_iff_eq.mpr c4
          clear c4
          simp only [Option.some.injEq, Prod.mk.injEq] at H
          obtain ⟨rfl, rfl, rfl⟩ := H
          go_wp2
          go_ret3
          exact ⟨by first | rfl | (simp [errW_none, errW_some] <;> rfl) | (simp [*, errW_none, errW_some] <;> rfl), by repeat (first | (with_reducible first | exact HB.out | apply below_alloc | apply pw_below_drewN | apply below_drew1) | exact HB.out)⟩
        · rw [if_neg c4] at H
          have c4b0 : (x8_1 == 5) = false := beq_eq_false_iff_ne.mpr c4
          have c4b1 : (x8_1 != 5) = true := bne_iff_ne.mpr c4
          by_cases c5 : 0 ≤ x5_1
          · rw [if_pos c5] at H
            have c5b0 : decide (0 ≤ x5_1) = true := decide_eq_true c5
            clear c5
            have HC6 := Aside0.mk H
            clear H
            have p119 : 0 ≤ (x5_1 : Int) := of_decide_eq_true (by first | (with_reducible assumption) | assumption)
            have q119 : x5_1 < (l0.length : Int) := of_decide_eq_true (by first | (with_reducible assumption) | assumption)
            obtain ⟨ad119, e119, hx119_0⟩ := Kd.at_int HR0.out x5_1 p119 q119
            cases e119
            replace hx119_0 := (HB.out.cell (World.block_lt_of_cell? w _ hx119_0)).trans hx119_0
            replace p119 := eq_true p119
            replace q119 := eq_true q119
            go_upto_region 10 with (fail)
            go_cut [32] (fun v32 wc => ∃ (kq : Nat) (x32_5 : Bool), v32 = .bool x32_5 ∧ Aside0 (asn1_parseBase128Int.j1 kq l0 x4_1 x5_1 x6_1 (wrap64 (x7_1 * 128)) x8_1 (rd l0 x5_1) x32_5 = some (r1, r2, r3)) ∧ Aside0 (kq ≤ k1) ∧ Aside0 (Below w.heap.size w wc))
            case first =>
              have H := HC6.out
              clear HC6
              by_cases c7 : x8_1 = 0
              · rw [if_pos c7] at H
                have c7b0 : (x8_1 == 0) = true := beq_iff_eq.mpr c7
                have c7b1 : (x8_1 != 0) = false := bne_eq_false_iff_eq.mpr c7
                clear c7
                (first | rw [c7b0] | (simp only [i64_w, i32_w]; rw [c7b0]) | skip)
                have H' := Aside0.mk H
                clear H
                go_wp2
                go_meet
                case rel => exact ⟨_, (((rd l0 x5_1) == 128)), (by first | rfl | (simp; done) | (simp [*]; done)), H', ⟨by have := HK1.out; first | omega | exact Nat.le_refl _⟩, ⟨by repeat (first | (with_reducible first | exact HB.out | apply below_alloc | apply pw_below_drewN | apply below_drew1) | exact HB.out)⟩⟩
              · rw [if_neg c7] at H
                have c7b0 : (x8_1 == 0) = false := beq_eq_false_iff_ne.mpr c7
                have c7b1 : (x8_1 != 0) = true := bne_iff_ne.mpr c7
                (first | rw [c7b0] | (simp only [i64_w, i32_w]; rw [c7b0]) | skip)
                have H' := Aside0.mk H
                clear H
                go_wp2
                go_meet
                case rel => exact ⟨_, (false), (by first | rfl | (simp; done) | (simp [*]; done)), H', ⟨by have := HK1.out; first | omega | exact Nat.le_refl _⟩, ⟨by repeat (first | (with_reducible first | exact HB.out | apply below_alloc | apply pw_below_drewN | apply below_drew1) | exact HB.out)⟩⟩
            case rest =>
              clear HC6
              try clear p1
              try clear q1
              try clear hx1
              try clear p2
              try clear c3
              try clear c3b0
              try clear c4
              try clear c4b0
              try clear c4b1
              try clear c5
              try clear c5b0
              try clear p6
              try clear c7
              try clear c7b0
              try clear c7b1
              try clear hx119_0
              try clear p119
              try clear p2
              try clear q119
              obtain ⟨kq, x32_5, rfl, HA, HJ5, HB⟩ := hcut
              cases kq with
              | zero => exact absurd HA.out (by simp [asn1_parseBase128Int.j1])
              | succ kj5 =>
                have H := HA.out
                clear HA
                simp only [asn1_parseBase128Int.j1] at H
                by_cases c8 : x32_5 = true
                · subst c8
                  have H1 : (some (x4_1, x5_1, some 2)) = some (r1, r2, r3) := by rw [if_pos rfl] at H; exact H
                  clear H
                  have H := H1
                  clear H1
                  simp only [Option.some.injEq, Prod.mk.injEq] at H
                  obtain ⟨rfl, rfl, rfl⟩ := H
                  go_wp2
                  go_ret3
                  exact ⟨by first | rfl | (simp [errW_none, errW_some] <;> rfl) | (simp [*, errW_none, errW_some] <;> rfl), by repeat (first | (with_reducible first | exact HB.out | apply below_alloc | apply pw_below_drewN | apply below_drew1) | exact HB.out)⟩
                · replace c8 := Bool.eq_false_iff.mpr c8
                  subst c8
                  have H1 : (if (Go.bits .and .u8 (rd l0 x5_1) 128) = 0 then (if (Go.bits .or .i64 (wrap64 (x7_1 * 128)) (wrap64 (Go.bits .and .u8 (rd l0 x5_1) 127))) > 2147483647 then (some (Go.bits .or .i64 (wrap64 (x7_1 * 128)) (wrap64 (Go.bits .and .u8 (rd l0 x5_1) 127)), wrap64 (x5_1 + 1), some 1)) else (some (Go.bits .or .i64 (wrap64 (x7_1 * 128)) (wrap64 (Go.bits .and .u8 (rd l0 x5_1) 127)), wrap64 (x5_1 + 1), x6_1))) else (asn1_parseBase128Int.l0 kj5 l0 x4_1 (wrap64 (x5_1 + 1)) x6_1 (Go.bits .or .i64 (wrap64 (x7_1 * 128)) (wrap64 (Go.bits .and .u8 (rd l0 x5_1) 127))) (wrap64 (x8_1 + 1)))) = some (r1, r2, r3) := by rw [if_neg (show ¬ (false = true) by decide)] at H; exact H
                  clear H
                  have H := H1
                  clear H1
                  by_cases c9 : (Go.bits .and .u8 (rd l0 x5_1) 128) = 0
                  · rw [if_pos c9] at H
                    have c9b0 : ((Go.bits .and .u8 (rd l0 x5_1) 128) == 0) = true := beq_iff_eq.mpr c9
                    have c9b1 : ((Go.bits .and .u8 (rd l0 x5_1) 128) != 0) = false := bne_eq_false_iff_eq.mpr c9
                    clear c9
                    by_cases c10 : (Go.bits .or .i64 (wrap64 (x7_1 * 128)) (wrap64 (Go.bits .and .u8 (rd l0 x5_1) 127))) > 2147483647
                    · rw [if_pos c10] at H
                      have c10b0 : decide (2147483647 < (Go.bits .or .i64 (wrap64 (x7_1 * 128)) (wrap64 (Go.bits .and .u8 (rd l0 x5_1) 127)))) = true := decide_eq_true c10
                      clear c10
                      simp only [Option.some.injEq, Prod.mk.injEq] at H
                      obtain ⟨rfl, rfl, rfl⟩ := H
                      go_wp2
                      go_ret3
                      exact ⟨by first | rfl | (simp [errW_none, errW_some] <;> rfl) | (simp [*, errW_none, errW_some] <;> rfl), by repeat (first | (with_reducible first | exact HB.out | apply below_alloc | apply pw_below_drewN | apply below_drew1) | exact HB.out)⟩
                    · rw [if_neg c10] at H
                      have c10b0 : decide (2147483647 < (Go.bits .or .i64 (wrap64 (x7_1 * 128)) (wrap64 (Go.bits .and .u8 (rd l0 x5_1) 127)))) = false := decide_eq_false c10
                      clear c10
                      simp only [Option.some.injEq, Prod.mk.injEq] at H
                      obtain ⟨rfl, rfl, rfl⟩ := H
                      go_wp2
                      go_ret3
                      exact ⟨by first | rfl | (simp [errW_none, errW_some] <;> rfl) | (simp [*, errW_none, errW_some] <;> rfl), by repeat (first | (with_reducible first | exact HB.out | apply below_alloc | apply pw_below_drewN | apply below_drew1) | exact HB.out)⟩
                  · rw [if_neg c9] at H
                    have c9b0 : ((Go.bits .and .u8 (rd l0 x5_1) 128) == 0) = false := beq_eq_false_iff_ne.mpr c9
                    have c9b1 : ((Go.bits .and .u8 (rd l0 x5_1) 128) != 0) = true := bne_iff_ne.mpr c9
                    have H' := Aside0.mk H
                    clear H
                    go_wp2
                    go_roundg kj5
                    case measure => have := HK1.out; have := HJ5.out; omega
                    case rel => exact ⟨(x4_1), (wrap64 (x5_1 + 1)), (x6_1), (Go.bits .or .i64 (wrap64 (x7_1 * 128)) (wrap64 (Go.bits .and .u8 (rd l0 x5_1) 127))), (wrap64 (x8_1 + 1)), (by first | rfl | (simp; done) | (simp [*]; done)), (by first | rfl | (simp; done) | (simp [*]; done)), (by first | rfl | (simp; done) | (simp [*]; done)), (by first | rfl | (simp; done) | (simp [*]; done)), (by first | rfl | (simp; done) | (simp [*]; done)), H', ⟨by have := HK1.out; have := HJ5.out; omega⟩, ⟨by repeat (first | (with_reducible first | exact HB.out | apply below_alloc | apply pw_below_drewN | apply below_drew1) | exact HB.out)⟩⟩
          · rw [if_neg c5] at H
            exact absurd H (by simp)
      · rw [if_neg c3] at H
        have c3b0 : decide (x5_1 < (l0.length : Int)) = false := decide_eq_false c3
        clear c3
        simp only [Option.some.injEq, Prod.mk.injEq] at H
        obtain ⟨rfl, rfl, rfl⟩ := H
        go_wp2
        go_ret3
        exact ⟨by first | rfl | (simp [errW_none, errW_some] <;> rfl) | (simp [*, errW_none, errW_some] <;> rfl), by repeat (first | (with_reducible first | exact HB.out | apply below_alloc | apply pw_below_drewN | apply below_drew1) | exact HB.out)⟩

-- NOT PRINTED: function 60 (errors_New)

/-! ### asn1_parseTagAndLength: function 56 -/
mutual
def asn1_parseTagAndLength.j0 : Nat → List Int → Int → Option Int → Int → Int → Int → Bool → Option (Int × Int × Int × Bool × Int × Option Int)
  | 0, _, _, _, _, _, _, _ => none
  | k + 1, x0, x5, x6, x122000, x122001, x122002, x122003 => if x5 ≥ (x0.length : Int) then (some (x122000, x122001, x122002, x122003, x5, some 4)) else (if 0 ≤ x5 then (if x5 < (x0.length : Int) then (if (Go.bits .and .u8 (rd x0 x5) 128) = 0 then (some (x122000, x122001, wrap64 (Go.bits .and .u8 (rd x0 x5) 127), x122003, wrap64 (x5 + 1), x6)) else (if (wrap64 (Go.bits .and .u8 (rd x0 x5) 127)) = 0 then (some (x122000, x122001, x122002, x122003, wrap64 (x5 + 1), some 5)) else (asn1_parseTagAndLength.l0 k x0 (wrap64 (x5 + 1)) x6 (wrap64 (Go.bits .and .u8 (rd x0 x5) 127)) 0 x122000 x122001 0 x122003))) else (none)) else (none))
def asn1_parseTagAndLength.l0 : Nat → List Int → Int → Option Int → Int → Int → Int → Int → Int → Bool → Option (Int × Int × Int × Bool × Int × Option Int)
  | 0, _, _, _, _, _, _, _, _, _ => none
  | k + 1, x0, x5, x6, x8, x9, x122000, x122001, x122002, x122003 => if x9 < x8 then (if x5 ≥ (x0.length : Int) then (some (x122000, x122001, x122002, x122003, x5, some 4)) else (if 0 ≤ x5 then (if x5 < (x0.length : Int) then (if x122002 ≥ 8388608 then (some (x122000, x122001, x122002, x122003, wrap64 (x5 + 1), some 7)) else (if (Go.bits .or .i64 (wrap64 (x122002 * 256)) (wrap64 (rd x0 x5))) = 0 then (some (x122000, x122001, Go.bits .or .i64 (wrap64 (x122002 * 256)) (wrap64 (rd x0 x5)), x122003, wrap64 (x5 + 1), some 8)) else (asn1_parseTagAndLength.l0 k x0 (wrap64 (x5 + 1)) x6 x8 (wrap64 (x9 + 1)) x122000 x122001 (Go.bits .or .i64 (wrap64 (x122002 * 256)) (wrap64 (rd x0 x5))) x122003))) else (none)) else (none))) else (if x122002 < 128 then (some (x122000, x122001, x122002, x122003, x5, some 6)) else (some (x122000, x122001, x122002, x122003, x5, x6)))
end
def asn1_parseTagAndLength.f (k : Nat) (l0 : List Int) (a1 : Int) : Option (Int × Int × Int × Bool × Int × Option Int) := if a1 ≥ (l0.length : Int) then (none) else (if 0 ≤ a1 then (if a1 < (l0.length : Int) then (if (wrap64 (Go.bits .and .u8 (rd l0 a1) 31)) = 31 then ((asn1_parseBase128Int.f k l0 (wrap64 (a1 + 1))).bind fun bt123 => (if bt123.2.2.isNone = true then (if bt123.1 < 31 then (some (wrap64 ((rd l0 a1) / 64), bt123.1, 0, ((Go.bits .and .u8 (rd l0 a1) 32) == 32), bt123.2.1, some 3)) else (asn1_parseTagAndLength.j0 k l0 bt123.2.1 none (wrap64 ((rd l0 a1) / 64)) bt123.1 0 ((Go.bits .and .u8 (rd l0 a1) 32) == 32))) else (some (wrap64 ((rd l0 a1) / 64), bt123.1, 0, ((Go.bits .and .u8 (rd l0 a1) 32) == 32), bt123.2.1, some (bt123.2.2.getD 0))))) else (asn1_parseTagAndLength.j0 k l0 (wrap64 (a1 + 1)) none (wrap64 ((rd l0 a1) / 64)) (wrap64 (Go.bits .and .u8 (rd l0 a1) 31)) 0 ((Go.bits .and .u8 (rd l0 a1) 32) == 32))) else (none)) else (none))
theorem asn1_parseTagAndLength.mono_l : ∀ k, (∀ y0 y1 y2 y3 y4 y5 y6, LeO (asn1_parseTagAndLength.j0 k y0 y1 y2 y3 y4 y5 y6) (asn1_parseTagAndLength.j0 (k + 1) y0 y1 y2 y3 y4 y5 y6)) ∧ (∀ y0 y1 y2 y3 y4 y5 y6 y7 y8, LeO (asn1_parseTagAndLength.l0 k y0 y1 y2 y3 y4 y5 y6 y7 y8) (asn1_parseTagAndLength.l0 (k + 1) y0 y1 y2 y3 y4 y5 y6 y7 y8))
  | 0 => ⟨fun _ _ _ _ _ _ _ r h => by simp [asn1_parseTagAndLength.j0] at h, fun _ _ _ _ _ _ _ _ _ r h => by simp [asn1_parseTagAndLength.l0] at h⟩
  | k + 1 => by
    obtain ⟨ih0, ih1⟩ := asn1_parseTagAndLength.mono_l k
    refine ⟨?_, ?_⟩
    · intro y0 y1 y2 y3 y4 y5 y6
      unfold asn1_parseTagAndLength.j0
      repeat' first
      | (with_reducible exact ih0 _ _ _ _ _ _ _)
      | (with_reducible exact ih1 _ _ _ _ _ _ _ _ _)
      | (with_reducible exact asn1_parseBase128Int.mono _ _ _)
      | (with_reducible exact LeO.refl _)
      | (with_reducible exact LeO.none _)
      | (with_reducible refine LeO.ite ?_ ?_)
      | (with_reducible refine LeO.bind ?_ (fun _ => ?_))
      | exact ih0 _ _ _ _ _ _ _
      | exact ih1 _ _ _ _ _ _ _ _ _
      | exact asn1_parseBase128Int.mono _ _ _
      | exact LeO.none _
      | refine LeO.ite ?_ ?_
      | refine LeO.bind ?_ (fun _ => ?_)
    · intro y0 y1 y2 y3 y4 y5 y6 y7 y8
      unfold asn1_parseTagAndLength.l0
      repeat' first
      | (with_reducible exact ih0 _ _ _ _ _ _ _)
      | (with_reducible exact ih1 _ _ _ _ _ _ _ _ _)
      | (with_reducible exact asn1_parseBase128Int.mono _ _ _)
      | (with_reducible exact LeO.refl _)
      | (with_reducible exact LeO.none _)
      | (with_reducible refine LeO.ite ?_ ?_)
      | (with_reducible refine LeO.bind ?_ (fun _ => ?_))
      | exact ih0 _ _ _ _ _ _ _
      | exact ih1 _ _ _ _ _ _ _ _ _
      | exact asn1_parseBase128Int.mono _ _ _
      | exact LeO.none _
      | refine LeO.ite ?_ ?_
      | refine LeO.bind ?_ (fun _ => ?_)
theorem asn1_parseTagAndLength.mono : ∀ a0 a1 k, LeO (asn1_parseTagAndLength.f k a0 a1) (asn1_parseTagAndLength.f (k + 1) a0 a1) := by
  intro a0 a1 k
  obtain ⟨ih0, ih1⟩ := asn1_parseTagAndLength.mono_l k
  unfold asn1_parseTagAndLength.f
  repeat' first
      | (with_reducible exact ih0 _ _ _ _ _ _ _)
      | (with_reducible exact ih1 _ _ _ _ _ _ _ _ _)
      | (with_reducible exact asn1_parseBase128Int.mono _ _ _)
      | (with_reducible exact LeO.refl _)
      | (with_reducible exact LeO.none _)
      | (with_reducible refine LeO.ite ?_ ?_)
      | (with_reducible refine LeO.bind ?_ (fun _ => ?_))
      | exact ih0 _ _ _ _ _ _ _
      | exact ih1 _ _ _ _ _ _ _ _ _
      | exact asn1_parseBase128Int.mono _ _ _
      | exact LeO.none _
      | refine LeO.ite ?_ ?_
      | refine LeO.bind ?_ (fun _ => ?_)
set_option maxHeartbeats 8000000 in
set_option maxRecDepth 100000 in
theorem asn1_parseTagAndLength.calls (k : Nat) (A0 : Option Addr) (c0 : Nat) (l0 : List Int) (a1 : Int) (r1 : Int) (r2 : Int) (r3 : Int) (r4 : Bool) (r5 : Int) (r6 : Option Int) (w : World) (hr0 : Kd.C (Kd.int .u8) w A0 l0.length l0) (hc0 : l0.length ≤ c0) (h : asn1_parseTagAndLength.f k l0 a1 = some (r1, r2, r3, r4, r5, r6)) :
    Calls Try.prog 56 #[.slice A0 l0.length c0, .int .i64 a1] w fun e w' => e = .returned (.tuple #[.agg #[.int .i64 r1, .int .i64 r2, .int .i64 r3, .bool r4], .int .i64 r5, errW r6]) ∧ Below w.heap.size w w' := by
  have hu82 := Try.underlying82
  have hu87 := Try.underlying87
  have hu86 := Try.underlying86
  have hu58 := Try.underlying58
  have HR0 := Aside0.mk hr0
  have HC0 := Aside0.mk hc0
  clear hr0 hc0
  have HB := Aside0.mk (Below.refl w.heap.size w)
  have H : (if a1 ≥ (l0.length : Int) then (none) else (if 0 ≤ a1 then (if a1 < (l0.length : Int) then (if (wrap64 (Go.bits .and .u8 (rd l0 a1) 31)) = 31 then ((asn1_parseBase128Int.f k l0 (wrap64 (a1 + 1))).bind fun bt123 => (if bt123.2.2.isNone = true then (if bt123.1 < 31 then (some (wrap64 ((rd l0 a1) / 64), bt123.1, 0, ((Go.bits .and .u8 (rd l0 a1) 32) == 32), bt123.2.1, some 3)) else (asn1_parseTagAndLength.j0 k l0 bt123.2.1 none (wrap64 ((rd l0 a1) / 64)) bt123.1 0 ((Go.bits .and .u8 (rd l0 a1) 32) == 32))) else (some (wrap64 ((rd l0 a1) / 64), bt123.1, 0, ((Go.bits .and .u8 (rd l0 a1) 32) == 32), bt123.2.1, some (bt123.2.2.getD 0))))) else (asn1_parseTagAndLength.j0 k l0 (wrap64 (a1 + 1)) none (wrap64 ((rd l0 a1) / 64)) (wrap64 (Go.bits .and .u8 (rd l0 a1) 31)) 0 ((Go.bits .and .u8 (rd l0 a1) 32) == 32))) else (none)) else (none))) = some (r1, r2, r3, r4, r5, r6) := h
  clear h
  by_cases c3 : a1 ≥ (l0.length : Int)
  · rw [if_pos c3] at H
    exact absurd H (by simp)
  · rw [if_neg c3] at H
    have c3b0 : decide ((l0.length : Int) ≤ a1) = false := decide_eq_false c3
    clear c3
    by_cases c4 : 0 ≤ a1
    · rw [if_pos c4] at H
      have c4b0 : decide (0 ≤ a1) = true := decide_eq_true c4
      clear c4
      by_cases c5 : a1 < (l0.length : Int)
      · rw [if_pos c5] at H
        have c5b0 : decide (a1 < (l0.length : Int)) = true := decide_eq_true c5
        clear c5
        have HC6 := Aside0.mk H
        clear H
        go_enter Try.func56, Try.ntmps56
        go_upto_if 36 with (first | ((with_reducible refine gate_dst (N := 4) rfl ?_); refine box_event ?hg (N := 4) ?hd (cs := #[.int .i64 0, .int .i64 0, .int .i64 0, .bool false]) (t := 82) ?hr ?_; (case hd => rfl); (case hg => rfl); (case hr => first | (go_simp; done) | (go_simp; rfl)); intro gb121 hg w7 hbox hb; have n0_ := Aside0.mk (below_step (by repeat (first | (with_reducible first | exact HB.out | apply below_alloc | apply pw_below_drewN | apply below_drew1) | exact HB.out)) hb); have n1_ := Aside0.mk (hbox); have n2_ := Aside0.mk ((by rw [hg]; exact (below_size (by repeat (first | (with_reducible first | exact HB.out | apply below_alloc | apply pw_below_drewN | apply below_drew1) | exact HB.out))) : w.heap.size ≤ gb121)); have n3_ := Aside0.mk ((by rw [hg]; exact (below_size (by repeat (first | (with_reducible first | exact HB.out | apply below_alloc | apply pw_below_drewN | apply below_drew1) | exact HB.out))) : w.heap.size ≤ gb121)); clear HB; have HB := n0_; have BK121 := n1_; have GW121 := n2_; have GE121 := n3_; clear n0_ n1_ n2_ n3_; clear hb hbox hg; have p122 : 0 ≤ (a1 : Int) := of_decide_eq_true (by first | (with_reducible assumption) | assumption); have q122 : a1 < (l0.length : Int) := of_decide_eq_true (by first | (with_reducible assumption) | assumption); obtain ⟨ad122, e122, hx122_0⟩ := Kd.at_int HR0.out a1 p122 q122; cases e122; replace hx122_0 := (HB.out.cell (World.block_lt_of_cell? w _ hx122_0)).trans hx122_0; replace p122 := eq_true p122; replace q122 := eq_true q122; have hcz8_0 : w7.cell? ⟨gb121, 0, none⟩ = some (.int .i64 0) := (blk_cell BK121.out 0).trans rfl; have hcz8_1 : w7.cell? ⟨gb121, 1, none⟩ = some (.int .i64 0) := (blk_cell BK121.out 1).trans rfl; have hcz8_2 : w7.cell? ⟨gb121, 2, none⟩ = some (.int .i64 0) := (blk_cell BK121.out 2).trans rfl; have hcz8_3 : w7.cell? ⟨gb121, 3, none⟩ = some (.bool false) := (blk_cell BK121.out 3).trans rfl; have hfz8_0 := blk_frozen BK121.out 0; have hfz8_1 := blk_frozen BK121.out 1; have hfz8_2 := blk_frozen BK121.out 2; have hfz8_3 := blk_frozen BK121.out 3))
        (try simp only [Act.put, List.setIfInBounds_toArray, List.set_cons_zero, List.set_cons_succ])
        go_cut [5, 6] (fun v5 v6 wc => ∃ (kq : Nat) (x5_5 : Int) (x6_5 : Option Int) (x122001_5 : Int), v5 = .int .i64 x5_5 ∧ v6 = errW x6_5 ∧ Aside0 (asn1_parseTagAndLength.j0 kq l0 x5_5 x6_5 (wrap64 ((rd l0 a1) / 64)) x122001_5 0 ((Go.bits .and .u8 (rd l0 a1) 32) == 32) = some (r1, r2, r3, r4, r5, r6)) ∧ Aside0 (kq ≤ k) ∧ Aside0 (wc.heap[gb121]? = some (.cells #[.int .i64 (wrap64 ((rd l0 a1) / 64)), .int .i64 x122001_5, .int .i64 0, .bool ((Go.bits .and .u8 (rd l0 a1) 32) == 32)] 82 (0, 0))) ∧ Aside0 (Below w.heap.size w wc))
        case first =>
          have H := HC6.out
          clear HC6
          by_cases c9 : (wrap64 (Go.bits .and .u8 (rd l0 a1) 31)) = 31
          · rw [if_pos c9] at H
            have c9b0 : ((wrap64 (Go.bits .and .u8 (rd l0 a1) 31)) == 31) = true := beq_iff_eq.mpr c9
            have c9b1 : ((wrap64 (Go.bits .and .u8 (rd l0 a1) 31)) != 31) = false := bne_eq_false_iff_eq.mpr c9
            clear c9
            (first | rw [c9b0] | (simp only [i64_w, i32_w]; rw [c9b0]) | skip)
            replace H := Option.bind_eq_some_iff.mp H
            obtain ⟨⟨t123, t124, t125⟩, A100, H⟩ := H
            replace H : (if t125.isNone = true then (if t123 < 31 then (some (wrap64 ((rd l0 a1) / 64), t123, 0, ((Go.bits .and .u8 (rd l0 a1) 32) == 32), t124, some 3)) else (asn1_parseTagAndLength.j0 k l0 t124 none (wrap64 ((rd l0 a1) / 64)) t123 0 ((Go.bits .and .u8 (rd l0 a1) 32) == 32))) else (some (wrap64 ((rd l0 a1) / 64), t123, 0, ((Go.bits .and .u8 (rd l0 a1) 32) == 32), t124, some (t125.getD 0)))) = some (r1, r2, r3, r4, r5, r6) := H
            have A10 := Aside0.mk A100
            clear A100
            rcases t125 with _ | q126
            · have H1 : (if t123 < 31 then (some (wrap64 ((rd l0 a1) / 64), t123, 0, ((Go.bits .and .u8 (rd l0 a1) 32) == 32), t124, some 3)) else (asn1_parseTagAndLength.j0 k l0 t124 none (wrap64 ((rd l0 a1) / 64)) t123 0 ((Go.bits .and .u8 (rd l0 a1) 32) == 32))) = some (r1, r2, r3, r4, r5, r6) := by rw [if_pos (show (none : Option Int).isNone = true by rfl)] at H; exact H
              clear H
              have H := H1
              clear H1
              try simp only [errW_none, errW_some]
              by_cases c11 : t123 < 31
              · rw [if_pos c11] at H
                have c11b0 : decide (t123 < 31) = true := decide_eq_true c11
                clear c11
                simp only [Option.some.injEq, Prod.mk.injEq] at H
                obtain ⟨rfl, rfl, rfl, rfl, rfl, rfl⟩ := H
                go_wp2_with (first | ((with_reducible refine gate_callee (f := 51) rfl ?_); refine goesL_ (some 40) rfl rfl Try.func51 (by kernel_rfl) rfl #[.slice (some ad122) l0.length c0, .int .i64 (wrap64 (a1 + 1))] rfl (by (try simp only [List.map_toArray, List.map_cons, List.map_nil]); first | done | rfl | (simp only [List.length_drop, List.length_take]; rfl)) ?_; (with_reducible refine (asn1_parseBase128Int.calls k _ _ l0 (wrap64 (a1 + 1)) t123 t124 none _ ?side1 ?side2 A10.out).mono ?_); (case side1 => exact Kd.C_below HR0.out (by repeat (first | (with_reducible first | exact HB.out | apply below_alloc | apply pw_below_drewN | apply below_drew1 | refine below_set ?_ GE121.out) | exact HB.out))); (case side2 => exact HC0.out); rintro e w12 ⟨rfl, hb⟩; refine ⟨_, rfl, ?_⟩; have n0_ := Aside0.mk (blk_below (g := gb121) (o := .cells #[.int .i64 (wrap64 ((rd l0 a1) / 64)), .int .i64 (wrap64 (Go.bits .and .u8 (rd l0 a1) 31)), .int .i64 0, .bool ((Go.bits .and .u8 (rd l0 a1) 32) == 32)] 82 (0, 0)) (by (with_reducible repeat (first | refine blk_drewN ?_ _ | refine blk_drew ?_ | refine blk_alloc ?_ _)); refine blk_put (cs := #[.int .i64 (wrap64 ((rd l0 a1) / 64)), .int .i64 0, .int .i64 0, .bool ((Go.bits .and .u8 (rd l0 a1) 32) == 32)]) ?_ 1 _ rfl; (with_reducible repeat (first | refine blk_drewN ?_ _ | refine blk_drew ?_ | refine blk_alloc ?_ _)); refine blk_put (cs := #[.int .i64 (wrap64 ((rd l0 a1) / 64)), .int .i64 0, .int .i64 0, .bool false]) ?_ 3 _ rfl; (with_reducible repeat (first | refine blk_drewN ?_ _ | refine blk_drew ?_ | refine blk_alloc ?_ _)); refine blk_put (cs := #[.int .i64 0, .int .i64 0, .int .i64 0, .bool false]) ?_ 0 _ rfl; (with_reducible repeat (first | refine blk_drewN ?_ _ | refine blk_drew ?_ | refine blk_alloc ?_ _)); exact BK121.out) hb); have n1_ := Aside0.mk (below_step (by repeat (first | (with_reducible first | exact HB.out | apply below_alloc | apply pw_below_drewN | apply below_drew1 | refine below_set ?_ GE121.out) | exact HB.out)) hb); clear BK121; clear HB; have BK121 := n0_; have HB := n1_; clear n0_ n1_; (try clear hb); (try clear hb2); (try clear hk); (try clear hi); (try simp only [errW_none, errW_some]); have hcz13_0 : w12.cell? ⟨gb121, 0, none⟩ = some (.int .i64 (wrap64 ((rd l0 a1) / 64))) := (blk_cell BK121.out 0).trans rfl; have hcz13_1 : w12.cell? ⟨gb121, 1, none⟩ = some (.int .i64 (wrap64 (Go.bits .and .u8 (rd l0 a1) 31))) := (blk_cell BK121.out 1).trans rfl; have hcz13_2 : w12.cell? ⟨gb121, 2, none⟩ = some (.int .i64 0) := (blk_cell BK121.out 2).trans rfl; have hcz13_3 : w12.cell? ⟨gb121, 3, none⟩ = some (.bool ((Go.bits .and .u8 (rd l0 a1) 32) == 32)) := (blk_cell BK121.out 3).trans rfl; have hfz13_0 := blk_frozen BK121.out 0; have hfz13_1 := blk_frozen BK121.out 1; have hfz13_2 := blk_frozen BK121.out 2; have hfz13_3 := blk_frozen BK121.out 3))
                refine bodyPost_ret (results_ctt rfl _ _ gb121 82 #[.int .i64 (wrap64 ((rd l0 a1) / 64)), .int .i64 t123, .int .i64 0, .bool ((Go.bits .and .u8 (rd l0 a1) 32) == 32)] (0, 0) _ rfl (by (with_reducible repeat (first | refine blk_drewN ?_ _ | refine blk_drew ?_ | refine blk_alloc ?_ _)); refine blk_put (cs := #[.int .i64 (wrap64 ((rd l0 a1) / 64)), .int .i64 (wrap64 (Go.bits .and .u8 (rd l0 a1) 31)), .int .i64 0, .bool ((Go.bits .and .u8 (rd l0 a1) 32) == 32)]) ?_ 1 _ rfl; (with_reducible repeat (first | refine blk_drewN ?_ _ | refine blk_drew ?_ | refine blk_alloc ?_ _)); exact BK121.out) Try.underlying82 rfl (by kernel_rfl)) rfl ?_
                exact ⟨by first | rfl | (simp [errW_none, errW_some] <;> rfl) | (simp [*, errW_none, errW_some] <;> rfl), by repeat (first | (with_reducible first | exact HB.out | apply below_alloc | apply pw_below_drewN | apply below_drew1 | refine below_set ?_ GE121.out) | exact HB.out)⟩
              · rw [if_neg c11] at H
                have c11b0 : decide (t123 < 31) = false := decide_eq_false c11
                clear c11
                have H' := Aside0.mk H
                clear H
                go_wp2_with (first | ((with_reducible refine gate_callee (f := 51) rfl ?_); refine goesL_ (some 40) rfl rfl Try.func51 (by kernel_rfl) rfl #[.slice (some ad122) l0.length c0, .int .i64 (wrap64 (a1 + 1))] rfl (by (try simp only [List.map_toArray, List.map_cons, List.map_nil]); first | done | rfl | (simp only [List.length_drop, List.length_take]; rfl)) ?_; (with_reducible refine (asn1_parseBase128Int.calls k _ _ l0 (wrap64 (a1 + 1)) t123 t124 none _ ?side1 ?side2 A10.out).mono ?_); (case side1 => exact Kd.C_below HR0.out (by repeat (first | (with_reducible first | exact HB.out | apply below_alloc | apply pw_below_drewN | apply below_drew1 | refine below_set ?_ GE121.out) | exact HB.out))); (case side2 => exact HC0.out); rintro e w14 ⟨rfl, hb⟩; refine ⟨_, rfl, ?_⟩; have n0_ := Aside0.mk (blk_below (g := gb121) (o := .cells #[.int .i64 (wrap64 ((rd l0 a1) / 64)), .int .i64 (wrap64 (Go.bits .and .u8 (rd l0 a1) 31)), .int .i64 0, .bool ((Go.bits .and .u8 (rd l0 a1) 32) == 32)] 82 (0, 0)) (by (with_reducible repeat (first | refine blk_drewN ?_ _ | refine blk_drew ?_ | refine blk_alloc ?_ _)); refine blk_put (cs := #[.int .i64 (wrap64 ((rd l0 a1) / 64)), .int .i64 0, .int .i64 0, .bool ((Go.bits .and .u8 (rd l0 a1) 32) == 32)]) ?_ 1 _ rfl; (with_reducible repeat (first | refine blk_drewN ?_ _ | refine blk_drew ?_ | refine blk_alloc ?_ _)); refine blk_put (cs := #[.int .i64 (wrap64 ((rd l0 a1) / 64)), .int .i64 0, .int .i64 0, .bool false]) ?_ 3 _ rfl; (with_reducible repeat (first | refine blk_drewN ?_ _ | refine blk_drew ?_ | refine blk_alloc ?_ _)); refine blk_put (cs := #[.int .i64 0, .int .i64 0, .int .i64 0, .bool false]) ?_ 0 _ rfl; (with_reducible repeat (first | refine blk_drewN ?_ _ | refine blk_drew ?_ | refine blk_alloc ?_ _)); exact BK121.out) hb); have n1_ := Aside0.mk (below_step (by repeat (first | (with_reducible first | exact HB.out | apply below_alloc | apply pw_below_drewN | apply below_drew1 | refine below_set ?_ GE121.out) | exact HB.out)) hb); clear BK121; clear HB; have BK121 := n0_; have HB := n1_; clear n0_ n1_; (try clear hb); (try clear hb2); (try clear hk); (try clear hi); (try simp only [errW_none, errW_some]); have hcz15_0 : w14.cell? ⟨gb121, 0, none⟩ = some (.int .i64 (wrap64 ((rd l0 a1) / 64))) := (blk_cell BK121.out 0).trans rfl; have hcz15_1 : w14.cell? ⟨gb121, 1, none⟩ = some (.int .i64 (wrap64 (Go.bits .and .u8 (rd l0 a1) 31))) := (blk_cell BK121.out 1).trans rfl; have hcz15_2 : w14.cell? ⟨gb121, 2, none⟩ = some (.int .i64 0) := (blk_cell BK121.out 2).trans rfl; have hcz15_3 : w14.cell? ⟨gb121, 3, none⟩ = some (.bool ((Go.bits .and .u8 (rd l0 a1) 32) == 32)) := (blk_cell BK121.out 3).trans rfl; have hfz15_0 := blk_frozen BK121.out 0; have hfz15_1 := blk_frozen BK121.out 1; have hfz15_2 := blk_frozen BK121.out 2; have hfz15_3 := blk_frozen BK121.out 3))
                go_meet
                case rel => exact ⟨_, (t124), (none), (t123), (by first | rfl | (simp; done) | (simp [*]; done)), (by first | rfl | (simp; done) | (simp [*]; done)), H', ⟨by first | omega | exact Nat.le_refl _⟩, ⟨by (with_reducible repeat (first | refine blk_drewN ?_ _ | refine blk_drew ?_ | refine blk_alloc ?_ _)); refine blk_put (cs := #[.int .i64 (wrap64 ((rd l0 a1) / 64)), .int .i64 (wrap64 (Go.bits .and .u8 (rd l0 a1) 31)), .int .i64 0, .bool ((Go.bits .and .u8 (rd l0 a1) 32) == 32)]) ?_ 1 _ rfl; (with_reducible repeat (first | refine blk_drewN ?_ _ | refine blk_drew ?_ | refine blk_alloc ?_ _)); exact BK121.out⟩, ⟨by repeat (first | (with_reducible first | exact HB.out | apply below_alloc | apply pw_below_drewN | apply below_drew1 | refine below_set ?_ GE121.out) | exact HB.out)⟩⟩
            · have H1 : (some (wrap64 ((rd l0 a1) / 64), t123, 0, ((Go.bits .and .u8 (rd l0 a1) 32) == 32), t124, some q126)) = some (r1, r2, r3, r4, r5, r6) := by rw [if_neg (show ¬ (some q126).isNone = true by simp)] at H; exact H
              clear H
              have H := H1
              clear H1
              try simp only [errW_none, errW_some]
              simp only [Option.some.injEq, Prod.mk.injEq] at H
              obtain ⟨rfl, rfl, rfl, rfl, rfl, rfl⟩ := H
              go_wp2_with (first | ((with_reducible refine gate_callee (f := 51) rfl ?_); refine goesL_ (some 40) rfl rfl Try.func51 (by kernel_rfl) rfl #[.slice (some ad122) l0.length c0, .int .i64 (wrap64 (a1 + 1))] rfl (by (try simp only [List.map_toArray, List.map_cons, List.map_nil]); first | done | rfl | (simp only [List.length_drop, List.length_take]; rfl)) ?_; (with_reducible refine (asn1_parseBase128Int.calls k _ _ l0 (wrap64 (a1 + 1)) t123 t124 (some q126) _ ?side1 ?side2 A10.out).mono ?_); (case side1 => exact Kd.C_below HR0.out (by repeat (first | (with_reducible first | exact HB.out | apply below_alloc | apply pw_below_drewN | apply below_drew1 | refine below_set ?_ GE121.out) | exact HB.out))); (case side2 => exact HC0.out); rintro e w16 ⟨rfl, hb⟩; refine ⟨_, rfl, ?_⟩; have n0_ := Aside0.mk (blk_below (g := gb121) (o := .cells #[.int .i64 (wrap64 ((rd l0 a1) / 64)), .int .i64 (wrap64 (Go.bits .and .u8 (rd l0 a1) 31)), .int .i64 0, .bool ((Go.bits .and .u8 (rd l0 a1) 32) == 32)] 82 (0, 0)) (by (with_reducible repeat (first | refine blk_drewN ?_ _ | refine blk_drew ?_ | refine blk_alloc ?_ _)); refine blk_put (cs := #[.int .i64 (wrap64 ((rd l0 a1) / 64)), .int .i64 0, .int .i64 0, .bool ((Go.bits .and .u8 (rd l0 a1) 32) == 32)]) ?_ 1 _ rfl; (with_reducible repeat (first | refine blk_drewN ?_ _ | refine blk_drew ?_ | refine blk_alloc ?_ _)); refine blk_put (cs := #[.int .i64 (wrap64 ((rd l0 a1) / 64)), .int .i64 0, .int .i64 0, .bool false]) ?_ 3 _ rfl; (with_reducible repeat (first | refine blk_drewN ?_ _ | refine blk_drew ?_ | refine blk_alloc ?_ _)); refine blk_put (cs := #[.int .i64 0, .int .i64 0, .int .i64 0, .bool false]) ?_ 0 _ rfl; (with_reducible repeat (first | refine blk_drewN ?_ _ | refine blk_drew ?_ | refine blk_alloc ?_ _)); exact BK121.out) hb); have n1_ := Aside0.mk (below_step (by repeat (first | (with_reducible first | exact HB.out | apply below_alloc | apply pw_below_drewN | apply below_drew1 | refine below_set ?_ GE121.out) | exact HB.out)) hb); clear BK121; clear HB; have BK121 := n0_; have HB := n1_; clear n0_ n1_; (try clear hb); (try clear hb2); (try clear hk); (try clear hi); (try simp only [errW_none, errW_some]); have hcz17_0 : w16.cell? ⟨gb121, 0, none⟩ = some (.int .i64 (wrap64 ((rd l0 a1) / 64))) := (blk_cell BK121.out 0).trans rfl; have hcz17_1 : w16.cell? ⟨gb121, 1, none⟩ = some (.int .i64 (wrap64 (Go.bits .and .u8 (rd l0 a1) 31))) := (blk_cell BK121.out 1).trans rfl; have hcz17_2 : w16.cell? ⟨gb121, 2, none⟩ = some (.int .i64 0) := (blk_cell BK121.out 2).trans rfl; have hcz17_3 : w16.cell? ⟨gb121, 3, none⟩ = some (.bool ((Go.bits .and .u8 (rd l0 a1) 32) == 32)) := (blk_cell BK121.out 3).trans rfl; have hfz17_0 := blk_frozen BK121.out 0; have hfz17_1 := blk_frozen BK121.out 1; have hfz17_2 := blk_frozen BK121.out 2; have hfz17_3 := blk_frozen BK121.out 3))
              refine bodyPost_ret (results_ctt rfl _ _ gb121 82 #[.int .i64 (wrap64 ((rd l0 a1) / 64)), .int .i64 t123, .int .i64 0, .bool ((Go.bits .and .u8 (rd l0 a1) 32) == 32)] (0, 0) _ rfl (by (with_reducible repeat (first | refine blk_drewN ?_ _ | refine blk_drew ?_ | refine blk_alloc ?_ _)); refine blk_put (cs := #[.int .i64 (wrap64 ((rd l0 a1) / 64)), .int .i64 (wrap64 (Go.bits .and .u8 (rd l0 a1) 31)), .int .i64 0, .bool ((Go.bits .and .u8 (rd l0 a1) 32) == 32)]) ?_ 1 _ rfl; (with_reducible repeat (first | refine blk_drewN ?_ _ | refine blk_drew ?_ | refine blk_alloc ?_ _)); exact BK121.out) Try.underlying82 rfl (by kernel_rfl)) rfl ?_
              exact ⟨by first | rfl | (simp [errW_none, errW_some] <;> rfl) | (simp [*, errW_none, errW_some] <;> rfl), by repeat (first | (with_reducible first | exact HB.out | apply below_alloc | apply pw_below_drewN | apply below_drew1 | refine below_set ?_ GE121.out) | exact HB.out)⟩
          · rw [if_neg c9] at H
            have c9b0 : ((wrap64 (Go.bits .and .u8 (rd l0 a1) 31)) == 31) = false := beq_eq_false_iff_ne.mpr c9
            have c9b1 : ((wrap64 (Go.bits .and .u8 (rd l0 a1) 31)) != 31) = true := bne_iff_ne.mpr c9
            (first | rw [c9b0] | (simp only [i64_w, i32_w]; rw [c9b0]) | skip)
            have H' := Aside0.mk H
            clear H
            go_wp2
            go_meet
            case rel => exact ⟨_, (wrap64 (a1 + 1)), (none), (wrap64 (Go.bits .and .u8 (rd l0 a1) 31)), (by first | rfl | (simp; done) | (simp [*]; done)), (by first | rfl | (simp; done) | (simp [*]; done)), H', ⟨by first | omega | exact Nat.le_refl _⟩, ⟨by (with_reducible repeat (first | refine blk_drewN ?_ _ | refine blk_drew ?_ | refine blk_alloc ?_ _)); refine blk_put (cs := #[.int .i64 (wrap64 ((rd l0 a1) / 64)), .int .i64 0, .int .i64 0, .bool ((Go.bits .and .u8 (rd l0 a1) 32) == 32)]) ?_ 1 _ rfl; (with_reducible repeat (first | refine blk_drewN ?_ _ | refine blk_drew ?_ | refine blk_alloc ?_ _)); refine blk_put (cs := #[.int .i64 (wrap64 ((rd l0 a1) / 64)), .int .i64 0, .int .i64 0, .bool false]) ?_ 3 _ rfl; (with_reducible repeat (first | refine blk_drewN ?_ _ | refine blk_drew ?_ | refine blk_alloc ?_ _)); refine blk_put (cs := #[.int .i64 0, .int .i64 0, .int .i64 0, .bool false]) ?_ 0 _ rfl; (with_reducible repeat (first | refine blk_drewN ?_ _ | refine blk_drew ?_ | refine blk_alloc ?_ _)); exact BK121.out⟩, ⟨by repeat (first | (with_reducible first | exact HB.out | apply below_alloc | apply pw_below_drewN | apply below_drew1 | refine below_set ?_ GE121.out) | exact HB.out)⟩⟩
        case rest =>
          clear HC6
          try clear c1
          try clear p1
          try clear q1
          try clear hx1
          try clear p2
          try clear c3
          try clear c3b0
          try clear c4
          try clear c4b0
          try clear c5
          try clear c5b0
          try clear p6
          try clear c9
          try clear c9b0
          try clear c9b1
          try clear c11
          try clear c11b0
          try clear p12
          try clear q12
          try clear hx12
          try clear hcz13_0
          try clear hcz13_1
          try clear hcz13_2
          try clear hcz13_3
          try clear hcz15_0
          try clear hcz15_1
          try clear hcz15_2
          try clear hcz15_3
          try clear hcz17_0
          try clear hcz17_1
          try clear hcz17_2
          try clear hcz17_3
          try clear hcz8_0
          try clear hcz8_1
          try clear hcz8_2
          try clear hcz8_3
          try clear hfz13_0
          try clear hfz13_1
          try clear hfz13_2
          try clear hfz13_3
          try clear hfz15_0
          try clear hfz15_1
          try clear hfz15_2
          try clear hfz15_3
          try clear hfz17_0
          try clear hfz17_1
          try clear hfz17_2
          try clear hfz17_3
          try clear hfz8_0
          try clear hfz8_1
          try clear hfz8_2
          try clear hfz8_3
          try clear hx122_0
          try clear p122
          try clear q122
          try clear q126
          obtain ⟨kq, x5_5, x6_5, x122001_5, rfl, rfl, HA, HJ5, BK121, HB⟩ := hcut
          cases kq with
          | zero => exact absurd HA.out (by simp [asn1_parseTagAndLength.j0])
          | succ kj5 =>
            have H := HA.out
            clear HA
            simp only [asn1_parseTagAndLength.j0] at H
            by_cases c18 : x5_5 ≥ (l0.length : Int)
            · rw [if_pos c18] at H
              have c18b0 : decide ((l0.length : Int) ≤ x5_5) = true := decide_eq_true c18
              clear c18
              simp only [Option.some.injEq, Prod.mk.injEq] at H
              obtain ⟨rfl, rfl, rfl, rfl, rfl, rfl⟩ := H
              go_wp2
              refine bodyPost_ret (results_ctt rfl _ _ gb121 82 #[.int .i64 (wrap64 ((rd l0 a1) / 64)), .int .i64 x122001_5, .int .i64 0, .bool ((Go.bits .and .u8 (rd l0 a1) 32) == 32)] (0, 0) _ rfl (by (with_reducible repeat (first | refine blk_drewN ?_ _ | refine blk_drew ?_ | refine blk_alloc ?_ _)); exact BK121.out) Try.underlying82 rfl (by kernel_rfl)) rfl ?_
              exact ⟨by first | rfl | (simp [errW_none, errW_some] <;> rfl) | (simp [*, errW_none, errW_some] <;> rfl), by repeat (first | (with_reducible first | exact HB.out | apply below_alloc | apply pw_below_drewN | apply below_drew1 | refine below_set ?_ GE121.out) | exact HB.out)⟩
            · rw [if_neg c18] at H
              have c18b0 : decide ((l0.length : Int) ≤ x5_5) = false := decide_eq_false c18
              clear c18
              by_cases c19 : 0 ≤ x5_5
              · rw [if_pos c19] at H
                have c19b0 : decide (0 ≤ x5_5) = true := decide_eq_true c19
                clear c19
                by_cases c20 : x5_5 < (l0.length : Int)
                · rw [if_pos c20] at H
                  have c20b0 : decide (x5_5 < (l0.length : Int)) = true := decide_eq_true c20
                  clear c20
                  by_cases c21 : (Go.bits .and .u8 (rd l0 x5_5) 128) = 0
                  · rw [if_pos c21] at H
                    have c21b0 : ((Go.bits .and .u8 (rd l0 x5_5) 128) == 0) = true := beq_iff_eq.mpr c21
                    have c21b1 : ((Go.bits .and .u8 (rd l0 x5_5) 128) != 0) = false := bne_eq_false_iff_eq.mpr c21
                    clear c21
                    simp only [Option.some.injEq, Prod.mk.injEq] at H
                    obtain ⟨rfl, rfl, rfl, rfl, rfl, rfl⟩ := H
                    have p127 : 0 ≤ (x5_5 : Int) := of_decide_eq_true (by first | (with_reducible assumption) | assumption)
                    have q127 : x5_5 < (l0.length : Int) := of_decide_eq_true (by first | (with_reducible assumption) | assumption)
                    obtain ⟨ad127, e127, hx127_0⟩ := Kd.at_int HR0.out x5_5 p127 q127
                    obtain rfl : ad122 = ad127 := (by injection e127)
                    replace hx127_0 := (HB.out.cell (World.block_lt_of_cell? w _ hx127_0)).trans hx127_0
                    replace p127 := eq_true p127
                    replace q127 := eq_true q127
                    have hcz22_0 : wc.cell? ⟨gb121, 0, none⟩ = some (.int .i64 (wrap64 ((rd l0 a1) / 64))) := (blk_cell BK121.out 0).trans rfl
                    have hcz22_1 : wc.cell? ⟨gb121, 1, none⟩ = some (.int .i64 x122001_5) := (blk_cell BK121.out 1).trans rfl
                    have hcz22_2 : wc.cell? ⟨gb121, 2, none⟩ = some (.int .i64 0) := (blk_cell BK121.out 2).trans rfl
                    have hcz22_3 : wc.cell? ⟨gb121, 3, none⟩ = some (.bool ((Go.bits .and .u8 (rd l0 a1) 32) == 32)) := (blk_cell BK121.out 3).trans rfl
                    have hfz22_0 := blk_frozen BK121.out 0
                    have hfz22_1 := blk_frozen BK121.out 1
                    have hfz22_2 := blk_frozen BK121.out 2
                    have hfz22_3 := blk_frozen BK121.out 3
                    go_wp2
                    refine bodyPost_ret (results_ctt rfl _ _ gb121 82 #[.int .i64 (wrap64 ((rd l0 a1) / 64)), .int .i64 x122001_5, .int .i64 (wrap64 (Go.bits .and .u8 (rd l0 x5_5) 127)), .bool ((Go.bits .and .u8 (rd l0 a1) 32) == 32)] (0, 0) _ rfl (by (with_reducible repeat (first | refine blk_drewN ?_ _ | refine blk_drew ?_ | refine blk_alloc ?_ _)); refine blk_put (cs := #[.int .i64 (wrap64 ((rd l0 a1) / 64)), .int .i64 x122001_5, .int .i64 0, .bool ((Go.bits .and .u8 (rd l0 a1) 32) == 32)]) ?_ 2 _ rfl; (with_reducible repeat (first | refine blk_drewN ?_ _ | refine blk_drew ?_ | refine blk_alloc ?_ _)); exact BK121.out) Try.underlying82 rfl (by kernel_rfl)) rfl ?_
                    exact ⟨by first | rfl | (simp [errW_none, errW_some] <;> rfl) | (simp [*, errW_none, errW_some] <;> rfl), by repeat (first | (with_reducible first | exact HB.out | apply below_alloc | apply pw_below_drewN | apply below_drew1 | refine below_set ?_ GE121.out) | exact HB.out)⟩
                  · rw [if_neg c21] at H
                    have c21b0 : ((Go.bits .and .u8 (rd l0 x5_5) 128) == 0) = false := beq_eq_false_iff_ne.mpr c21
                    have c21b1 : ((Go.bits .and .u8 (rd l0 x5_5) 128) != 0) = true := bne_iff_ne.mpr c21
                    by_cases c23 : (wrap64 (Go.bits .and .u8 (rd l0 x5_5) 127)) = 0
                    · rw [if_pos c23] at H
                      have c23b0 : ((wrap64 (Go.bits .and .u8 (rd l0 x5_5) 127)) == 0) = true := beq_iff_eq.mpr c23
                      have c23b1 : ((wrap64 (Go.bits .and .u8 (rd l0 x5_5) 127)) != 0) = false := bne_eq_false_iff_eq.mpr c23
                      clear c23
                      simp only [Option.some.injEq, Prod.mk.injEq] at H
                      obtain ⟨rfl, rfl, rfl, rfl, rfl, rfl⟩ := H
                      have p127 : 0 ≤ (x5_5 : Int) := of_decide_eq_true (by first | (with_reducible assumption) | assumption)
                      have q127 : x5_5 < (l0.length : Int) := of_decide_eq_true (by first | (with_reducible assumption) | assumption)
                      obtain ⟨ad127, e127, hx127_0⟩ := Kd.at_int HR0.out x5_5 p127 q127
                      obtain rfl : ad122 = ad127 := (by injection e127)
                      replace hx127_0 := (HB.out.cell (World.block_lt_of_cell? w _ hx127_0)).trans hx127_0
                      replace p127 := eq_true p127
                      replace q127 := eq_true q127
                      go_wp2
                      refine bodyPost_ret (results_ctt rfl _ _ gb121 82 #[.int .i64 (wrap64 ((rd l0 a1) / 64)), .int .i64 x122001_5, .int .i64 0, .bool ((Go.bits .and .u8 (rd l0 a1) 32) == 32)] (0, 0) _ rfl (by (with_reducible repeat (first | refine blk_drewN ?_ _ | refine blk_drew ?_ | refine blk_alloc ?_ _)); exact BK121.out) Try.underlying82 rfl (by kernel_rfl)) rfl ?_
                      exact ⟨by first | rfl | (simp [errW_none, errW_some] <;> rfl) | (simp [*, errW_none, errW_some] <;> rfl), by repeat (first | (with_reducible first | exact HB.out | apply below_alloc | apply pw_below_drewN | apply below_drew1 | refine below_set ?_ GE121.out) | exact HB.out)⟩
                    · rw [if_neg c23] at H
                      have c23b0 : ((wrap64 (Go.bits .and .u8 (rd l0 x5_5) 127)) == 0) = false := beq_eq_false_iff_ne.mpr c23
                      have c23b1 : ((wrap64 (Go.bits .and .u8 (rd l0 x5_5) 127)) != 0) = true := bne_iff_ne.mpr c23
                      have H' := Aside0.mk H
                      clear H
                      have p127 : 0 ≤ (x5_5 : Int) := of_decide_eq_true (by first | (with_reducible assumption) | assumption)
                      have q127 : x5_5 < (l0.length : Int) := of_decide_eq_true (by first | (with_reducible assumption) | assumption)
                      obtain ⟨ad127, e127, hx127_0⟩ := Kd.at_int HR0.out x5_5 p127 q127
                      obtain rfl : ad122 = ad127 := (by injection e127)
                      replace hx127_0 := (HB.out.cell (World.block_lt_of_cell? w _ hx127_0)).trans hx127_0
                      replace p127 := eq_true p127
                      replace q127 := eq_true q127
                      have hcz24_0 : wc.cell? ⟨gb121, 0, none⟩ = some (.int .i64 (wrap64 ((rd l0 a1) / 64))) := (blk_cell BK121.out 0).trans rfl
                      have hcz24_1 : wc.cell? ⟨gb121, 1, none⟩ = some (.int .i64 x122001_5) := (blk_cell BK121.out 1).trans rfl
                      have hcz24_2 : wc.cell? ⟨gb121, 2, none⟩ = some (.int .i64 0) := (blk_cell BK121.out 2).trans rfl
                      have hcz24_3 : wc.cell? ⟨gb121, 3, none⟩ = some (.bool ((Go.bits .and .u8 (rd l0 a1) 32) == 32)) := (blk_cell BK121.out 3).trans rfl
                      have hfz24_0 := blk_frozen BK121.out 0
                      have hfz24_1 := blk_frozen BK121.out 1
                      have hfz24_2 := blk_frozen BK121.out 2
                      have hfz24_3 := blk_frozen BK121.out 3
                      go_wp2
                      go_loopg [5, 6, 9] kj5 (fun kq v5 v6 v9 w' => ∃ (x5_2 : Int) (x6_2 : Option Int) (x9_2 : Int) (x122002_2 : Int), v5 = .int .i64 x5_2 ∧ v6 = errW x6_2 ∧ v9 = .int .i64 x9_2 ∧ Aside0 (asn1_parseTagAndLength.l0 kq l0 x5_2 x6_2 (wrap64 (Go.bits .and .u8 (rd l0 x5_5) 127)) x9_2 (wrap64 ((rd l0 a1) / 64)) x122001_5 x122002_2 ((Go.bits .and .u8 (rd l0 a1) 32) == 32) = some (r1, r2, r3, r4, r5, r6)) ∧ Aside0 (kq ≤ kj5) ∧ Aside0 (w'.heap[gb121]? = some (.cells #[.int .i64 (wrap64 ((rd l0 a1) / 64)), .int .i64 x122001_5, .int .i64 x122002_2, .bool ((Go.bits .and .u8 (rd l0 a1) 32) == 32)] 82 (0, 0))) ∧ Aside0 (Below w.heap.size w w'))
                      case atStart => exact ⟨(wrap64 (x5_5 + 1)), (x6_5), (0), (0), (by first | rfl | (simp; done) | (simp [*]; done)), (by first | rfl | (simp; done) | (simp [*]; done)), (by first | rfl | (simp; done) | (simp [*]; done)), H', ⟨Nat.le_refl _⟩, ⟨by (with_reducible repeat (first | refine blk_drewN ?_ _ | refine blk_drew ?_ | refine blk_alloc ?_ _)); refine blk_put (cs := #[.int .i64 (wrap64 ((rd l0 a1) / 64)), .int .i64 x122001_5, .int .i64 0, .bool ((Go.bits .and .u8 (rd l0 a1) 32) == 32)]) ?_ 2 _ rfl; (with_reducible repeat (first | refine blk_drewN ?_ _ | refine blk_drew ?_ | refine blk_alloc ?_ _)); exact BK121.out⟩, ⟨by repeat (first | (with_reducible first | exact HB.out | apply below_alloc | apply pw_below_drewN | apply below_drew1 | refine below_set ?_ GE121.out) | exact HB.out)⟩⟩
                      case round =>
                        clear H'
                        try clear c1
                        try clear p1
                        try clear q1
                        try clear hx1
                        try clear c2
                        try clear p2
                        try clear c3
                        try clear c3b0
                        try clear c4
                        try clear c4b0
                        try clear c5
                        try clear c5b0
                        try clear p6
                        try clear c9
                        try clear c9b0
                        try clear c9b1
                        try clear c11
                        try clear c11b0
                        try clear p12
                        try clear q12
                        try clear hx12
                        try clear c18
                        try clear c18b0
                        try clear c19
                        try clear c19b0
                        try clear c20
                        try clear c20b0
                        try clear c21
                        try clear c21b0
                        try clear c21b1
                        try clear c23
                        try clear c23b0
                        try clear c23b1
                        try clear hcz13_0
                        try clear hcz13_1
                        try clear hcz13_2
                        try clear hcz13_3
                        try clear hcz15_0
                        try clear hcz15_1
                        try clear hcz15_2
                        try clear hcz15_3
                        try clear hcz17_0
                        try clear hcz17_1
                        try clear hcz17_2
                        try clear hcz17_3
                        try clear hcz22_0
                        try clear hcz22_1
                        try clear hcz22_2
                        try clear hcz22_3
                        try clear hcz24_0
                        try clear hcz24_1
                        try clear hcz24_2
                        try clear hcz24_3
                        try clear hcz8_0
                        try clear hcz8_1
                        try clear hcz8_2
                        try clear hcz8_3
                        try clear hfz13_0
                        try clear hfz13_1
                        try clear hfz13_2
                        try clear hfz13_3
                        try clear hfz15_0
                        try clear hfz15_1
                        try clear hfz15_2
                        try clear hfz15_3
                        try clear hfz17_0
                        try clear hfz17_1
                        try clear hfz17_2
                        try clear hfz17_3
                        try clear hfz22_0
                        try clear hfz22_1
                        try clear hfz22_2
                        try clear hfz22_3
                        try clear hfz24_0
                        try clear hfz24_1
                        try clear hfz24_2
                        try clear hfz24_3
                        try clear hfz8_0
                        try clear hfz8_1
                        try clear hfz8_2
                        try clear hfz8_3
                        try clear hx122_0
                        try clear hx127_0
                        try clear p1
                        try clear p12
                        try clear p122
                        try clear p127
                        try clear p2
                        try clear p6
                        try clear q1
                        try clear q12
                        try clear q122
                        try clear q126
                        try clear q127
                        obtain ⟨x5_2, x6_2, x9_2, x122002_2, rfl, rfl, rfl, HA, HK2, BK121, HB⟩ := hrel
                        cases gk with
                        | zero => exact absurd HA.out (by simp [asn1_parseTagAndLength.l0])
                        | succ k2 =>
                          have H := HA.out
                          clear HA
                          simp only [asn1_parseTagAndLength.l0] at H
                          by_cases c25 : x9_2 < (wrap64 (Go.bits .and .u8 (rd l0 x5_5) 127))
                          · rw [if_pos c25] at H
                            have c25b0 : decide (x9_2 < (wrap64 (Go.bits .and .u8 (rd l0 x5_5) 127))) = true := decide_eq_true c25
                            clear c25
                            by_cases c26 : x5_2 ≥ (l0.length : Int)
                            · rw [if_pos c26] at H
                              have c26b0 : decide ((l0.length : Int) ≤ x5_2) = true := decide_eq_true c26
                              clear c26
                              simp only [Option.some.injEq, Prod.mk.injEq] at H
                              obtain ⟨rfl, rfl, rfl, rfl, rfl, rfl⟩ := H
                              go_wp2
                              refine bodyPost_ret (results_ctt rfl _ _ gb121 82 #[.int .i64 (wrap64 ((rd l0 a1) / 64)), .int .i64 x122001_5, .int .i64 x122002_2, .bool ((Go.bits .and .u8 (rd l0 a1) 32) == 32)] (0, 0) _ rfl (by (with_reducible repeat (first | refine blk_drewN ?_ _ | refine blk_drew ?_ | refine blk_alloc ?_ _)); exact BK121.out) Try.underlying82 rfl (by kernel_rfl)) rfl ?_
                              exact ⟨by first | rfl | (simp [errW_none, errW_some] <;> rfl) | (simp [*, errW_none, errW_some] <;> rfl), by repeat (first | (with_reducible first | exact HB.out | apply below_alloc | apply pw_below_drewN | apply below_drew1 | refine below_set ?_ GE121.out) | exact HB.out)⟩
                            · rw [if_neg c26] at H
                              have c26b0 : decide ((l0.length : Int) ≤ x5_2) = false := decide_eq_false c26
                              clear c26
                              by_cases c27 : 0 ≤ x5_2
                              · rw [if_pos c27] at H
                                have c27b0 : decide (0 ≤ x5_2) = true := decide_eq_true c27
                                clear c27
                                by_cases c28 : x5_2 < (l0.length : Int)
                                · rw [if_pos c28] at H
                                  have c28b0 : decide (x5_2 < (l0.length : Int)) = true := decide_eq_true c28
                                  clear c28
                                  by_cases c29 : x122002_2 ≥ 8388608
                                  · rw [if_pos c29] at H
                                    have c29b0 : decide (8388608 ≤ x122002_2) = true := decide_eq_true c29
                                    clear c29
                                    simp only [Option.some.injEq, Prod.mk.injEq] at H
                                    obtain ⟨rfl, rfl, rfl, rfl, rfl, rfl⟩ := H
                                    have p128 : 0 ≤ (x5_2 : Int) := of_decide_eq_true (by first | (with_reducible assumption) | assumption)
                                    have q128 : x5_2 < (l0.length : Int) := of_decide_eq_true (by first | (with_reducible assumption) | assumption)
                                    obtain ⟨ad128, e128, hx128_0⟩ := Kd.at_int HR0.out x5_2 p128 q128
                                    obtain rfl : ad122 = ad128 := (by injection e128)
                                    replace hx128_0 := (HB.out.cell (World.block_lt_of_cell? w _ hx128_0)).trans hx128_0
                                    replace p128 := eq_true p128
                                    replace q128 := eq_true q128
                                    have hcz30_0 : wr.cell? ⟨gb121, 0, none⟩ = some (.int .i64 (wrap64 ((rd l0 a1) / 64))) := (blk_cell BK121.out 0).trans rfl
                                    have hcz30_1 : wr.cell? ⟨gb121, 1, none⟩ = some (.int .i64 x122001_5) := (blk_cell BK121.out 1).trans rfl
                                    have hcz30_2 : wr.cell? ⟨gb121, 2, none⟩ = some (.int .i64 x122002_2) := (blk_cell BK121.out 2).trans rfl
                                    have hcz30_3 : wr.cell? ⟨gb121, 3, none⟩ = some (.bool ((Go.bits .and .u8 (rd l0 a1) 32) == 32)) := (blk_cell BK121.out 3).trans rfl
                                    have hfz30_0 := blk_frozen BK121.out 0
                                    have hfz30_1 := blk_frozen BK121.out 1
                                    have hfz30_2 := blk_frozen BK121.out 2
                                    have hfz30_3 := blk_frozen BK121.out 3
                                    go_wp2
                                    refine bodyPost_ret (results_ctt rfl _ _ gb121 82 #[.int .i64 (wrap64 ((rd l0 a1) / 64)), .int .i64 x122001_5, .int .i64 x122002_2, .bool ((Go.bits .and .u8 (rd l0 a1) 32) == 32)] (0, 0) _ rfl (by (with_reducible repeat (first | refine blk_drewN ?_ _ | refine blk_drew ?_ | refine blk_alloc ?_ _)); exact BK121.out) Try.underlying82 rfl (by kernel_rfl)) rfl ?_
                                    exact ⟨by first | rfl | (simp [errW_none, errW_some] <;> rfl) | (simp [*, errW_none, errW_some] <;> rfl), by repeat (first | (with_reducible first | exact HB.out | apply below_alloc | apply pw_below_drewN | apply below_drew1 | refine below_set ?_ GE121.out) | exact HB.out)⟩
                                  · rw [if_neg c29] at H
                                    have c29b0 : decide (8388608 ≤ x122002_2) = false := decide_eq_false c29
                                    clear c29
                                    by_cases c31 : (Go.bits .or .i64 (wrap64 (x122002_2 * 256)) (wrap64 (rd l0 x5_2))) = 0
                                    · rw [if_pos c31] at H
                                      have c31b0 : ((Go.bits .or .i64 (wrap64 (x122002_2 * 256)) (wrap64 (rd l0 x5_2))) == 0) = true := beq_iff_eq.mpr c31
                                      have c31b1 : ((Go.bits .or .i64 (wrap64 (x122002_2 * 256)) (wrap64 (rd l0 x5_2))) != 0) = false := bne_eq_false_iff_eq.mpr c31
                                      clear c31
                                      simp only [Option.some.injEq, Prod.mk.injEq] at H
                                      obtain ⟨rfl, rfl, rfl, rfl, rfl, rfl⟩ := H
                                      have p128 : 0 ≤ (x5_2 : Int) := of_decide_eq_true (by first | (with_reducible assumption) | assumption)
                                      have q128 : x5_2 < (l0.length : Int) := of_decide_eq_true (by first | (with_reducible assumption) | assumption)
                                      obtain ⟨ad128, e128, hx128_0⟩ := Kd.at_int HR0.out x5_2 p128 q128
                                      obtain rfl : ad122 = ad128 := (by injection e128)
                                      replace hx128_0 := (HB.out.cell (World.block_lt_of_cell? w _ hx128_0)).trans hx128_0
                                      replace p128 := eq_true p128
                                      replace q128 := eq_true q128
                                      have hcz32_0 : wr.cell? ⟨gb121, 0, none⟩ = some (.int .i64 (wrap64 ((rd l0 a1) / 64))) := (blk_cell BK121.out 0).trans rfl
                                      have hcz32_1 : wr.cell? ⟨gb121, 1, none⟩ = some (.int .i64 x122001_5) := (blk_cell BK121.out 1).trans rfl
                                      have hcz32_2 : wr.cell? ⟨gb121, 2, none⟩ = some (.int .i64 x122002_2) := (blk_cell BK121.out 2).trans rfl
                                      have hcz32_3 : wr.cell? ⟨gb121, 3, none⟩ = some (.bool ((Go.bits .and .u8 (rd l0 a1) 32) == 32)) := (blk_cell BK121.out 3).trans rfl
                                      have hfz32_0 := blk_frozen BK121.out 0
                                      have hfz32_1 := blk_frozen BK121.out 1
                                      have hfz32_2 := blk_frozen BK121.out 2
                                      have hfz32_3 := blk_frozen BK121.out 3
                                      go_wp2
                                      refine bodyPost_ret (results_ctt rfl _ _ gb121 82 #[.int .i64 (wrap64 ((rd l0 a1) / 64)), .int .i64 x122001_5, .int .i64 (Go.bits .or .i64 (wrap64 (x122002_2 * 256)) (wrap64 (rd l0 x5_2))), .bool ((Go.bits .and .u8 (rd l0 a1) 32) == 32)] (0, 0) _ rfl (by (with_reducible repeat (first | refine blk_drewN ?_ _ | refine blk_drew ?_ | refine blk_alloc ?_ _)); refine blk_put (cs := #[.int .i64 (wrap64 ((rd l0 a1) / 64)), .int .i64 x122001_5, .int .i64 (wrap64 (x122002_2 * 256)), .bool ((Go.bits .and .u8 (rd l0 a1) 32) == 32)]) ?_ 2 _ rfl; (with_reducible repeat (first | refine blk_drewN ?_ _ | refine blk_drew ?_ | refine blk_alloc ?_ _)); refine blk_put (cs := #[.int .i64 (wrap64 ((rd l0 a1) / 64)), .int .i64 x122001_5, .int .i64 x122002_2, .bool ((Go.bits .and .u8 (rd l0 a1) 32) == 32)]) ?_ 2 _ rfl; (with_reducible repeat (first | refine blk_drewN ?_ _ | refine blk_drew ?_ | refine blk_alloc ?_ _)); exact BK121.out) Try.underlying82 rfl (by kernel_rfl)) rfl ?_
                                      exact ⟨by first | rfl | (simp [errW_none, errW_some] <;> rfl) | (simp [*, errW_none, errW_some] <;> rfl), by repeat (first | (with_reducible first | exact HB.out | apply below_alloc | apply pw_below_drewN | apply below_drew1 | refine below_set ?_ GE121.out) | exact HB.out)⟩
                                    · rw [if_neg c31] at H
                                      have c31b0 : ((Go.bits .or .i64 (wrap64 (x122002_2 * 256)) (wrap64 (rd l0 x5_2))) == 0) = false := beq_eq_false_iff_ne.mpr c31
                                      have c31b1 : ((Go.bits .or .i64 (wrap64 (x122002_2 * 256)) (wrap64 (rd l0 x5_2))) != 0) = true := bne_iff_ne.mpr c31
                                      have H' := Aside0.mk H
                                      clear H
                                      have p128 : 0 ≤ (x5_2 : Int) := of_decide_eq_true (by first | (with_reducible assumption) | assumption)
                                      have q128 : x5_2 < (l0.length : Int) := of_decide_eq_true (by first | (with_reducible assumption) | assumption)
                                      obtain ⟨ad128, e128, hx128_0⟩ := Kd.at_int HR0.out x5_2 p128 q128
                                      obtain rfl : ad122 = ad128 := (by injection e128)
                                      replace hx128_0 := (HB.out.cell (World.block_lt_of_cell? w _ hx128_0)).trans hx128_0
                                      replace p128 := eq_true p128
                                      replace q128 := eq_true q128
                                      have hcz33_0 : wr.cell? ⟨gb121, 0, none⟩ = some (.int .i64 (wrap64 ((rd l0 a1) / 64))) := (blk_cell BK121.out 0).trans rfl
                                      have hcz33_1 : wr.cell? ⟨gb121, 1, none⟩ = some (.int .i64 x122001_5) := (blk_cell BK121.out 1).trans rfl
                                      have hcz33_2 : wr.cell? ⟨gb121, 2, none⟩ = some (.int .i64 x122002_2) := (blk_cell BK121.out 2).trans rfl
                                      have hcz33_3 : wr.cell? ⟨gb121, 3, none⟩ = some (.bool ((Go.bits .and .u8 (rd l0 a1) 32) == 32)) := (blk_cell BK121.out 3).trans rfl
                                      have hfz33_0 := blk_frozen BK121.out 0
                                      have hfz33_1 := blk_frozen BK121.out 1
                                      have hfz33_2 := blk_frozen BK121.out 2
                                      have hfz33_3 := blk_frozen BK121.out 3
                                      go_wp2
                                      go_roundg k2
                                      case measure => have := HJ5.out; have := HK2.out; omega
                                      case rel => exact ⟨(wrap64 (x5_2 + 1)), (x6_2), (wrap64 (x9_2 + 1)), (Go.bits .or .i64 (wrap64 (x122002_2 * 256)) (wrap64 (rd l0 x5_2))), (by first | rfl | (simp; done) | (simp [*]; done)), (by first | rfl | (simp; done) | (simp [*]; done)), (by first | rfl | (simp; done) | (simp [*]; done)), H', ⟨by have := HJ5.out; have := HK2.out; omega⟩, ⟨by (with_reducible repeat (first | refine blk_drewN ?_ _ | refine blk_drew ?_ | refine blk_alloc ?_ _)); refine blk_put (cs := #[.int .i64 (wrap64 ((rd l0 a1) / 64)), .int .i64 x122001_5, .int .i64 (wrap64 (x122002_2 * 256)), .bool ((Go.bits .and .u8 (rd l0 a1) 32) == 32)]) ?_ 2 _ rfl; (with_reducible repeat (first | refine blk_drewN ?_ _ | refine blk_drew ?_ | refine blk_alloc ?_ _)); refine blk_put (cs := #[.int .i64 (wrap64 ((rd l0 a1) / 64)), .int .i64 x122001_5, .int .i64 x122002_2, .bool ((Go.bits .and .u8 (rd l0 a1) 32) == 32)]) ?_ 2 _ rfl; (with_reducible repeat (first | refine blk_drewN ?_ _ | refine blk_drew ?_ | refine blk_alloc ?_ _)); exact BK121.out⟩, ⟨by repeat (first | (with_reducible first | exact HB.out | apply below_alloc | apply pw_below_drewN | apply below_drew1 | refine below_set ?_ GE121.out) | exact HB.out)⟩⟩
                                · rw [if_neg c28] at H
                                  exact absurd H (by simp)
                              · rw [if_neg c27] at H
                                exact absurd H (by simp)
                          · rw [if_neg c25] at H
                            have c25b0 : decide (x9_2 < (wrap64 (Go.bits .and .u8 (rd l0 x5_5) 127))) = false := decide_eq_false c25
                            clear c25
                            by_cases c34 : x122002_2 < 128
                            · rw [if_pos c34] at H
                              have c34b0 : decide (x122002_2 < 128) = true := decide_eq_true c34
                              clear c34
                              simp only [Option.some.injEq, Prod.mk.injEq] at H
                              obtain ⟨rfl, rfl, rfl, rfl, rfl, rfl⟩ := H
                              have hcz35_0 : wr.cell? ⟨gb121, 0, none⟩ = some (.int .i64 (wrap64 ((rd l0 a1) / 64))) := (blk_cell BK121.out 0).trans rfl
                              have hcz35_1 : wr.cell? ⟨gb121, 1, none⟩ = some (.int .i64 x122001_5) := (blk_cell BK121.out 1).trans rfl
                              have hcz35_2 : wr.cell? ⟨gb121, 2, none⟩ = some (.int .i64 x122002_2) := (blk_cell BK121.out 2).trans rfl
                              have hcz35_3 : wr.cell? ⟨gb121, 3, none⟩ = some (.bool ((Go.bits .and .u8 (rd l0 a1) 32) == 32)) := (blk_cell BK121.out 3).trans rfl
                              have hfz35_0 := blk_frozen BK121.out 0
                              have hfz35_1 := blk_frozen BK121.out 1
                              have hfz35_2 := blk_frozen BK121.out 2
                              have hfz35_3 := blk_frozen BK121.out 3
                              go_wp2
                              refine bodyPost_ret (results_ctt rfl _ _ gb121 82 #[.int .i64 (wrap64 ((rd l0 a1) / 64)), .int .i64 x122001_5, .int .i64 x122002_2, .bool ((Go.bits .and .u8 (rd l0 a1) 32) == 32)] (0, 0) _ rfl (by (with_reducible repeat (first | refine blk_drewN ?_ _ | refine blk_drew ?_ | refine blk_alloc ?_ _)); exact BK121.out) Try.underlying82 rfl (by kernel_rfl)) rfl ?_
                              exact ⟨by first | rfl | (simp [errW_none, errW_some] <;> rfl) | (simp [*, errW_none, errW_some] <;> rfl), by repeat (first | (with_reducible first | exact HB.out | apply below_alloc | apply pw_below_drewN | apply below_drew1 | refine below_set ?_ GE121.out) | exact HB.out)⟩
                            · rw [if_neg c34] at H
                              have c34b0 : decide (x122002_2 < 128) = false := decide_eq_false c34
                              clear c34
                              simp only [Option.some.injEq, Prod.mk.injEq] at H
                              obtain ⟨rfl, rfl, rfl, rfl, rfl, rfl⟩ := H
                              have hcz36_0 : wr.cell? ⟨gb121, 0, none⟩ = some (.int .i64 (wrap64 ((rd l0 a1) / 64))) := (blk_cell BK121.out 0).trans rfl
                              have hcz36_1 : wr.cell? ⟨gb121, 1, none⟩ = some (.int .i64 x122001_5) := (blk_cell BK121.out 1).trans rfl
                              have hcz36_2 : wr.cell? ⟨gb121, 2, none⟩ = some (.int .i64 x122002_2) := (blk_cell BK121.out 2).trans rfl
                              have hcz36_3 : wr.cell? ⟨gb121, 3, none⟩ = some (.bool ((Go.bits .and .u8 (rd l0 a1) 32) == 32)) := (blk_cell BK121.out 3).trans rfl
                              have hfz36_0 := blk_frozen BK121.out 0
                              have hfz36_1 := blk_frozen BK121.out 1
                              have hfz36_2 := blk_frozen BK121.out 2
                              have hfz36_3 := blk_frozen BK121.out 3
                              go_wp2
                              refine bodyPost_ret (results_ctt rfl _ _ gb121 82 #[.int .i64 (wrap64 ((rd l0 a1) / 64)), .int .i64 x122001_5, .int .i64 x122002_2, .bool ((Go.bits .and .u8 (rd l0 a1) 32) == 32)] (0, 0) _ rfl (by (with_reducible repeat (first | refine blk_drewN ?_ _ | refine blk_drew ?_ | refine blk_alloc ?_ _)); exact BK121.out) Try.underlying82 rfl (by kernel_rfl)) rfl ?_
                              exact ⟨by first | rfl | (simp [errW_none, errW_some] <;> rfl) | (simp [*, errW_none, errW_some] <;> rfl), by repeat (first | (with_reducible first | exact HB.out | apply below_alloc | apply pw_below_drewN | apply below_drew1 | refine below_set ?_ GE121.out) | exact HB.out)⟩
                · rw [if_neg c20] at H
                  exact absurd H (by simp)
              · rw [if_neg c19] at H
                exact absurd H (by simp)
      · rw [if_neg c5] at H
        exact absurd H (by simp)
    · rw [if_neg c4] at H
      exact absurd H (by simp)

/-! ### asn1_ZZHeader: function 46 -/
def asn1_ZZHeader.f (k : Nat) (l0 : List Int) (a1 : Int) : Option (Int × Int × Int × Bool × Int × Option Int) := (asn1_parseTagAndLength.f k l0 a1).bind fun bt129 => (some (bt129.1, bt129.2.1, bt129.2.2.1, bt129.2.2.2.1, bt129.2.2.2.2.1, bt129.2.2.2.2.2))
theorem asn1_ZZHeader.mono : ∀ a0 a1 k, LeO (asn1_ZZHeader.f k a0 a1) (asn1_ZZHeader.f (k + 1) a0 a1) := by
  intro a0 a1 k
  unfold asn1_ZZHeader.f
  repeat' first
      | (with_reducible exact asn1_parseTagAndLength.mono _ _ _)
      | (with_reducible exact LeO.refl _)
      | (with_reducible exact LeO.none _)
      | (with_reducible refine LeO.ite ?_ ?_)
      | (with_reducible refine LeO.bind ?_ (fun _ => ?_))
      | exact asn1_parseTagAndLength.mono _ _ _
      | exact LeO.none _
      | refine LeO.ite ?_ ?_
      | refine LeO.bind ?_ (fun _ => ?_)
set_option maxHeartbeats 8000000 in
set_option maxRecDepth 100000 in
theorem asn1_ZZHeader.calls (k : Nat) (A0 : Option Addr) (c0 : Nat) (l0 : List Int) (a1 : Int) (r1 : Int) (r2 : Int) (r3 : Int) (r4 : Bool) (r5 : Int) (r6 : Option Int) (w : World) (hr0 : Kd.C (Kd.int .u8) w A0 l0.length l0) (hc0 : l0.length ≤ c0) (h : asn1_ZZHeader.f k l0 a1 = some (r1, r2, r3, r4, r5, r6)) :
    Calls Try.prog 46 #[.slice A0 l0.length c0, .int .i64 a1] w fun e w' => e = .returned (.tuple #[.int .i64 r1, .int .i64 r2, .int .i64 r3, .bool r4, .int .i64 r5, errW r6]) ∧ Below w.heap.size w w' := by
  have hu82 := Try.underlying82
  have HR0 := Aside0.mk hr0
  have HC0 := Aside0.mk hc0
  clear hr0 hc0
  have HB := Aside0.mk (Below.refl w.heap.size w)
  have H : ((asn1_parseTagAndLength.f k l0 a1).bind fun bt129 => (some (bt129.1, bt129.2.1, bt129.2.2.1, bt129.2.2.2.1, bt129.2.2.2.2.1, bt129.2.2.2.2.2))) = some (r1, r2, r3, r4, r5, r6) := h
  clear h
  replace H := Option.bind_eq_some_iff.mp H
  obtain ⟨⟨t129, t130, t131, t132, t133, t134⟩, A30, H⟩ := H
  replace H : (some (t129, t130, t131, t132, t133, t134)) = some (r1, r2, r3, r4, r5, r6) := H
  have A3 := Aside0.mk A30
  clear A30
  simp only [Option.some.injEq, Prod.mk.injEq] at H
  obtain ⟨rfl, rfl, rfl, rfl, rfl, rfl⟩ := H
  go_enter Try.func46, Try.ntmps46
  go_wp2_with (first | (go_at_call 56; (with_reducible refine (asn1_parseTagAndLength.calls k _ _ l0 a1 t129 t130 t131 t132 t133 t134 _ ?side1 ?side2 A3.out).mono ?_); (case side1 => repeat (first | exact HR0.out | (with_reducible refine Kd.C_alloc ?_ _) | (with_reducible refine Kd.C_drewN ?_ _) | (with_reducible refine Kd.C_drew ?_))); (case side2 => exact HC0.out); rintro e w4 ⟨rfl, hb⟩; have n0_ := Aside0.mk (below_step (by repeat (first | (with_reducible first | exact HB.out | apply below_alloc | apply pw_below_drewN | apply below_drew1) | exact HB.out)) hb); clear HB; have HB := n0_; clear n0_; (try clear hb); (try clear hb2); (try clear hk); (try clear hi); (try simp only [errW_none, errW_some])) | ((with_reducible refine gate_dst (N := 10) rfl ?_); refine box_event ?hg (N := 10) ?hd (cs := #[.int .i64 0, .int .i64 0, .int .i64 0, .bool false]) (t := 82) ?hr ?_; (case hd => rfl); (case hg => rfl); (case hr => first | (go_simp; done) | (go_simp; rfl)); intro gb135 hg w5 hbox hb; have n0_ := Aside0.mk (below_step (by repeat (first | (with_reducible first | exact HB.out | apply below_alloc | apply pw_below_drewN | apply below_drew1) | exact HB.out)) hb); have n1_ := Aside0.mk (hbox); have n2_ := Aside0.mk ((by rw [hg]; exact (below_size (by repeat (first | (with_reducible first | exact HB.out | apply below_alloc | apply pw_below_drewN | apply below_drew1) | exact HB.out))) : w.heap.size ≤ gb135)); have n3_ := Aside0.mk ((by rw [hg]; exact (below_size (by repeat (first | (with_reducible first | exact HB.out | apply below_alloc | apply pw_below_drewN | apply below_drew1) | exact HB.out))) : w.heap.size ≤ gb135)); clear HB; have HB := n0_; have BK135 := n1_; have GW135 := n2_; have GE135 := n3_; clear n0_ n1_ n2_ n3_; clear hb hbox hg; have hcz6_0 : w5.cell? ⟨gb135, 0, none⟩ = some (.int .i64 0) := (blk_cell BK135.out 0).trans rfl; have hcz6_1 : w5.cell? ⟨gb135, 1, none⟩ = some (.int .i64 0) := (blk_cell BK135.out 1).trans rfl; have hcz6_2 : w5.cell? ⟨gb135, 2, none⟩ = some (.int .i64 0) := (blk_cell BK135.out 2).trans rfl; have hcz6_3 : w5.cell? ⟨gb135, 3, none⟩ = some (.bool false) := (blk_cell BK135.out 3).trans rfl; have hfz6_0 := blk_frozen BK135.out 0; have hfz6_1 := blk_frozen BK135.out 1; have hfz6_2 := blk_frozen BK135.out 2; have hfz6_3 := blk_frozen BK135.out 3))
  repeat (go_quiet (first | (go_at_call 56; (with_reducible refine (asn1_parseTagAndLength.calls k _ _ l0 a1 t129 t130 t131 t132 t133 t134 _ ?side1 ?side2 A3.out).mono ?_); (case side1 => repeat (first | exact HR0.out | (with_reducible refine Kd.C_alloc ?_ _) | (with_reducible refine Kd.C_drewN ?_ _) | (with_reducible refine Kd.C_drew ?_))); (case side2 => exact HC0.out); rintro e w4 ⟨rfl, hb⟩; have n0_ := Aside0.mk (below_step (by repeat (first | (with_reducible first | exact HB.out | apply below_alloc | apply pw_below_drewN | apply below_drew1) | exact HB.out)) hb); clear HB; have HB := n0_; clear n0_; (try clear hb); (try clear hb2); (try clear hk); (try clear hi); (try simp only [errW_none, errW_some])) | ((with_reducible refine gate_dst (N := 10) rfl ?_); refine box_event ?hg (N := 10) ?hd (cs := #[.int .i64 0, .int .i64 0, .int .i64 0, .bool false]) (t := 82) ?hr ?_; (case hd => rfl); (case hg => rfl); (case hr => first | (go_simp; done) | (go_simp; rfl)); intro gb135 hg w5 hbox hb; have n0_ := Aside0.mk (below_step (by repeat (first | (with_reducible first | exact HB.out | apply below_alloc | apply pw_below_drewN | apply below_drew1) | exact HB.out)) hb); have n1_ := Aside0.mk (hbox); have n2_ := Aside0.mk ((by rw [hg]; exact (below_size (by repeat (first | (with_reducible first | exact HB.out | apply below_alloc | apply pw_below_drewN | apply below_drew1) | exact HB.out))) : w.heap.size ≤ gb135)); have n3_ := Aside0.mk ((by rw [hg]; exact (below_size (by repeat (first | (with_reducible first | exact HB.out | apply below_alloc | apply pw_below_drewN | apply below_drew1) | exact HB.out))) : w.heap.size ≤ gb135)); clear HB; have HB := n0_; have BK135 := n1_; have GW135 := n2_; have GE135 := n3_; clear n0_ n1_ n2_ n3_; clear hb hbox hg; have hcz6_0 : w5.cell? ⟨gb135, 0, none⟩ = some (.int .i64 0) := (blk_cell BK135.out 0).trans rfl; have hcz6_1 : w5.cell? ⟨gb135, 1, none⟩ = some (.int .i64 0) := (blk_cell BK135.out 1).trans rfl; have hcz6_2 : w5.cell? ⟨gb135, 2, none⟩ = some (.int .i64 0) := (blk_cell BK135.out 2).trans rfl; have hcz6_3 : w5.cell? ⟨gb135, 3, none⟩ = some (.bool false) := (blk_cell BK135.out 3).trans rfl; have hfz6_0 := blk_frozen BK135.out 0; have hfz6_1 := blk_frozen BK135.out 1; have hfz6_2 := blk_frozen BK135.out 2; have hfz6_3 := blk_frozen BK135.out 3)); try go_wp2_with (first | (go_at_call 56; (with_reducible refine (asn1_parseTagAndLength.calls k _ _ l0 a1 t129 t130 t131 t132 t133 t134 _ ?side1 ?side2 A3.out).mono ?_); (case side1 => repeat (first | exact HR0.out | (with_reducible refine Kd.C_alloc ?_ _) | (with_reducible refine Kd.C_drewN ?_ _) | (with_reducible refine Kd.C_drew ?_))); (case side2 => exact HC0.out); rintro e w4 ⟨rfl, hb⟩; have n0_ := Aside0.mk (below_step (by repeat (first | (with_reducible first | exact HB.out | apply below_alloc | apply pw_below_drewN | apply below_drew1) | exact HB.out)) hb); clear HB; have HB := n0_; clear n0_; (try clear hb); (try clear hb2); (try clear hk); (try clear hi); (try simp only [errW_none, errW_some])) | ((with_reducible refine gate_dst (N := 10) rfl ?_); refine box_event ?hg (N := 10) ?hd (cs := #[.int .i64 0, .int .i64 0, .int .i64 0, .bool false]) (t := 82) ?hr ?_; (case hd => rfl); (case hg => rfl); (case hr => first | (go_simp; done) | (go_simp; rfl)); intro gb135 hg w5 hbox hb; have n0_ := Aside0.mk (below_step (by repeat (first | (with_reducible first | exact HB.out | apply below_alloc | apply pw_below_drewN | apply below_drew1) | exact HB.out)) hb); have n1_ := Aside0.mk (hbox); have n2_ := Aside0.mk ((by rw [hg]; exact (below_size (by repeat (first | (with_reducible first | exact HB.out | apply below_alloc | apply pw_below_drewN | apply below_drew1) | exact HB.out))) : w.heap.size ≤ gb135)); have n3_ := Aside0.mk ((by rw [hg]; exact (below_size (by repeat (first | (with_reducible first | exact HB.out | apply below_alloc | apply pw_below_drewN | apply below_drew1) | exact HB.out))) : w.heap.size ≤ gb135)); clear HB; have HB := n0_; have BK135 := n1_; have GW135 := n2_; have GE135 := n3_; clear n0_ n1_ n2_ n3_; clear hb hbox hg; have hcz6_0 : w5.cell? ⟨gb135, 0, none⟩ = some (.int .i64 0) := (blk_cell BK135.out 0).trans rfl; have hcz6_1 : w5.cell? ⟨gb135, 1, none⟩ = some (.int .i64 0) := (blk_cell BK135.out 1).trans rfl; have hcz6_2 : w5.cell? ⟨gb135, 2, none⟩ = some (.int .i64 0) := (blk_cell BK135.out 2).trans rfl; have hcz6_3 : w5.cell? ⟨gb135, 3, none⟩ = some (.bool false) := (blk_cell BK135.out 3).trans rfl; have hfz6_0 := blk_frozen BK135.out 0; have hfz6_1 := blk_frozen BK135.out 1; have hfz6_2 := blk_frozen BK135.out 2; have hfz6_3 := blk_frozen BK135.out 3)))
  refine bodyPost_ret (results_list (rs := [.tmp 4, .tmp 5, .tmp 6, .tmp 7, .tmp 8, .tmp 9]) rfl (by simp) (.tmp (.tmp (.tmp (.tmp (.tmp (.tmp .nil))))))) rfl ?_
  exact ⟨by first | rfl | (simp [errW_none, errW_some] <;> rfl) | (simp [*, errW_none, errW_some] <;> rfl), by repeat (first | (with_reducible first | exact HB.out | apply below_alloc | apply pw_below_drewN | apply below_drew1 | refine below_set ?_ GE135.out) | exact HB.out)⟩

end Go.Proofs.Ytapnkngcnlomhaa.QR
