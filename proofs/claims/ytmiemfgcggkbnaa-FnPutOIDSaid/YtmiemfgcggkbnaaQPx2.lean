-- Written by a program of this work (wip/patch_print.py) for this claim.
import Derived.Test.YtmiemfgcggkbnaaQPx0
import Derived.Test.YtmiemfgcggkbnaaQPx1
namespace Go.Proofs.Ytmiemfgcggkbnaa.QP
open Go.RowKit Go.Proofs.YtmiemfgcggkbnaaW.PrintWords Go.Proofs.YtmiemfgcggkbnaaW.PrintLast Go.Proofs.YtmiemfgcggkbnaaW.PrintMore
attribute [local go_sem] max2_int min2_int max_two min_two max_three min_three max_four min_four   -- for this text's walks alone
set_option linter.unusedVariables false
set_option linter.unusedSimpArgs false

/-! ### impl_PutOID: function 21 -/
def impl_PutOID.l0 : Nat → List Int → List Int → Int → Int → Option (List Int × Bool)
  | 0, _, _, _, _ => none
  | k + 1, x0, x11, x12, x13 => if x13 < x12 then (if 0 ≤ x13 then (if x13 < (x11.length : Int) then (if (rd x11 x13) < 0 then (some (([] : List Int), false)) else (if (rd x11 x13) > 2147483647 then (some (([] : List Int), false)) else (impl_PutOID.l0 k x0 x11 x12 (wrap64 (x13 + 1))))) else (none)) else (none)) else (if ([] : List Int).length + x0.length < 17592186044416 then ((asn1_ZZPutOID.f k (([] : List Int) ++ x0)).bind fun bt123 => (if bt123.2.isNone = true then (some (bt123.1, true)) else (some (([] : List Int), false)))) else (none))
def impl_PutOID.f (k : Nat) (l0 : List Int) : Option (List Int × Bool) := if (l0.length : Int) > 1000 then (some (([] : List Int), false)) else (impl_PutOID.l0 k l0 l0 (l0.length : Int) 0)
theorem impl_PutOID.mono_l : ∀ k, (∀ y0 y1 y2 y3, LeO (impl_PutOID.l0 k y0 y1 y2 y3) (impl_PutOID.l0 (k + 1) y0 y1 y2 y3))
  | 0 => fun _ _ _ _ r h => by simp [impl_PutOID.l0] at h
  | k + 1 => by
    have ih0 := impl_PutOID.mono_l k
    · intro y0 y1 y2 y3
      unfold impl_PutOID.l0
      repeat' first
      | (with_reducible exact ih0 _ _ _ _)
      | (with_reducible exact asn1_ZZPutOID.mono _ _)
      | (with_reducible exact LeO.refl _)
      | (with_reducible exact LeO.none _)
      | (with_reducible refine LeO.ite ?_ ?_)
      | (with_reducible refine LeO.bind ?_ (fun _ => ?_))
      | exact ih0 _ _ _ _
      | exact asn1_ZZPutOID.mono _ _
      | exact LeO.none _
      | refine LeO.ite ?_ ?_
      | refine LeO.bind ?_ (fun _ => ?_)
theorem impl_PutOID.mono : ∀ a0 k, LeO (impl_PutOID.f k a0) (impl_PutOID.f (k + 1) a0) := by
  intro a0 k
  have ih0 := impl_PutOID.mono_l k
  unfold impl_PutOID.f
  repeat' first
      | (with_reducible exact ih0 _ _ _ _)
      | (with_reducible exact asn1_ZZPutOID.mono _ _)
      | (with_reducible exact LeO.refl _)
      | (with_reducible exact LeO.none _)
      | (with_reducible refine LeO.ite ?_ ?_)
      | (with_reducible refine LeO.bind ?_ (fun _ => ?_))
      | exact ih0 _ _ _ _
      | exact asn1_ZZPutOID.mono _ _
      | exact LeO.none _
      | refine LeO.ite ?_ ?_
      | refine LeO.bind ?_ (fun _ => ?_)
set_option maxHeartbeats 8000000 in
set_option maxRecDepth 100000 in
theorem impl_PutOID.calls (k : Nat) (A0 : Option Addr) (c0 : Nat) (l0 : List Int) (r1 : List Int) (r2 : Bool) (w : World) (hr0 : Kd.C (Kd.int .i64) w A0 l0.length l0) (hc0 : l0.length ≤ c0) (h : impl_PutOID.f k l0 = some (r1, r2)) :
    Calls Try.prog 21 #[.slice A0 l0.length c0] w fun e w' => ∃ v0_ : Value, e = .returned (.tuple #[v0_, .bool r2]) ∧ Kd.R (Kd.int .u8) 5 w' w.heap.size (fun _ => True) v0_ r1 ∧ Below w.heap.size w w' := by
  have hu72 := Try.underlying72
  have HR0 := Aside0.mk hr0
  have HC0 := Aside0.mk hc0
  clear hr0 hc0
  have HB := Aside0.mk (Below.refl w.heap.size w)
  have H : (if (l0.length : Int) > 1000 then (some (([] : List Int), false)) else (impl_PutOID.l0 k l0 l0 (l0.length : Int) 0)) = some (r1, r2) := h
  clear h
  by_cases c2 : (l0.length : Int) > 1000
  · rw [if_pos c2] at H
    have c2b0 : decide (1000 < (l0.length : Int)) = true := decide_eq_true c2
    have c2b1 : decide (1000 < l0.length) = true := decide_eq_true (by omega)
    clear c2
    simp only [Option.some.injEq, Prod.mk.injEq] at H
    obtain ⟨rfl, rfl⟩ := H
    go_enter Try.func21, Try.ntmps21
    go_wp2
    go_ret2
    exact ⟨_, by first | rfl | (simp [errW_none, errW_some] <;> rfl) | (simp [*, errW_none, errW_some] <;> rfl), by first | exact Kd.R_nil _ _ _ _ _ | exact Kd.N_nil _ _ _ _ _ | exact Kd.V_nil _ _ _ _ _ | exact Kd.Q_nil _ _ _ _ _ | exact Kd.S_nil _ _ _ _ _, by repeat (first | (with_reducible first | exact HB.out | apply below_alloc | apply pw_below_drewN | apply below_drew1) | exact HB.out)⟩
  · rw [if_neg c2] at H
    have c2b0 : decide (1000 < (l0.length : Int)) = false := decide_eq_false c2
    have c2b1 : decide (1000 < l0.length) = false := decide_eq_false (by omega)
    clear c2
    have H' := Aside0.mk H
    clear H
    go_enter Try.func21, Try.ntmps21
    go_wp2
    go_loopg [13] k (fun kq v13 w' => ∃ (x13_1 : Int), v13 = .int .i64 x13_1 ∧ Aside0 (impl_PutOID.l0 kq l0 l0 (l0.length : Int) x13_1 = some (r1, r2)) ∧ Aside0 (kq ≤ k) ∧ Aside0 (Below w.heap.size w w'))
    case atStart => exact ⟨(0), (by first | rfl | (simp; done) | (simp [*]; done)), H', ⟨Nat.le_refl _⟩, ⟨by repeat (first | (with_reducible first | exact HB.out | apply below_alloc | apply pw_below_drewN | apply below_drew1) | exact HB.out)⟩⟩
    case round =>
      clear H'
      try clear c2
      try clear c2b0
      try clear c2b1
      try clear p2
      obtain ⟨x13_1, rfl, HA, HK1, HB⟩ := hrel
      cases gk with
      | zero => exact absurd HA.out (by simp [impl_PutOID.l0])
      | succ k1 =>
        have H := HA.out
        clear HA
        simp only [impl_PutOID.l0] at H
        by_cases c3 : x13_1 < (l0.length : Int)
        · rw [if_pos c3] at H
          have c3b0 : decide (x13_1 < (l0.length : Int)) = true := decide_eq_true c3
          clear c3
          by_cases c4 : 0 ≤ x13_1
          · rw [if_pos c4] at H
            have c4b0 : decide (0 ≤ x13_1) = true := decide_eq_true c4
            clear c4
            by_cases c5 : x13_1 < (l0.length : Int)
            · rw [if_pos c5] at H
              have c5b0 : decide (x13_1 < (l0.length : Int)) = true := decide_eq_true c5
              clear c5
              by_cases c6 : (rd l0 x13_1) < 0
              · rw [if_pos c6] at H
                have c6b0 : decide ((rd l0 x13_1) < 0) = true := decide_eq_true c6
                clear c6
                simp only [Option.some.injEq, Prod.mk.injEq] at H
                obtain ⟨rfl, rfl⟩ := H
                have p119 : 0 ≤ (x13_1 : Int) := of_decide_eq_true (by first | (with_reducible assumption) | assumption)
                have q119 : x13_1 < (l0.length : Int) := of_decide_eq_true (by first | (with_reducible assumption) | assumption)
                obtain ⟨ad119, e119, hx119_0⟩ := Kd.at_int HR0.out x13_1 p119 q119
                cases e119
                replace hx119_0 := (HB.out.cell (World.block_lt_of_cell? w _ hx119_0)).trans hx119_0
                replace p119 := eq_true p119
                replace q119 := eq_true q119
                go_wp2
                go_ret2
                exact ⟨_, by first | rfl | (simp [errW_none, errW_some] <;> rfl) | (simp [*, errW_none, errW_some] <;> rfl), by first | exact Kd.R_nil _ _ _ _ _ | exact Kd.N_nil _ _ _ _ _ | exact Kd.V_nil _ _ _ _ _ | exact Kd.Q_nil _ _ _ _ _ | exact Kd.S_nil _ _ _ _ _, by repeat (first | (with_reducible first | exact HB.out | apply below_alloc | apply pw_below_drewN | apply below_drew1) | exact HB.out)⟩
              · rw [if_neg c6] at H
                have c6b0 : decide ((rd l0 x13_1) < 0) = false := decide_eq_false c6
                clear c6
                by_cases c7 : (rd l0 x13_1) > 2147483647
                · rw [if_pos c7] at H
                  have c7b0 : decide (2147483647 < (rd l0 x13_1)) = true := decide_eq_true c7
                  clear c7
                  simp only [Option.some.injEq, Prod.mk.injEq] at H
                  obtain ⟨rfl, rfl⟩ := H
                  have p119 : 0 ≤ (x13_1 : Int) := of_decide_eq_true (by first | (with_reducible assumption) | assumption)
                  have q119 : x13_1 < (l0.length : Int) := of_decide_eq_true (by first | (with_reducible assumption) | assumption)
                  obtain ⟨ad119, e119, hx119_0⟩ := Kd.at_int HR0.out x13_1 p119 q119
                  cases e119
                  replace hx119_0 := (HB.out.cell (World.block_lt_of_cell? w _ hx119_0)).trans hx119_0
                  replace p119 := eq_true p119
                  replace q119 := eq_true q119
                  go_wp2
                  go_ret2
                  exact ⟨_, by first | rfl | (simp [errW_none, errW_some] <;> rfl) | (simp [*, errW_none, errW_some] <;> rfl), by first | exact Kd.R_nil _ _ _ _ _ | exact Kd.N_nil _ _ _ _ _ | exact Kd.V_nil _ _ _ _ _ | exact Kd.Q_nil _ _ _ _ _ | exact Kd.S_nil _ _ _ _ _, by repeat (first | (with_reducible first | exact HB.out | apply below_alloc | apply pw_below_drewN | apply below_drew1) | exact HB.out)⟩
                · rw [if_neg c7] at H
                  have c7b0 : decide (2147483647 < (rd l0 x13_1)) = false := decide_eq_false c7
                  clear c7
                  have H' := Aside0.mk H
                  clear H
                  have p119 : 0 ≤ (x13_1 : Int) := of_decide_eq_true (by first | (with_reducible assumption) | assumption)
                  have q119 : x13_1 < (l0.length : Int) := of_decide_eq_true (by first | (with_reducible assumption) | assumption)
                  obtain ⟨ad119, e119, hx119_0⟩ := Kd.at_int HR0.out x13_1 p119 q119
                  cases e119
                  replace hx119_0 := (HB.out.cell (World.block_lt_of_cell? w _ hx119_0)).trans hx119_0
                  replace p119 := eq_true p119
                  replace q119 := eq_true q119
                  go_wp2
                  go_roundg k1
                  case measure => have := HK1.out; omega
                  case rel => exact ⟨(wrap64 (x13_1 + 1)), (by first | rfl | (simp; done) | (simp [*]; done)), H', ⟨by have := HK1.out; omega⟩, ⟨by repeat (first | (with_reducible first | exact HB.out | apply below_alloc | apply pw_below_drewN | apply below_drew1) | exact HB.out)⟩⟩
            · rw [if_neg c5] at H
              exact absurd H (by simp)
          · rw [if_neg c4] at H
            exact absurd H (by simp)
        · rw [if_neg c3] at H
          have c3b0 : decide (x13_1 < (l0.length : Int)) = false := decide_eq_false c3
          clear c3
          by_cases c8 : ([] : List Int).length + l0.length < 17592186044416
          · rw [if_pos c8] at H
            have LMc8 := Aside0.mk c8
            clear c8
            obtain ⟨y120, hy120⟩ : ∃ y_ : List Int, y_ = (([] : List Int) ++ l0) := ⟨_, rfl⟩
            replace H : ((asn1_ZZPutOID.f k1 y120).bind fun bt123 => (if bt123.2.isNone = true then (some (bt123.1, true)) else (some (([] : List Int), false)))) = some (r1, r2) := by first | (rw [hy120]; with_reducible exact H) | (have H2_ := (Option.bind_some _ _).symm.trans H; rw [hy120]; with_reducible exact H2_) | (have H2_ := (Option.bind_some _ _).symm.trans H; with_reducible exact H2_) | with_reducible exact H | (rw [hy120]; exact H) | exact H
            have Ny120 := Aside0.mk hy120
            clear hy120
            replace H := Option.bind_eq_some_iff.mp H
            obtain ⟨⟨t123, t124⟩, A90, H⟩ := H
            replace H : (if t124.isNone = true then (some (t123, true)) else (some (([] : List Int), false))) = some (r1, r2) := H
            have A9 := Aside0.mk A90
            clear A90
            rcases t124 with _ | q127
            · have H1 : (some (t123, true)) = some (r1, r2) := by rw [if_pos (show (none : Option Int).isNone = true by rfl)] at H; exact H
              clear H
              have H := H1
              clear H1
              try simp only [errW_none, errW_some]
              simp only [Option.some.injEq, Prod.mk.injEq] at H
              obtain ⟨rfl, rfl⟩ := H
              go_wp2_with (first | ((with_reducible refine gate_builtin (b := .append) (xs := #[.const (.slice none 0 0), .tmp 25]) rfl ?_); at_builtin; refine Kd.R_append_rows (Kd.int .i64) (w0 := w) w.heap.size rfl (.const (.slice none 0 0)) (.tmp 25) 35 3 (.int .i64 0) 8 rfl Try.underlying35 info3 rfl (by decide) (by omega) (.slice none 0 0) ([] : List Int) l0 _ _ _ (fun _ => True) (fun _ => False) rfl rfl ?aO ?aR (fun _ _ h => h) (fun _ h => h.elim) ?aF ?aB ?aS ?aL ?_; (case aR => repeat (first | exact (Kd.C_below HR0.out HB.out) | (with_reducible refine Kd.C_alloc ?_ _) | (with_reducible refine Kd.C_drewN ?_ _) | (with_reducible refine Kd.C_drew ?_))); (case aB => exact (by repeat (first | (with_reducible first | exact HB.out | apply below_alloc | apply pw_below_drewN | apply below_drew1) | exact HB.out))); (case aF => exact (fun _ _ => trivial)); (case aO => exact ((Kd.R_nil _ _ _ _ (fun _ => True)))); (case aS => exact (below_size (by repeat (first | (with_reducible first | exact HB.out | apply below_alloc | apply pw_below_drewN | apply below_drew1) | exact HB.out)))); (case aL => have := LMc8.out; omega); intro v121 w10 ho hb hg hat; rw [← Ny120.out] at ho; have n0_ := Aside0.mk (hb); have n1_ := Aside0.mk (ho); clear HB; have HB := n0_; have HO122 := n1_; clear n0_ n1_; clear ho hb hg hat; obtain ⟨Ao11, co11, eo11⟩ := Kd.R_slice HO122.out; subst eo11) | ((with_reducible refine gate_callee (f := 47) rfl ?_); refine goesL_ (some 27) rfl rfl Try.func47 (by kernel_rfl) rfl #[.slice Ao11 y120.length co11] rfl (by (try simp only [List.map_toArray, List.map_cons, List.map_nil]); first | done | rfl | (simp only [List.length_drop, List.length_take]; rfl)) ?_; (with_reducible refine (asn1_ZZPutOID.calls k1 _ _ y120 t123 none _ ?side1 ?side2 A9.out).mono ?_); (case side1 => repeat (first | exact (Kd.R_reads' HO122.out).2.2 | (with_reducible refine Kd.C_alloc ?_ _) | (with_reducible refine Kd.C_drewN ?_ _) | (with_reducible refine Kd.C_drew ?_))); (case side2 => exact (Kd.R_reads' HO122.out).2.1); rintro e w12 ⟨v125, rfl, ho0, hb⟩; refine ⟨_, rfl, ?_⟩; have n0_ := Aside0.mk (Kd.R_below (by (with_reducible repeat (first | apply Kd.R_alloc | apply Kd.R_drewN | apply Kd.R_drew)); exact HO122.out) hb); have n1_ := Aside0.mk (Kd.R_lower ho0 (below_size (by repeat (first | (with_reducible first | exact HB.out | apply below_alloc | apply pw_below_drewN | apply below_drew1) | exact HB.out)))); have n2_ := Aside0.mk (below_step (by repeat (first | (with_reducible first | exact HB.out | apply below_alloc | apply pw_below_drewN | apply below_drew1) | exact HB.out)) hb); clear HO122; clear HB; have HO122 := n0_; have HO126 := n1_; have HB := n2_; clear n0_ n1_ n2_; (try clear hb); (try clear hb2); (try clear hk); (try clear hi); (try clear ho0); (try simp only [errW_none, errW_some])))
              go_ret2
              exact ⟨_, by first | rfl | (simp [errW_none, errW_some] <;> rfl) | (simp [*, errW_none, errW_some] <;> rfl), by (with_reducible repeat (first | apply Kd.R_alloc | apply Kd.R_drewN | apply Kd.R_drew)); exact HO126.out, by repeat (first | (with_reducible first | exact HB.out | apply below_alloc | apply pw_below_drewN | apply below_drew1) | exact HB.out)⟩
            · have H1 : (some (([] : List Int), false)) = some (r1, r2) := by rw [if_neg (show ¬ (some q127).isNone = true by simp)] at H; exact H
              clear H
              have H := H1
              clear H1
              try simp only [errW_none, errW_some]
              simp only [Option.some.injEq, Prod.mk.injEq] at H
              obtain ⟨rfl, rfl⟩ := H
              go_wp2_with (first | ((with_reducible refine gate_builtin (b := .append) (xs := #[.const (.slice none 0 0), .tmp 25]) rfl ?_); at_builtin; refine Kd.R_append_rows (Kd.int .i64) (w0 := w) w.heap.size rfl (.const (.slice none 0 0)) (.tmp 25) 35 3 (.int .i64 0) 8 rfl Try.underlying35 info3 rfl (by decide) (by omega) (.slice none 0 0) ([] : List Int) l0 _ _ _ (fun _ => True) (fun _ => False) rfl rfl ?aO ?aR (fun _ _ h => h) (fun _ h => h.elim) ?aF ?aB ?aS ?aL ?_; (case aR => repeat (first | exact (Kd.C_below HR0.out HB.out) | (with_reducible refine Kd.C_alloc ?_ _) | (with_reducible refine Kd.C_drewN ?_ _) | (with_reducible refine Kd.C_drew ?_))); (case aB => exact (by repeat (first | (with_reducible first | exact HB.out | apply below_alloc | apply pw_below_drewN | apply below_drew1) | exact HB.out))); (case aF => exact (fun _ _ => trivial)); (case aO => exact ((Kd.R_nil _ _ _ _ (fun _ => True)))); (case aS => exact (below_size (by repeat (first | (with_reducible first | exact HB.out | apply below_alloc | apply pw_below_drewN | apply below_drew1) | exact HB.out)))); (case aL => have := LMc8.out; omega); intro v121 w13 ho hb hg hat; rw [← Ny120.out] at ho; have n0_ := Aside0.mk (hb); have n1_ := Aside0.mk (ho); clear HB; have HB := n0_; have HO122 := n1_; clear n0_ n1_; clear ho hb hg hat; obtain ⟨Ao14, co14, eo14⟩ := Kd.R_slice HO122.out; subst eo14) | ((with_reducible refine gate_callee (f := 47) rfl ?_); refine goesL_ (some 27) rfl rfl Try.func47 (by kernel_rfl) rfl #[.slice Ao14 y120.length co14] rfl (by (try simp only [List.map_toArray, List.map_cons, List.map_nil]); first | done | rfl | (simp only [List.length_drop, List.length_take]; rfl)) ?_; (with_reducible refine (asn1_ZZPutOID.calls k1 _ _ y120 t123 (some q127) _ ?side1 ?side2 A9.out).mono ?_); (case side1 => repeat (first | exact (Kd.R_reads' HO122.out).2.2 | (with_reducible refine Kd.C_alloc ?_ _) | (with_reducible refine Kd.C_drewN ?_ _) | (with_reducible refine Kd.C_drew ?_))); (case side2 => exact (Kd.R_reads' HO122.out).2.1); rintro e w15 ⟨v125, rfl, ho0, hb⟩; refine ⟨_, rfl, ?_⟩; have n0_ := Aside0.mk (Kd.R_below (by (with_reducible repeat (first | apply Kd.R_alloc | apply Kd.R_drewN | apply Kd.R_drew)); exact HO122.out) hb); have n1_ := Aside0.mk (Kd.R_lower ho0 (below_size (by repeat (first | (with_reducible first | exact HB.out | apply below_alloc | apply pw_below_drewN | apply below_drew1) | exact HB.out)))); have n2_ := Aside0.mk (below_step (by repeat (first | (with_reducible first | exact HB.out | apply below_alloc | apply pw_below_drewN | apply below_drew1) | exact HB.out)) hb); clear HO122; clear HB; have HO122 := n0_; have HO126 := n1_; have HB := n2_; clear n0_ n1_ n2_; (try clear hb); (try clear hb2); (try clear hk); (try clear hi); (try clear ho0); (try simp only [errW_none, errW_some])))
              go_ret2
              exact ⟨_, by first | rfl | (simp [errW_none, errW_some] <;> rfl) | (simp [*, errW_none, errW_some] <;> rfl), by first | exact Kd.R_nil _ _ _ _ _ | exact Kd.N_nil _ _ _ _ _ | exact Kd.V_nil _ _ _ _ _ | exact Kd.Q_nil _ _ _ _ _ | exact Kd.S_nil _ _ _ _ _, by repeat (first | (with_reducible first | exact HB.out | apply below_alloc | apply pw_below_drewN | apply below_drew1) | exact HB.out)⟩
          · rw [if_neg c8] at H
            exact absurd H (by simp)

/-! ### laws_FnShortOID: function 9 -/
def laws_FnShortOID.f (k : Nat) (l0 : List Int) : Option (Bool) := if (l0.length : Int) > 2147483647 then (some true) else (if (l0.length : Int) > 1 then (some true) else ((impl_PutOID.f k l0).bind fun bt128 => ((impl_PutOID.f k (([1, 2, 3] : List Int))).bind fun bt135 => (if bt128.2 = true then (some false) else (some bt135.2)))))
theorem laws_FnShortOID.mono : ∀ a0 k, LeO (laws_FnShortOID.f k a0) (laws_FnShortOID.f (k + 1) a0) := by
  intro a0 k
  unfold laws_FnShortOID.f
  repeat' first
      | (with_reducible exact impl_PutOID.mono _ _)
      | (with_reducible exact LeO.refl _)
      | (with_reducible exact LeO.none _)
      | (with_reducible refine LeO.ite ?_ ?_)
      | (with_reducible refine LeO.bind ?_ (fun _ => ?_))
      | exact impl_PutOID.mono _ _
      | exact LeO.none _
      | refine LeO.ite ?_ ?_
      | refine LeO.bind ?_ (fun _ => ?_)
set_option maxHeartbeats 8000000 in
set_option maxRecDepth 100000 in
theorem laws_FnShortOID.calls (k : Nat) (A0 : Option Addr) (c0 : Nat) (l0 : List Int) (r : Bool) (w : World) (hr0 : Kd.C (Kd.int .i64) w A0 l0.length l0) (hc0 : l0.length ≤ c0) (h : laws_FnShortOID.f k l0 = some r) (hrt : r = true) :
    Calls Try.prog 9 #[.slice A0 l0.length c0] w fun e w' => e = .returned (.bool r) ∧ Below w.heap.size w w' := by
  have HR0 := Aside0.mk hr0
  have HC0 := Aside0.mk hc0
  clear hr0 hc0
  have HB := Aside0.mk (Below.refl w.heap.size w)
  have HRT := Aside0.mk hrt
  clear hrt
  have H : (if (l0.length : Int) > 2147483647 then (some true) else (if (l0.length : Int) > 1 then (some true) else ((impl_PutOID.f k l0).bind fun bt128 => ((impl_PutOID.f k (([1, 2, 3] : List Int))).bind fun bt135 => (if bt128.2 = true then (some false) else (some bt135.2)))))) = some r := h
  clear h
  by_cases c2 : (l0.length : Int) > 2147483647
  · rw [if_pos c2] at H
    have c2b0 : decide (2147483647 < (l0.length : Int)) = true := decide_eq_true c2
    have c2b1 : decide (2147483647 < l0.length) = true := decide_eq_true (by omega)
    clear c2
    obtain rfl := Option.some.inj H
    go_enter Try.func9, Try.ntmps9
    go_wp2
    go_ret
    exact ⟨by first | rfl | (simp [errW_none, errW_some] <;> rfl) | (simp [*, errW_none, errW_some] <;> rfl), by repeat (first | (with_reducible first | exact HB.out | apply below_alloc | apply pw_below_drewN | apply below_drew1) | exact HB.out)⟩
  · rw [if_neg c2] at H
    have c2b0 : decide (2147483647 < (l0.length : Int)) = false := decide_eq_false c2
    have c2b1 : decide (2147483647 < l0.length) = false := decide_eq_false (by omega)
    clear c2
    by_cases c3 : (l0.length : Int) > 1
    · rw [if_pos c3] at H
      have c3b0 : decide (1 < (l0.length : Int)) = true := decide_eq_true c3
      have c3b1 : decide (1 < l0.length) = true := decide_eq_true (by omega)
      clear c3
      obtain rfl := Option.some.inj H
      go_enter Try.func9, Try.ntmps9
      go_wp2
      go_ret
      exact ⟨by first | rfl | (simp [errW_none, errW_some] <;> rfl) | (simp [*, errW_none, errW_some] <;> rfl), by repeat (first | (with_reducible first | exact HB.out | apply below_alloc | apply pw_below_drewN | apply below_drew1) | exact HB.out)⟩
    · rw [if_neg c3] at H
      have c3b0 : decide (1 < (l0.length : Int)) = false := decide_eq_false c3
      have c3b1 : decide (1 < l0.length) = false := decide_eq_false (by omega)
      clear c3
      replace H := Option.bind_eq_some_iff.mp H
      obtain ⟨⟨t128, t129⟩, A40, H⟩ := H
      replace H : ((impl_PutOID.f k (([1, 2, 3] : List Int))).bind fun bt135 => (if t129 = true then (some false) else (some bt135.2))) = some r := H
      have A4 := Aside0.mk A40
      clear A40
      obtain ⟨y132, hy132⟩ : ∃ y_ : List Int, y_ = (([1, 2, 3] : List Int)) := ⟨_, rfl⟩
      replace H : ((impl_PutOID.f k y132).bind fun bt135 => (if t129 = true then (some false) else (some bt135.2))) = some r := by first | (rw [hy132]; with_reducible exact H) | (have H2_ := (Option.bind_some _ _).symm.trans H; rw [hy132]; with_reducible exact H2_) | (have H2_ := (Option.bind_some _ _).symm.trans H; with_reducible exact H2_) | with_reducible exact H | (rw [hy132]; exact H) | exact H
      have Ny132 := Aside0.mk hy132
      clear hy132
      replace H := Option.bind_eq_some_iff.mp H
      obtain ⟨⟨t135, t136⟩, A50, H⟩ := H
      replace H : (if t129 = true then (some false) else (some t136)) = some r := H
      have A5 := Aside0.mk A50
      clear A50
      by_cases c6 : t129 = true
      · subst c6
        have H1 : (some false) = some r := by rw [if_pos rfl] at H; exact H
        clear H
        have H := H1
        clear H1
        exact absurd (Option.some.inj H) (by rw [HRT.out]; simp)
      · replace c6 := Bool.eq_false_iff.mpr c6
        subst c6
        have H1 : (some t136) = some r := by rw [if_neg (show ¬ (false = true) by decide)] at H; exact H
        clear H
        have H := H1
        clear H1
        obtain rfl := Option.some.inj H
        go_enter Try.func9, Try.ntmps9
        go_wp2_with (first | ((with_reducible refine gate_callee (f := 21) rfl ?_); refine goesL_ (some 15) rfl rfl Try.func21 (by kernel_rfl) rfl #[.slice A0 l0.length c0] rfl (by (try simp only [List.map_toArray, List.map_cons, List.map_nil]); first | done | rfl | (simp only [List.length_drop, List.length_take]; rfl)) ?_; (with_reducible refine (impl_PutOID.calls k _ _ l0 t128 false _ ?side1 ?side2 A4.out).mono ?_); (case side1 => repeat (first | exact HR0.out | (with_reducible refine Kd.C_alloc ?_ _) | (with_reducible refine Kd.C_drewN ?_ _) | (with_reducible refine Kd.C_drew ?_))); (case side2 => exact HC0.out); rintro e w7 ⟨v130, rfl, ho0, hb⟩; refine ⟨_, rfl, ?_⟩; have n0_ := Aside0.mk (Kd.R_lower ho0 (below_size (by repeat (first | (with_reducible first | exact HB.out | apply below_alloc | apply pw_below_drewN | apply below_drew1) | exact HB.out)))); have n1_ := Aside0.mk (below_step (by repeat (first | (with_reducible first | exact HB.out | apply below_alloc | apply pw_below_drewN | apply below_drew1) | exact HB.out)) hb); clear HB; have HO131 := n0_; have HB := n1_; clear n0_ n1_; (try clear hb); (try clear hb2); (try clear hk); (try clear hi); (try clear ho0)) | ((with_reducible refine gate_dst (N := 19) rfl ?_); refine Kd.R_lit (Kd.int .i64) _ 3 ?hg (N := 19) ?hd (xs := ([1, 2, 3] : List Int)) (inner := [.int .i64 1, .int .i64 2, .int .i64 3]) (ok := fun _ => True) (okp := fun _ => True) ?hr ?hp (fun _ hk => hk) trivial (Below.refl _ _) (Nat.le_refl _) (by simp) ?_; (case hd => rfl); (case hg => rfl); (case hr => first | (go_simp; done) | (go_simp; rfl)); (case hp => exact (Reps.one (show Kd.M (Kd.int .i64) _ _ _ 1 [.int .i64 1] from rfl) (Reps.one (show Kd.M (Kd.int .i64) _ _ _ 2 [.int .i64 2] from rfl) (Reps.one (show Kd.M (Kd.int .i64) _ _ _ 3 [.int .i64 3] from rfl) (Reps.none _ _))))); intro v133 w8 ho9 hb hg_ hnew_; clear hg_ hnew_; (first | rw [← Ny132.out] at ho9 | (simp only [Int.reduceToNat] at ho9; rw [← Ny132.out] at ho9)); have n0_ := Aside0.mk (Kd.R_below (by (with_reducible repeat (first | apply Kd.R_alloc | apply Kd.R_drewN | apply Kd.R_drew)); exact HO131.out) hb); have n1_ := Aside0.mk (Kd.R_lower ho9 (below_size (by repeat (first | (with_reducible first | exact HB.out | apply below_alloc | apply pw_below_drewN | apply below_drew1) | exact HB.out)))); have n2_ := Aside0.mk (below_step (by repeat (first | (with_reducible first | exact HB.out | apply below_alloc | apply pw_below_drewN | apply below_drew1) | exact HB.out)) hb); clear HO131; clear HB; have HO131 := n0_; have HO134 := n1_; have HB := n2_; clear n0_ n1_ n2_; clear hb ho9; obtain ⟨Ao10, co10, eo10⟩ := Kd.R_slice HO134.out; subst eo10) | ((with_reducible refine gate_callee (f := 21) rfl ?_); refine goesL_ (some 20) rfl rfl Try.func21 (by kernel_rfl) rfl #[.slice Ao10 y132.length co10] rfl (by (try simp only [List.map_toArray, List.map_cons, List.map_nil]); first | done | rfl | (simp only [List.length_drop, List.length_take]; rfl)) ?_; (with_reducible refine (impl_PutOID.calls k _ _ y132 t135 t136 _ ?side1 ?side2 A5.out).mono ?_); (case side1 => repeat (first | exact (Kd.R_reads' HO134.out).2.2 | (with_reducible refine Kd.C_alloc ?_ _) | (with_reducible refine Kd.C_drewN ?_ _) | (with_reducible refine Kd.C_drew ?_))); (case side2 => exact (Kd.R_reads' HO134.out).2.1); rintro e w11 ⟨v137, rfl, ho0, hb⟩; refine ⟨_, rfl, ?_⟩; have n0_ := Aside0.mk (Kd.R_elder' (by (with_reducible repeat (first | apply Kd.R_alloc | apply Kd.R_drewN | apply Kd.R_drew)); exact HO131.out) (Kd.R_base ho0) hb); have n1_ := Aside0.mk (Kd.R_below (by (with_reducible repeat (first | apply Kd.R_alloc | apply Kd.R_drewN | apply Kd.R_drew)); exact HO134.out) hb); have n2_ := Aside0.mk (Kd.R_lower (Kd.R_new' ho0 (Kd.R_lt (by (with_reducible repeat (first | apply Kd.R_alloc | apply Kd.R_drewN | apply Kd.R_drew)); exact HO131.out))) (below_size (by repeat (first | (with_reducible first | exact HB.out | apply below_alloc | apply pw_below_drewN | apply below_drew1) | exact HB.out)))); have n3_ := Aside0.mk (below_step (by repeat (first | (with_reducible first | exact HB.out | apply below_alloc | apply pw_below_drewN | apply below_drew1) | exact HB.out)) hb); clear HO131; clear HO134; clear HB; have HO131 := n0_; have HO134 := n1_; have HO138 := n2_; have HB := n3_; clear n0_ n1_ n2_ n3_; (try clear hb); (try clear hb2); (try clear hk); (try clear hi); (try clear ho0)))
        go_ret
        exact ⟨by first | rfl | (simp [errW_none, errW_some] <;> rfl) | (simp [*, errW_none, errW_some] <;> rfl), by repeat (first | (with_reducible first | exact HB.out | apply below_alloc | apply pw_below_drewN | apply below_drew1) | exact HB.out)⟩

/-- THE ONE PURE STATEMENT of laws_FnShortOID: yours. -/
def laws_FnShortOID.Pure : Prop := ∀ (l0 : List Int), l0.length ≤ maxLen → l0.length * 8 ≤ 140737488351232 → (∀ x ∈ l0, (Lit.int .i64 x).wf = true) → ∃ k, laws_FnShortOID.f k l0 = some true
theorem laws_FnShortOID.walk (P : laws_FnShortOID.Pure) (a0 : Option Addr) (len0 cap0 : Nat) (z0 : List Int) (w : World) (w0 : (a0 = none ∧ len0 = 0 ∧ cap0 = 0 ∧ z0 = []) ∨ ∃ x, a0 = some x ∧ len0 ≤ cap0 ∧ cap0 ≤ maxLen ∧ z0.length = cap0 ∧ (∀ i, i < z0.length → w.cell? (x.add i) = some (.int .i64 (z0.getD i 0))) ∧ ∀ n ∈ z0, (Lit.int .i64 n).wf = true) (y0 : len0 * 8 ≤ 140737488351232) :
    Calls Try.prog 9 #[.slice a0 len0 cap0] w fun e w' => e = .returned (.bool true) ∧ Below w.heap.size w w' := by
  obtain ⟨l0, rfl, hr0, hm0, hw0, hc0⟩ := ReadsInt.ofRowC w0
  obtain ⟨k, h⟩ := P l0 hm0 y0 hw0
  refine (laws_FnShortOID.calls k _ _ l0 true w (Kd.C_of_reads (d := (0 : Int)) (h1 := fun _ => rfl) hr0) hc0 h rfl).mono ?_
  rintro e w' ⟨rfl, hd⟩
  exact ⟨rfl, hd⟩

/-! ### bytes_Equal: function 17 -/
def bytes_Equal.f (l0 : List Int) (l1 : List Int) : Option (Bool) := some ((strOfNums l0).toList == (strOfNums l1).toList)
set_option maxHeartbeats 8000000 in
set_option maxRecDepth 100000 in
theorem bytes_Equal.calls (A0 : Option Addr) (c0 : Nat) (l0 : List Int) (A1 : Option Addr) (c1 : Nat) (l1 : List Int) (r : Bool) (w : World) (hr0 : Kd.C (Kd.int .u8) w A0 l0.length l0) (hc0 : l0.length ≤ c0) (hr1 : Kd.C (Kd.int .u8) w A1 l1.length l1) (hc1 : l1.length ≤ c1) (h : bytes_Equal.f l0 l1 = some r) :
    Calls Try.prog 17 #[.slice A0 l0.length c0, .slice A1 l1.length c1] w fun e w' => e = .returned (.bool r) ∧ Drawn0 w w' := by
  have HR0 := Aside0.mk hr0
  have HC0 := Aside0.mk hc0
  clear hr0 hc0
  have HR1 := Aside0.mk hr1
  have HC1 := Aside0.mk hc1
  clear hr1 hc1
  have H : (some ((strOfNums l0).toList == (strOfNums l1).toList)) = some r := h
  clear h
  obtain rfl := Option.some.inj H
  have hcv3 := Kd.C_string (P := Try.prog) (A := A0) (c := c0) Try.underlying25 Try.underlying5 Try.underlying9 HR0.out
  have hcv4 := Kd.C_string (P := Try.prog) (A := A1) (c := c1) Try.underlying25 Try.underlying5 Try.underlying9 HR1.out
  go_enter Try.func17, Try.ntmps17
  go_wp2
  go_ret
  exact ⟨by first | rfl | (simp; done) | (simp [*]; done), by repeat (first | exact Drawn0.refl _ | apply Drawn0.step)⟩

/-! ### laws_numbers: function 20 -/
def laws_numbers.l0 : Nat → List Int → List Int → Int → Int → Option (Bool)
  | 0, _, _, _, _ => none
  | k + 1, x0, x5, x6, x7 => if x7 < x6 then (if 0 ≤ x7 then (if x7 < (x5.length : Int) then (if (rd x5 x7) < 0 then (some false) else (if (rd x5 x7) ≥ 1073741824 then (some false) else (laws_numbers.l0 k x0 x5 x6 (wrap64 (x7 + 1))))) else (none)) else (none)) else (if (x0.length : Int) ≥ 2 then (some (decide ((x0.length : Int) ≤ 30))) else (some false))
def laws_numbers.f (k : Nat) (l0 : List Int) : Option (Bool) := laws_numbers.l0 k l0 l0 (l0.length : Int) 0
theorem laws_numbers.mono_l : ∀ k, (∀ y0 y1 y2 y3, LeO (laws_numbers.l0 k y0 y1 y2 y3) (laws_numbers.l0 (k + 1) y0 y1 y2 y3))
  | 0 => fun _ _ _ _ r h => by simp [laws_numbers.l0] at h
  | k + 1 => by
    have ih0 := laws_numbers.mono_l k
    · intro y0 y1 y2 y3
      unfold laws_numbers.l0
      repeat' first
      | (with_reducible exact ih0 _ _ _ _)
      | (with_reducible exact LeO.refl _)
      | (with_reducible exact LeO.none _)
      | (with_reducible refine LeO.ite ?_ ?_)
      | (with_reducible refine LeO.bind ?_ (fun _ => ?_))
      | exact ih0 _ _ _ _
      | exact LeO.none _
      | refine LeO.ite ?_ ?_
      | refine LeO.bind ?_ (fun _ => ?_)
theorem laws_numbers.mono : ∀ a0 k, LeO (laws_numbers.f k a0) (laws_numbers.f (k + 1) a0) := by
  intro a0 k
  have ih0 := laws_numbers.mono_l k
  unfold laws_numbers.f
  repeat' first
      | (with_reducible exact ih0 _ _ _ _)
      | (with_reducible exact LeO.refl _)
      | (with_reducible exact LeO.none _)
      | (with_reducible refine LeO.ite ?_ ?_)
      | (with_reducible refine LeO.bind ?_ (fun _ => ?_))
      | exact ih0 _ _ _ _
      | exact LeO.none _
      | refine LeO.ite ?_ ?_
      | refine LeO.bind ?_ (fun _ => ?_)
set_option maxHeartbeats 8000000 in
set_option maxRecDepth 100000 in
theorem laws_numbers.calls (k : Nat) (A0 : Option Addr) (c0 : Nat) (l0 : List Int) (r : Bool) (w : World) (hr0 : Kd.C (Kd.int .i64) w A0 l0.length l0) (hc0 : l0.length ≤ c0) (h : laws_numbers.f k l0 = some r) :
    Calls Try.prog 20 #[.slice A0 l0.length c0] w fun e w' => e = .returned (.bool r) ∧ Drawn0 w w' := by
  have HR0 := Aside0.mk hr0
  have HC0 := Aside0.mk hc0
  clear hr0 hc0
  have H : (laws_numbers.l0 k l0 l0 (l0.length : Int) 0) = some r := h
  clear h
  have H' := Aside0.mk H
  clear H
  go_enter Try.func20, Try.ntmps20
  go_wp2
  go_loopg [7] k (fun kq v7 w' => ∃ (x7_1 : Int), v7 = .int .i64 x7_1 ∧ Aside0 (laws_numbers.l0 kq l0 l0 (l0.length : Int) x7_1 = some r) ∧ Aside0 (kq ≤ k) ∧ Drawn0 w w')
  case atStart => exact ⟨(0), (by first | rfl | (simp; done) | (simp [*]; done)), H', ⟨Nat.le_refl _⟩, by repeat (first | exact Drawn0.refl _ | apply Drawn0.step)⟩
  case round =>
    clear H'
    obtain ⟨x7_1, rfl, HA, HK1, ⟨m1, rfl⟩⟩ := hrel
    cases gk with
    | zero => exact absurd HA.out (by simp [laws_numbers.l0])
    | succ k1 =>
      have H := HA.out
      clear HA
      simp only [laws_numbers.l0] at H
      by_cases c2 : x7_1 < (l0.length : Int)
      · rw [if_pos c2] at H
        have c2b0 : decide (x7_1 < (l0.length : Int)) = true := decide_eq_true c2
        clear c2
        by_cases c3 : 0 ≤ x7_1
        · rw [if_pos c3] at H
          have c3b0 : decide (0 ≤ x7_1) = true := decide_eq_true c3
          clear c3
          by_cases c4 : x7_1 < (l0.length : Int)
          · rw [if_pos c4] at H
            have c4b0 : decide (x7_1 < (l0.length : Int)) = true := decide_eq_true c4
            clear c4
            by_cases c5 : (rd l0 x7_1) < 0
            · rw [if_pos c5] at H
              have c5b0 : decide ((rd l0 x7_1) < 0) = true := decide_eq_true c5
              clear c5
              obtain rfl := Option.some.inj H
              have p139 : 0 ≤ (x7_1 : Int) := of_decide_eq_true (by first | (with_reducible assumption) | assumption)
              have q139 : x7_1 < (l0.length : Int) := of_decide_eq_true (by first | (with_reducible assumption) | assumption)
              obtain ⟨ad139, e139, hx139_0⟩ := Kd.at_int HR0.out x7_1 p139 q139
              cases e139
              replace p139 := eq_true p139
              replace q139 := eq_true q139
              go_wp2
              go_ret
              exact ⟨by first | rfl | (simp; done) | (simp [*]; done), by repeat (first | exact Drawn0.refl _ | apply Drawn0.step)⟩
            · rw [if_neg c5] at H
              have c5b0 : decide ((rd l0 x7_1) < 0) = false := decide_eq_false c5
              clear c5
              by_cases c6 : (rd l0 x7_1) ≥ 1073741824
              · rw [if_pos c6] at H
                have c6b0 : decide (1073741824 ≤ (rd l0 x7_1)) = true := decide_eq_true c6
                clear c6
                obtain rfl := Option.some.inj H
                have p139 : 0 ≤ (x7_1 : Int) := of_decide_eq_true (by first | (with_reducible assumption) | assumption)
                have q139 : x7_1 < (l0.length : Int) := of_decide_eq_true (by first | (with_reducible assumption) | assumption)
                obtain ⟨ad139, e139, hx139_0⟩ := Kd.at_int HR0.out x7_1 p139 q139
                cases e139
                replace p139 := eq_true p139
                replace q139 := eq_true q139
                go_wp2
                go_ret
                exact ⟨by first | rfl | (simp; done) | (simp [*]; done), by repeat (first | exact Drawn0.refl _ | apply Drawn0.step)⟩
              · rw [if_neg c6] at H
                have c6b0 : decide (1073741824 ≤ (rd l0 x7_1)) = false := decide_eq_false c6
                clear c6
                have H' := Aside0.mk H
                clear H
                have p139 : 0 ≤ (x7_1 : Int) := of_decide_eq_true (by first | (with_reducible assumption) | assumption)
                have q139 : x7_1 < (l0.length : Int) := of_decide_eq_true (by first | (with_reducible assumption) | assumption)
                obtain ⟨ad139, e139, hx139_0⟩ := Kd.at_int HR0.out x7_1 p139 q139
                cases e139
                replace p139 := eq_true p139
                replace q139 := eq_true q139
                go_wp2
                go_roundg k1
                case measure => have := HK1.out; omega
                case rel => exact ⟨(wrap64 (x7_1 + 1)), (by first | rfl | (simp; done) | (simp [*]; done)), H', ⟨by have := HK1.out; omega⟩, by repeat (first | exact Drawn0.refl _ | apply Drawn0.step)⟩
          · rw [if_neg c4] at H
            exact absurd H (by simp)
        · rw [if_neg c3] at H
          exact absurd H (by simp)
      · rw [if_neg c2] at H
        have c2b0 : decide (x7_1 < (l0.length : Int)) = false := decide_eq_false c2
        clear c2
        by_cases c7 : (l0.length : Int) ≥ 2
        · rw [if_pos c7] at H
          have c7b0 : decide (2 ≤ (l0.length : Int)) = true := decide_eq_true c7
          have c7b1 : decide (2 ≤ l0.length) = true := decide_eq_true (by omega)
          clear c7
          obtain rfl := Option.some.inj H
          go_wp2
          go_ret
          exact ⟨by first | rfl | (simp; done) | (simp [*]; done), by repeat (first | exact Drawn0.refl _ | apply Drawn0.step)⟩
        · rw [if_neg c7] at H
          have c7b0 : decide (2 ≤ (l0.length : Int)) = false := decide_eq_false c7
          have c7b1 : decide (2 ≤ l0.length) = false := decide_eq_false (by omega)
          clear c7
          obtain rfl := Option.some.inj H
          go_wp2
          go_ret
          exact ⟨by first | rfl | (simp; done) | (simp [*]; done), by repeat (first | exact Drawn0.refl _ | apply Drawn0.step)⟩

/-! ### impl_copied: function 44 -/
def impl_copied.f (l0 : List Int) : Option (List Int) := if ([] : List Int).length + l0.length < 140737488355328 then (some (([] : List Int) ++ l0)) else (none)
set_option maxHeartbeats 8000000 in
set_option maxRecDepth 100000 in
theorem impl_copied.calls (A0 : Option Addr) (c0 : Nat) (l0 : List Int) (r : List Int) (w : World) (hr0 : Kd.C (Kd.int .u8) w A0 l0.length l0) (hc0 : l0.length ≤ c0) (h : impl_copied.f l0 = some r) :
    Calls Try.prog 44 #[.slice A0 l0.length c0] w fun e w' => ∃ v0_ : Value, e = .returned (v0_) ∧ Kd.R (Kd.int .u8) 5 w' w.heap.size (fun _ => True) v0_ r ∧ Below w.heap.size w w' := by
  have HR0 := Aside0.mk hr0
  have HC0 := Aside0.mk hc0
  clear hr0 hc0
  have HB := Aside0.mk (Below.refl w.heap.size w)
  have H : (if ([] : List Int).length + l0.length < 140737488355328 then (some (([] : List Int) ++ l0)) else (none)) = some r := h
  clear h
  by_cases c2 : ([] : List Int).length + l0.length < 140737488355328
  · rw [if_pos c2] at H
    have LMc2 := Aside0.mk c2
    clear c2
    obtain ⟨y140, hy140⟩ : ∃ y_ : List Int, y_ = (([] : List Int) ++ l0) := ⟨_, rfl⟩
    replace H : (some y140) = some r := by first | (rw [hy140]; with_reducible exact H) | (have H2_ := (Option.bind_some _ _).symm.trans H; rw [hy140]; with_reducible exact H2_) | (have H2_ := (Option.bind_some _ _).symm.trans H; with_reducible exact H2_) | with_reducible exact H | (rw [hy140]; exact H) | exact H
    have Ny140 := Aside0.mk hy140
    clear hy140
    obtain rfl := Option.some.inj H
    go_enter Try.func44, Try.ntmps44
    go_wp2_with (first | ((with_reducible refine gate_builtin (b := .append) (xs := #[.const (.slice none 0 0), .tmp 3]) rfl ?_); at_builtin; refine Kd.R_append_rows (Kd.int .u8) (w0 := w) w.heap.size rfl (.const (.slice none 0 0)) (.tmp 3) 25 5 (.int .u8 0) 1 rfl Try.underlying25 info5 rfl (by decide) (by omega) (.slice none 0 0) ([] : List Int) l0 _ _ _ (fun _ => True) (fun _ => False) rfl rfl ?aO ?aR (fun _ _ h => h) (fun _ h => h.elim) ?aF ?aB ?aS ?aL ?_; (case aR => repeat (first | exact HR0.out | (with_reducible refine Kd.C_alloc ?_ _) | (with_reducible refine Kd.C_drewN ?_ _) | (with_reducible refine Kd.C_drew ?_))); (case aB => exact (by repeat (first | (with_reducible first | exact HB.out | apply below_alloc | apply pw_below_drewN | apply below_drew1) | exact HB.out))); (case aF => exact (fun _ _ => trivial)); (case aO => exact ((Kd.R_nil _ _ _ _ (fun _ => True)))); (case aS => exact (below_size (by repeat (first | (with_reducible first | exact HB.out | apply below_alloc | apply pw_below_drewN | apply below_drew1) | exact HB.out)))); (case aL => have := LMc2.out; omega); intro v141 w3 ho hb hg hat; rw [← Ny140.out] at ho; have n0_ := Aside0.mk (hb); have n1_ := Aside0.mk (ho); clear HB; have HB := n0_; have HO142 := n1_; clear n0_ n1_; clear ho hb hg hat))
    go_ret
    exact ⟨_, by first | rfl | (simp [errW_none, errW_some] <;> rfl) | (simp [*, errW_none, errW_some] <;> rfl), by (with_reducible repeat (first | apply Kd.R_alloc | apply Kd.R_drewN | apply Kd.R_drew)); exact HO142.out, by repeat (first | (with_reducible first | exact HB.out | apply below_alloc | apply pw_below_drewN | apply below_drew1) | exact HB.out)⟩
  · rw [if_neg c2] at H
    exact absurd H (by simp)

/-! ### impl_short: function 48 -/
def impl_short.f (l0 : List Int) : Option (Bool) := some (decide ((l0.length : Int) ≤ 10000))
set_option maxHeartbeats 8000000 in
set_option maxRecDepth 100000 in
theorem impl_short.calls (A0 : Option Addr) (c0 : Nat) (l0 : List Int) (r : Bool) (w : World) (hr0 : Kd.C (Kd.int .u8) w A0 l0.length l0) (hc0 : l0.length ≤ c0) (h : impl_short.f l0 = some r) :
    Calls Try.prog 48 #[.slice A0 l0.length c0] w fun e w' => e = .returned (.bool r) ∧ Drawn0 w w' := by
  have HR0 := Aside0.mk hr0
  have HC0 := Aside0.mk hc0
  clear hr0 hc0
  have H : (some (decide ((l0.length : Int) ≤ 10000))) = some r := h
  clear h
  obtain rfl := Option.some.inj H
  go_enter Try.func48, Try.ntmps48
  go_wp2
  go_ret
  exact ⟨by first | rfl | (simp; done) | (simp [*]; done), by repeat (first | exact Drawn0.refl _ | apply Drawn0.step)⟩

/-! ### asn1_parseBase128Int: function 96 -/
mutual
def asn1_parseBase128Int.l0 : Nat → List Int → Int → Int → Option Int → Int → Int → Option (Int × Int × Option Int)
  | 0, _, _, _, _, _, _ => none
  | k + 1, x0, x4, x5, x6, x7, x8 => if x5 < (x0.length : Int) then (if x8 = 5 then (some (x4, x5, some 2)) else (if 0 ≤ x5 then (if x8 = 0 then (asn1_parseBase128Int.j1 k x0 x4 x5 x6 (wrap64 (x7 * 128)) x8 (rd x0 x5) ((rd x0 x5) == 128)) else (asn1_parseBase128Int.j1 k x0 x4 x5 x6 (wrap64 (x7 * 128)) x8 (rd x0 x5) false)) else (none))) else (some (x4, x5, some 1))
def asn1_parseBase128Int.j1 : Nat → List Int → Int → Int → Option Int → Int → Int → Int → Bool → Option (Int × Int × Option Int)
  | 0, _, _, _, _, _, _, _, _ => none
  | k + 1, x0, x4, x5, x6, x7, x8, x9, x32 => if x32 = true then (some (x4, x5, some 3)) else (if (Go.bits .and .u8 x9 128) = 0 then (if (Go.bits .or .i64 x7 (wrap64 (Go.bits .and .u8 x9 127))) > 2147483647 then (some (Go.bits .or .i64 x7 (wrap64 (Go.bits .and .u8 x9 127)), wrap64 (x5 + 1), some 2)) else (some (Go.bits .or .i64 x7 (wrap64 (Go.bits .and .u8 x9 127)), wrap64 (x5 + 1), x6))) else (asn1_parseBase128Int.l0 k x0 x4 (wrap64 (x5 + 1)) x6 (Go.bits .or .i64 x7 (wrap64 (Go.bits .and .u8 x9 127))) (wrap64 (x8 + 1))))
end
def asn1_parseBase128Int.f (k : Nat) (l0 : List Int) (a1 : Int) : Option (Int × Int × Option Int) := asn1_parseBase128Int.l0 k l0 0 a1 none 0 0
theorem asn1_parseBase128Int.mono_l : ∀ k, (∀ y0 y1 y2 y3 y4 y5, LeO (asn1_parseBase128Int.l0 k y0 y1 y2 y3 y4 y5) (asn1_parseBase128Int.l0 (k + 1) y0 y1 y2 y3 y4 y5)) ∧ (∀ y0 y1 y2 y3 y4 y5 y6 y7, LeO (asn1_parseBase128Int.j1 k y0 y1 y2 y3 y4 y5 y6 y7) (asn1_parseBase128Int.j1 (k + 1) y0 y1 y2 y3 y4 y5 y6 y7))
  | 0 => ⟨fun _ _ _ _ _ _ r h => by simp [asn1_parseBase128Int.l0] at h, fun _ _ _ _ _ _ _ _ r h => by simp [asn1_parseBase128Int.j1] at h⟩
  | k + 1 => by
    obtain ⟨ih0, ih1⟩ := asn1_parseBase128Int.mono_l k
    refine ⟨?_, ?_⟩
    · intro y0 y1 y2 y3 y4 y5
      unfold asn1_parseBase128Int.l0
      repeat' first
      | (with_reducible exact ih0 _ _ _ _ _ _)
      | (with_reducible exact ih1 _ _ _ _ _ _ _ _)
      | (with_reducible exact LeO.refl _)
      | (with_reducible exact LeO.none _)
      | (with_reducible refine LeO.ite ?_ ?_)
      | (with_reducible refine LeO.bind ?_ (fun _ => ?_))
      | exact ih0 _ _ _ _ _ _
      | exact ih1 _ _ _ _ _ _ _ _
      | exact LeO.none _
      | refine LeO.ite ?_ ?_
      | refine LeO.bind ?_ (fun _ => ?_)
    · intro y0 y1 y2 y3 y4 y5 y6 y7
      unfold asn1_parseBase128Int.j1
      repeat' first
      | (with_reducible exact ih0 _ _ _ _ _ _)
      | (with_reducible exact ih1 _ _ _ _ _ _ _ _)
      | (with_reducible exact LeO.refl _)
      | (with_reducible exact LeO.none _)
      | (with_reducible refine LeO.ite ?_ ?_)
      | (with_reducible refine LeO.bind ?_ (fun _ => ?_))
      | exact ih0 _ _ _ _ _ _
      | exact ih1 _ _ _ _ _ _ _ _
      | exact LeO.none _
      | refine LeO.ite ?_ ?_
      | refine LeO.bind ?_ (fun _ => ?_)
theorem asn1_parseBase128Int.mono : ∀ a0 a1 k, LeO (asn1_parseBase128Int.f k a0 a1) (asn1_parseBase128Int.f (k + 1) a0 a1) := by
  intro a0 a1 k
  obtain ⟨ih0, ih1⟩ := asn1_parseBase128Int.mono_l k
  unfold asn1_parseBase128Int.f
  repeat' first
      | (with_reducible exact ih0 _ _ _ _ _ _)
      | (with_reducible exact ih1 _ _ _ _ _ _ _ _)
      | (with_reducible exact LeO.refl _)
      | (with_reducible exact LeO.none _)
      | (with_reducible refine LeO.ite ?_ ?_)
      | (with_reducible refine LeO.bind ?_ (fun _ => ?_))
      | exact ih0 _ _ _ _ _ _
      | exact ih1 _ _ _ _ _ _ _ _
      | exact LeO.none _
      | refine LeO.ite ?_ ?_
      | refine LeO.bind ?_ (fun _ => ?_)
set_option maxHeartbeats 8000000 in
set_option maxRecDepth 100000 in
theorem asn1_parseBase128Int.calls (k : Nat) (A0 : Option Addr) (c0 : Nat) (l0 : List Int) (a1 : Int) (r1 : Int) (r2 : Int) (r3 : Option Int) (w : World) (hr0 : Kd.C (Kd.int .u8) w A0 l0.length l0) (hc0 : l0.length ≤ c0) (h : asn1_parseBase128Int.f k l0 a1 = some (r1, r2, r3)) :
    Calls Try.prog 96 #[.slice A0 l0.length c0, .int .i64 a1] w fun e w' => e = .returned (.tuple #[.int .i64 r1, .int .i64 r2, errW r3]) ∧ Below w.heap.size w w' := by
  have hu133 := Try.underlying133
  have hu135 := Try.underlying135
  have hu72 := Try.underlying72
  have HR0 := Aside0.mk hr0
  have HC0 := Aside0.mk hc0
  clear hr0 hc0
  have HB := Aside0.mk (Below.refl w.heap.size w)
  have H : (asn1_parseBase128Int.l0 k l0 0 a1 none 0 0) = some (r1, r2, r3) := h
  clear h
  have H' := Aside0.mk H
  clear H
  go_enter Try.func96, Try.ntmps96
  go_wp2
  go_loopg [4, 5, 6, 7, 8] k (fun kq v4 v5 v6 v7 v8 w' => ∃ (x4_1 : Int) (x5_1 : Int) (x6_1 : Option Int) (x7_1 : Int) (x8_1 : Int), v4 = .int .i64 x4_1 ∧ v5 = .int .i64 x5_1 ∧ v6 = errW x6_1 ∧ v7 = .int .i64 x7_1 ∧ v8 = .int .i64 x8_1 ∧ Aside0 (asn1_parseBase128Int.l0 kq l0 x4_1 x5_1 x6_1 x7_1 x8_1 = some (r1, r2, r3)) ∧ Aside0 (kq ≤ k) ∧ Aside0 (Below w.heap.size w w'))
  case atStart => exact ⟨(0), (a1), (none), (0), (0), (by first | rfl | (simp; done) | (simp [*]; done)), (by first | rfl | (simp; done) | (simp [*]; done)), (by first | rfl | (simp; done) | (simp [*]; done)), (by first | rfl | (simp; done) | (simp [*]; done)), (by first | rfl | (simp; done) | (simp [*]; done)), H', ⟨Nat.le_refl _⟩, ⟨by repeat (first | (with_reducible first | exact HB.out | apply below_alloc | apply pw_below_drewN | apply below_drew1) | exact HB.out)⟩⟩
  case round =>
    clear H'
    try clear p2
    obtain ⟨x4_1, x5_1, x6_1, x7_1, x8_1, rfl, rfl, rfl, rfl, rfl, HA, HK1, HB⟩ := hrel
    cases gk with
    | zero => exact absurd HA.out (by simp [asn1_parseBase128Int.l0])
    | succ k1 =>
      have H := HA.out
      clear HA
      simp only [asn1_parseBase128Int.l0] at H
      by_cases c3 : x5_1 < (l0.length : Int)
      · rw [if_pos c3] at H
        have c3b0 : decide (x5_1 < (l0.length : Int)) = true := decide_eq_true c3
        clear c3
        by_cases c4 : x8_1 = 5
        · rw [if_pos c4] at H
          have c4b0 : (x8_1 == 5) = true := beq_iff_eq.mpr c4
          have c4b1 : (x8_1 != 5) = false := bne_eq_false_iff_eq.mpr c4
          clear c4
          simp only [Option.some.injEq, Prod.mk.injEq] at H
          obtain ⟨rfl, rfl, rfl⟩ := H
          go_wp2
          go_ret3
          exact ⟨by first | rfl | (simp [errW_none, errW_some] <;> rfl) | (simp [*, errW_none, errW_some] <;> rfl), by repeat (first | (with_reducible first | exact HB.out | apply below_alloc | apply pw_below_drewN | apply below_drew1) | exact HB.out)⟩
        · rw [if_neg c4] at H
          have c4b0 : (x8_1 == 5) = false := beq_eq_false_iff_ne.mpr c4
          have c4b1 : (x8_1 != 5) = true := bne_iff_ne.mpr c4
          by_cases c5 : 0 ≤ x5_1
          · rw [if_pos c5] at H
            have c5b0 : decide (0 ≤ x5_1) = true := decide_eq_true c5
            clear c5
            have HC6 := Aside0.mk H
            clear H
            have p143 : 0 ≤ (x5_1 : Int) := of_decide_eq_true (by first | (with_reducible assumption) | assumption)
            have q143 : x5_1 < (l0.length : Int) := of_decide_eq_true (by first | (with_reducible assumption) | assumption)
            obtain ⟨ad143, e143, hx143_0⟩ := Kd.at_int HR0.out x5_1 p143 q143
            cases e143
            replace hx143_0 := (HB.out.cell (World.block_lt_of_cell? w _ hx143_0)).trans hx143_0
            replace p143 := eq_true p143
            replace q143 := eq_true q143
            go_upto_region 10 with (fail)
            go_cut [32] (fun v32 wc => ∃ (kq : Nat) (x32_5 : Bool), v32 = .bool x32_5 ∧ Aside0 (asn1_parseBase128Int.j1 kq l0 x4_1 x5_1 x6_1 (wrap64 (x7_1 * 128)) x8_1 (rd l0 x5_1) x32_5 = some (r1, r2, r3)) ∧ Aside0 (kq ≤ k1) ∧ Aside0 (Below w.heap.size w wc))
            case first =>
              have H := HC6.out
              clear HC6
              by_cases c7 : x8_1 = 0
              · rw [if_pos c7] at H
                have c7b0 : (x8_1 == 0) = true := beq_iff_eq.mpr c7
                have c7b1 : (x8_1 != 0) = false := bne_eq_false_iff_eq.mpr c7
                clear c7
                (first | rw [c7b0] | (simp only [i64_w, i32_w]; rw [c7b0]) | skip)
                have H' := Aside0.mk H
                clear H
                go_wp2
                go_meet
                case rel => exact ⟨_, (((rd l0 x5_1) == 128)), (by first | rfl | (simp; done) | (simp [*]; done)), H', ⟨by have := HK1.out; first | omega | exact Nat.le_refl _⟩, ⟨by repeat (first | (with_reducible first | exact HB.out | apply below_alloc | apply pw_below_drewN | apply below_drew1) | exact HB.out)⟩⟩
              · rw [if_neg c7] at H
                have c7b0 : (x8_1 == 0) = false := beq_eq_false_iff_ne.mpr c7
                have c7b1 : (x8_1 != 0) = true := bne_iff_ne.mpr c7
                (first | rw [c7b0] | (simp only [i64_w, i32_w]; rw [c7b0]) | skip)
                have H' := Aside0.mk H
                clear H
                go_wp2
                go_meet
                case rel => exact ⟨_, (false), (by first | rfl | (simp; done) | (simp [*]; done)), H', ⟨by have := HK1.out; first | omega | exact Nat.le_refl _⟩, ⟨by repeat (first | (with_reducible first | exact HB.out | apply below_alloc | apply pw_below_drewN | apply below_drew1) | exact HB.out)⟩⟩
            case rest =>
              clear HC6
              try clear p1
              try clear q1
              try clear hx1
              try clear p2
              try clear c3
              try clear c3b0
              try clear c4
              try clear c4b0
              try clear c4b1
              try clear c5
              try clear c5b0
              try clear p6
              try clear c7
              try clear c7b0
              try clear c7b1
              try clear hx143_0
              try clear p143
              try clear p2
              try clear q143
              obtain ⟨kq, x32_5, rfl, HA, HJ5, HB⟩ := hcut
              cases kq with
              | zero => exact absurd HA.out (by simp [asn1_parseBase128Int.j1])
              | succ kj5 =>
                have H := HA.out
                clear HA
                simp only [asn1_parseBase128Int.j1] at H
                by_cases c8 : x32_5 = true
                · subst c8
                  have H1 : (some (x4_1, x5_1, some 3)) = some (r1, r2, r3) := by rw [if_pos rfl] at H; exact H
                  clear H
                  have H := H1
                  clear H1
                  simp only [Option.some.injEq, Prod.mk.injEq] at H
                  obtain ⟨rfl, rfl, rfl⟩ := H
                  go_wp2
                  go_ret3
                  exact ⟨by first | rfl | (simp [errW_none, errW_some] <;> rfl) | (simp [*, errW_none, errW_some] <;> rfl), by repeat (first | (with_reducible first | exact HB.out | apply below_alloc | apply pw_below_drewN | apply below_drew1) | exact HB.out)⟩
                · replace c8 := Bool.eq_false_iff.mpr c8
                  subst c8
                  have H1 : (if (Go.bits .and .u8 (rd l0 x5_1) 128) = 0 then (if (Go.bits .or .i64 (wrap64 (x7_1 * 128)) (wrap64 (Go.bits .and .u8 (rd l0 x5_1) 127))) > 2147483647 then (some (Go.bits .or .i64 (wrap64 (x7_1 * 128)) (wrap64 (Go.bits .and .u8 (rd l0 x5_1) 127)), wrap64 (x5_1 + 1), some 2)) else (some (Go.bits .or .i64 (wrap64 (x7_1 * 128)) (wrap64 (Go.bits .and .u8 (rd l0 x5_1) 127)), wrap64 (x5_1 + 1), x6_1))) else (asn1_parseBase128Int.l0 kj5 l0 x4_1 (wrap64 (x5_1 + 1)) x6_1 (Go.bits .or .i64 (wrap64 (x7_1 * 128)) (wrap64 (Go.bits .and .u8 (rd l0 x5_1) 127))) (wrap64 (x8_1 + 1)))) = some (r1, r2, r3) := by rw [if_neg (show ¬ (false = true) by decide)] at H; exact H
                  clear H
                  have H := H1
                  clear H1
                  by_cases c9 : (Go.bits .and .u8 (rd l0 x5_1) 128) = 0
                  · rw [if_pos c9] at H
                    have c9b0 : ((Go.bits .and .u8 (rd l0 x5_1) 128) == 0) = true := beq_iff_eq.mpr c9
                    have c9b1 : ((Go.bits .and .u8 (rd l0 x5_1) 128) != 0) = false := bne_eq_false_iff_eq.mpr c9
                    clear c9
                    by_cases c10 : (Go.bits .or .i64 (wrap64 (x7_1 * 128)) (wrap64 (Go.bits .and .u8 (rd l0 x5_1) 127))) > 2147483647
                    · rw [if_pos c10] at H
                      have c10b0 : decide (2147483647 < (Go.bits .or .i64 (wrap64 (x7_1 * 128)) (wrap64 (Go.bits .and .u8 (rd l0 x5_1) 127)))) = true := decide_eq_true c10
                      clear c10
                      simp only [Option.some.injEq, Prod.mk.injEq] at H
                      obtain ⟨rfl, rfl, rfl⟩ := H
                      go_wp2
                      go_ret3
                      exact ⟨by first | rfl | (simp [errW_none, errW_some] <;> rfl) | (simp [*, errW_none, errW_some] <;> rfl), by repeat (first | (with_reducible first | exact HB.out | apply below_alloc | apply pw_below_drewN | apply below_drew1) | exact HB.out)⟩
                    · rw [if_neg c10] at H
                      have c10b0 : decide (2147483647 < (Go.bits .or .i64 (wrap64 (x7_1 * 128)) (wrap64 (Go.bits .and .u8 (rd l0 x5_1) 127)))) = false := decide_eq_false c10
                      clear c10
                      simp only [Option.some.injEq, Prod.mk.injEq] at H
                      obtain ⟨rfl, rfl, rfl⟩ := H
                      go_wp2
                      go_ret3
                      exact ⟨by first | rfl | (simp [errW_none, errW_some] <;> rfl) | (simp [*, errW_none, errW_some] <;> rfl), by repeat (first | (with_reducible first | exact HB.out | apply below_alloc | apply pw_below_drewN | apply below_drew1) | exact HB.out)⟩
                  · rw [if_neg c9] at H
                    have c9b0 : ((Go.bits .and .u8 (rd l0 x5_1) 128) == 0) = false := beq_eq_false_iff_ne.mpr c9
                    have c9b1 : ((Go.bits .and .u8 (rd l0 x5_1) 128) != 0) = true := bne_iff_ne.mpr c9
                    have H' := Aside0.mk H
                    clear H
                    go_wp2
                    go_roundg kj5
                    case measure => have := HK1.out; have := HJ5.out; omega
                    case rel => exact ⟨(x4_1), (wrap64 (x5_1 + 1)), (x6_1), (Go.bits .or .i64 (wrap64 (x7_1 * 128)) (wrap64 (Go.bits .and .u8 (rd l0 x5_1) 127))), (wrap64 (x8_1 + 1)), (by first | rfl | (simp; done) | (simp [*]; done)), (by first | rfl | (simp; done) | (simp [*]; done)), (by first | rfl | (simp; done) | (simp [*]; done)), (by first | rfl | (simp; done) | (simp [*]; done)), (by first | rfl | (simp; done) | (simp [*]; done)), H', ⟨by have := HK1.out; have := HJ5.out; omega⟩, ⟨by repeat (first | (with_reducible first | exact HB.out | apply below_alloc | apply pw_below_drewN | apply below_drew1) | exact HB.out)⟩⟩
          · rw [if_neg c5] at H
            exact absurd H (by simp)
      · rw [if_neg c3] at H
        have c3b0 : decide (x5_1 < (l0.length : Int)) = false := decide_eq_false c3
        clear c3
        simp only [Option.some.injEq, Prod.mk.injEq] at H
        obtain ⟨rfl, rfl, rfl⟩ := H
        go_wp2
        go_ret3
        exact ⟨by first | rfl | (simp [errW_none, errW_some] <;> rfl) | (simp [*, errW_none, errW_some] <;> rfl), by repeat (first | (with_reducible first | exact HB.out | apply below_alloc | apply pw_below_drewN | apply below_drew1) | exact HB.out)⟩

end Go.Proofs.Ytmiemfgcggkbnaa.QP
