-- Written by a program of this work (wip/patch_print.py) for this claim.
import Derived.Test.YtmiemfgcggkbnaaQPx0
namespace Go.Proofs.Ytmiemfgcggkbnaa.QP
open Go.RowKit Go.Proofs.YtmiemfgcggkbnaaW.PrintWords Go.Proofs.YtmiemfgcggkbnaaW.PrintLast Go.Proofs.YtmiemfgcggkbnaaW.PrintMore
attribute [local go_sem] max2_int min2_int max_two min_two max_three min_three max_four min_four   -- for this text's walks alone
set_option linter.unusedVariables false
set_option linter.unusedSimpArgs false

-- NOT PRINTED: function 80 (asn1_zzEncoded)

-- NOT PRINTED: function 81 (asn1_makeObjectIdentifier)

/-! ### asn1_base128IntLength: function 138 -/
def asn1_base128IntLength.l0 : Nat → Int → Int → Option (Int)
  | 0, _, _ => none
  | k + 1, x3, x4 => if x4 > 0 then (asn1_base128IntLength.l0 k (wrap64 (x3 + 1)) (x4 / 128)) else (some x3)
def asn1_base128IntLength.f (k : Nat) (a0 : Int) : Option (Int) := if a0 = 0 then (some 1) else (asn1_base128IntLength.l0 k 0 a0)
theorem asn1_base128IntLength.mono_l : ∀ k, (∀ y0 y1, LeO (asn1_base128IntLength.l0 k y0 y1) (asn1_base128IntLength.l0 (k + 1) y0 y1))
  | 0 => fun _ _ r h => by simp [asn1_base128IntLength.l0] at h
  | k + 1 => by
    have ih0 := asn1_base128IntLength.mono_l k
    · intro y0 y1
      unfold asn1_base128IntLength.l0
      repeat' first
      | (with_reducible exact ih0 _ _)
      | (with_reducible exact LeO.refl _)
      | (with_reducible exact LeO.none _)
      | (with_reducible refine LeO.ite ?_ ?_)
      | (with_reducible refine LeO.bind ?_ (fun _ => ?_))
      | exact ih0 _ _
      | exact LeO.none _
      | refine LeO.ite ?_ ?_
      | refine LeO.bind ?_ (fun _ => ?_)
theorem asn1_base128IntLength.mono : ∀ a0 k, LeO (asn1_base128IntLength.f k a0) (asn1_base128IntLength.f (k + 1) a0) := by
  intro a0 k
  have ih0 := asn1_base128IntLength.mono_l k
  unfold asn1_base128IntLength.f
  repeat' first
      | (with_reducible exact ih0 _ _)
      | (with_reducible exact LeO.refl _)
      | (with_reducible exact LeO.none _)
      | (with_reducible refine LeO.ite ?_ ?_)
      | (with_reducible refine LeO.bind ?_ (fun _ => ?_))
      | exact ih0 _ _
      | exact LeO.none _
      | refine LeO.ite ?_ ?_
      | refine LeO.bind ?_ (fun _ => ?_)
set_option maxHeartbeats 8000000 in
set_option maxRecDepth 100000 in
theorem asn1_base128IntLength.calls (k : Nat) (a0 : Int) (r : Int) (w : World) (h : asn1_base128IntLength.f k a0 = some r) :
    Calls Try.prog 138 #[.int .i64 a0] w fun e w' => e = .returned (.int .i64 r) ∧ Drawn0 w w' := by
  have H : (if a0 = 0 then (some 1) else (asn1_base128IntLength.l0 k 0 a0)) = some r := h
  clear h
  by_cases c2 : a0 = 0
  · rw [if_pos c2] at H
    have c2b0 : (a0 == 0) = true := beq_iff_eq.mpr c2
    have c2b1 : (a0 != 0) = false := bne_eq_false_iff_eq.mpr c2
    clear c2
    obtain rfl := Option.some.inj H
    go_enter Try.func138, Try.ntmps138
    go_wp2
    go_ret
    exact ⟨by first | rfl | (simp; done) | (simp [*]; done), by repeat (first | exact Drawn0.refl _ | apply Drawn0.step)⟩
  · rw [if_neg c2] at H
    have c2b0 : (a0 == 0) = false := beq_eq_false_iff_ne.mpr c2
    have c2b1 : (a0 != 0) = true := bne_iff_ne.mpr c2
    have H' := Aside0.mk H
    clear H
    go_enter Try.func138, Try.ntmps138
    go_wp2
    go_loopg [3, 4] k (fun kq v3 v4 w' => ∃ (x3_1 : Int) (x4_1 : Int), v3 = .int .i64 x3_1 ∧ v4 = .int .i64 x4_1 ∧ Aside0 (asn1_base128IntLength.l0 kq x3_1 x4_1 = some r) ∧ Aside0 (kq ≤ k) ∧ Drawn0 w w')
    case atStart => exact ⟨(0), (a0), (by first | rfl | (simp; done) | (simp [*]; done)), (by first | rfl | (simp; done) | (simp [*]; done)), H', ⟨Nat.le_refl _⟩, by repeat (first | exact Drawn0.refl _ | apply Drawn0.step)⟩
    case round =>
      clear H'
      try clear c1
      try clear c2
      try clear c2b0
      try clear c2b1
      try clear p2
      obtain ⟨x3_1, x4_1, rfl, rfl, HA, HK1, ⟨m1, rfl⟩⟩ := hrel
      cases gk with
      | zero => exact absurd HA.out (by simp [asn1_base128IntLength.l0])
      | succ k1 =>
        have H := HA.out
        clear HA
        simp only [asn1_base128IntLength.l0] at H
        by_cases c3 : x4_1 > 0
        · rw [if_pos c3] at H
          have c3b0 : decide (0 < x4_1) = true := decide_eq_true c3
          clear c3
          have H' := Aside0.mk H
          clear H
          go_wp2
          go_roundg k1
          case measure => have := HK1.out; omega
          case rel => exact ⟨(wrap64 (x3_1 + 1)), (x4_1 / 128), (by first | rfl | (simp; done) | (simp [*]; done)), (by first | rfl | (simp; done) | (simp [*]; done)), H', ⟨by have := HK1.out; omega⟩, by repeat (first | exact Drawn0.refl _ | apply Drawn0.step)⟩
        · rw [if_neg c3] at H
          have c3b0 : decide (0 < x4_1) = false := decide_eq_false c3
          clear c3
          obtain rfl := Option.some.inj H
          go_wp2
          go_ret
          exact ⟨by first | rfl | (simp; done) | (simp [*]; done), by repeat (first | exact Drawn0.refl _ | apply Drawn0.step)⟩

/-! ### asn1_appendBase128Int: function 137 -/
def asn1_appendBase128Int.l0 : Nat → List Int → Int → Int → Option (List Int)
  | 0, _, _, _ => none
  | k + 1, x0, x1, x6 => if x6 ≥ 0 then (if 0 ≤ (IntKind.u64.wrap (wrap64 (x6 * 7))) then (if x6 = 0 then (if x0.length < 140737488355328 then (asn1_appendBase128Int.l0 k (x0 ++ [Go.bits .and .u8 ((shr .i64 x1 (IntKind.u64.wrap (wrap64 (x6 * 7)))) % 256) 127]) x1 (wrap64 (x6 - 1))) else (none)) else (if x0.length < 140737488355328 then (asn1_appendBase128Int.l0 k (x0 ++ [Go.bits .or .u8 (Go.bits .and .u8 ((shr .i64 x1 (IntKind.u64.wrap (wrap64 (x6 * 7)))) % 256) 127) 128]) x1 (wrap64 (x6 - 1))) else (none))) else (none)) else (some x0)
def asn1_appendBase128Int.f (k : Nat) (l0 : List Int) (a1 : Int) : Option (List Int) := (asn1_base128IntLength.f k a1).bind fun t101 => (asn1_appendBase128Int.l0 k l0 a1 (wrap64 (t101 - 1)))
theorem asn1_appendBase128Int.mono_l : ∀ k, (∀ y0 y1 y2, LeO (asn1_appendBase128Int.l0 k y0 y1 y2) (asn1_appendBase128Int.l0 (k + 1) y0 y1 y2))
  | 0 => fun _ _ _ r h => by simp [asn1_appendBase128Int.l0] at h
  | k + 1 => by
    have ih0 := asn1_appendBase128Int.mono_l k
    · intro y0 y1 y2
      unfold asn1_appendBase128Int.l0
      repeat' first
      | (with_reducible exact ih0 _ _ _)
      | (with_reducible exact asn1_base128IntLength.mono _ _)
      | (with_reducible exact LeO.refl _)
      | (with_reducible exact LeO.none _)
      | (with_reducible refine LeO.ite ?_ ?_)
      | (with_reducible refine LeO.bind ?_ (fun _ => ?_))
      | exact ih0 _ _ _
      | exact asn1_base128IntLength.mono _ _
      | exact LeO.none _
      | refine LeO.ite ?_ ?_
      | refine LeO.bind ?_ (fun _ => ?_)
theorem asn1_appendBase128Int.mono : ∀ a0 a1 k, LeO (asn1_appendBase128Int.f k a0 a1) (asn1_appendBase128Int.f (k + 1) a0 a1) := by
  intro a0 a1 k
  have ih0 := asn1_appendBase128Int.mono_l k
  unfold asn1_appendBase128Int.f
  repeat' first
      | (with_reducible exact ih0 _ _ _)
      | (with_reducible exact asn1_base128IntLength.mono _ _)
      | (with_reducible exact LeO.refl _)
      | (with_reducible exact LeO.none _)
      | (with_reducible refine LeO.ite ?_ ?_)
      | (with_reducible refine LeO.bind ?_ (fun _ => ?_))
      | exact ih0 _ _ _
      | exact asn1_base128IntLength.mono _ _
      | exact LeO.none _
      | refine LeO.ite ?_ ?_
      | refine LeO.bind ?_ (fun _ => ?_)
set_option maxHeartbeats 8000000 in
set_option maxRecDepth 100000 in
theorem asn1_appendBase128Int.calls (k : Nat) (P0_ : Nat → Prop) (u9000_ : Value) (l0 : List Int) (a1 : Int) (r : List Int) (w0 w : World) (hB : Below w0.heap.size w0 w) (ho0 : Kd.R (Kd.int .u8) 5 w w0.heap.size P0_ u9000_ l0) (h : asn1_appendBase128Int.f k l0 a1 = some r) :
    Calls Try.prog 137 #[u9000_, .int .i64 a1] w fun e w' => ∃ v0_ : Value, e = .returned (v0_) ∧ Kd.R (Kd.int .u8) 5 w' w0.heap.size (fun k_ => (P0_ k_ ∨ w.heap.size ≤ k_)) v0_ r ∧ Below w0.heap.size w0 w' ∧ Kept w w' (fun k_ => P0_ k_) := by
  have HO0 := Aside0.mk (show Kd.R (Kd.int .u8) 5 w w0.heap.size (fun k_ => (P0_ k_ ∨ w.heap.size ≤ k_)) u9000_ l0 from Kd.R_mono ho0 (fun k_ hk => (.inl hk)))
  have HK := Aside0.mk (Kept.refl w (fun k_ => P0_ k_))
  have HW0 := Aside0.mk hB.size
  have HB := Aside0.mk hB
  clear hB
  have H : ((asn1_base128IntLength.f k a1).bind fun t101 => (asn1_appendBase128Int.l0 k l0 a1 (wrap64 (t101 - 1)))) = some r := h
  clear h
  replace H := Option.bind_eq_some_iff.mp H
  obtain ⟨t101, A30, H⟩ := H
  replace H : (asn1_appendBase128Int.l0 k l0 a1 (wrap64 (t101 - 1))) = some r := H
  have A3 := Aside0.mk A30
  clear A30
  have H' := Aside0.mk H
  clear H
  go_enter Try.func137, Try.ntmps137
  go_wp2_with (first | ((with_reducible refine gate_callee (f := 138) rfl ?_); refine goesL_ (some 9) rfl rfl Try.func138 (by kernel_rfl) rfl #[.int .i64 a1] rfl (by (try simp only [List.map_toArray, List.map_cons, List.map_nil]); first | done | rfl | (simp only [List.length_drop, List.length_take]; rfl)) ?_; (with_reducible refine (asn1_base128IntLength.calls k a1 t101 _ A3.out).mono ?_); rintro e w' ⟨rfl, ⟨nd, rfl⟩⟩; refine ⟨_, rfl, ?_⟩))
  go_loopg [0, 6] k (fun kq v0 v6 w' => ∃ (x0_1 : List Int) (x6_1 : Int), v6 = .int .i64 x6_1 ∧ Aside0 (asn1_appendBase128Int.l0 kq x0_1 a1 x6_1 = some r) ∧ Aside0 (kq ≤ k) ∧ Aside0 (Kd.R (Kd.int .u8) 5 w' w0.heap.size (fun k_ => (P0_ k_ ∨ w.heap.size ≤ k_)) v0 x0_1) ∧ Aside0 (Kept w w' (fun k_ => P0_ k_)) ∧ Aside0 (Below w0.heap.size w0 w'))
  case atStart => exact ⟨(l0), (wrap64 (t101 - 1)), (by first | rfl | (simp; done) | (simp [*]; done)), H', ⟨Nat.le_refl _⟩, ⟨by (with_reducible repeat (first | apply Kd.R_alloc | apply Kd.R_drewN | apply Kd.R_drew)); exact HO0.out⟩, ⟨by repeat (first | (with_reducible first | exact HK.out | apply Kept.alloc | apply Kept.drewN | apply Kept.drew) | exact HK.out)⟩, ⟨by repeat (first | (with_reducible first | exact HB.out | apply below_alloc | apply pw_below_drewN | apply below_drew1) | exact HB.out)⟩⟩
  case round =>
    clear H'
    try clear c1
    try clear p2
    obtain ⟨x0_1, x6_1, rfl, HA, HK1, HO_0, HK, HB⟩ := hrel
    cases gk with
    | zero => exact absurd HA.out (by simp [asn1_appendBase128Int.l0])
    | succ k1 =>
      have H := HA.out
      clear HA
      simp only [asn1_appendBase128Int.l0] at H
      by_cases c4 : x6_1 ≥ 0
      · rw [if_pos c4] at H
        have c4b0 : decide (0 ≤ x6_1) = true := decide_eq_true c4
        clear c4
        obtain ⟨ji5, hji5⟩ : ∃ j_ : Int, (IntKind.u64.wrap (wrap64 (x6_1 * 7))) = j_ := ⟨_, rfl⟩
        replace H : (if 0 ≤ (ji5) then (if x6_1 = 0 then (if x0_1.length < 140737488355328 then (asn1_appendBase128Int.l0 k1 (x0_1 ++ [Go.bits .and .u8 ((shr .i64 a1 (ji5)) % 256) 127]) a1 (wrap64 (x6_1 - 1))) else (none)) else (if x0_1.length < 140737488355328 then (asn1_appendBase128Int.l0 k1 (x0_1 ++ [Go.bits .or .u8 (Go.bits .and .u8 ((shr .i64 a1 (ji5)) % 256) 127) 128]) a1 (wrap64 (x6_1 - 1))) else (none))) else (none)) = some r := by first | (rw [hji5] at H; exact H) | (simp only [hji5] at H ⊢; exact H)
        by_cases c6 : 0 ≤ (ji5)
        · rw [if_pos c6] at H
          have c6b0 := eq_true c6
          have c6b1 : decide (0 ≤ (ji5)) = true := decide_eq_true c6
          clear c6
          obtain ⟨ji7, hji7⟩ : ∃ j_ : Int, (shr .i64 a1 (ji5)) = j_ := ⟨_, rfl⟩
          replace H : (if x6_1 = 0 then (if x0_1.length < 140737488355328 then (asn1_appendBase128Int.l0 k1 (x0_1 ++ [Go.bits .and .u8 ((ji7) % 256) 127]) a1 (wrap64 (x6_1 - 1))) else (none)) else (if x0_1.length < 140737488355328 then (asn1_appendBase128Int.l0 k1 (x0_1 ++ [Go.bits .or .u8 (Go.bits .and .u8 ((ji7) % 256) 127) 128]) a1 (wrap64 (x6_1 - 1))) else (none))) = some r := by first | (rw [hji7] at H; exact H) | (simp only [hji7] at H ⊢; exact H)
          have hji7_ : (a1 / 2 ^ min (ji5).toNat 64) = ji7 := hji7
          have hji7z : (ji5) ≤ 64 → (a1 / 2 ^ (ji5).toNat) = ji7 := shr_small hji7
          by_cases c8 : x6_1 = 0
          · rw [if_pos c8] at H
            have c8b0 : (x6_1 == 0) = true := beq_iff_eq.mpr c8
            have c8b1 : (x6_1 != 0) = false := bne_eq_false_iff_eq.mpr c8
            clear c8
            by_cases c9 : x0_1.length < 140737488355328
            · rw [if_pos c9] at H
              have LMc9 := Aside0.mk c9
              clear c9
              obtain ⟨y102, hy102⟩ : ∃ y_ : List Int, y_ = (x0_1 ++ [Go.bits .and .u8 ((ji7) % 256) 127]) := ⟨_, rfl⟩
              replace H : (asn1_appendBase128Int.l0 k1 y102 a1 (wrap64 (x6_1 - 1))) = some r := by first | (rw [hy102]; with_reducible exact H) | (have H2_ := (Option.bind_some _ _).symm.trans H; rw [hy102]; with_reducible exact H2_) | (have H2_ := (Option.bind_some _ _).symm.trans H; with_reducible exact H2_) | with_reducible exact H | (rw [hy102]; exact H) | exact H
              have Ny102 := Aside0.mk hy102
              clear hy102
              have H' := Aside0.mk H
              clear H
              go_wp2_with (first | ((with_reducible refine gate_builtin (b := .append) (xs := #[.tmp 28, .tmp 30]) rfl ?_); at_builtin; refine Kd.R_append (Kd.int .u8) (w0 := w0) w0.heap.size rfl (.tmp 28) (.tmp 30) 25 5 (.int .u8 0) 1 rfl Try.underlying25 info5 rfl (by decide) (by omega) u0 x0_1 (Go.bits .and .u8 ((ji7) % 256) 127) [.int .u8 (Go.bits .and .u8 ((ji7) % 256) 127)] (fun k_ => (P0_ k_ ∨ w.heap.size ≤ k_)) (fun _ => False) rfl rfl ?aP (fun _ hk => hk.elim) ?aF ?aO ?aB ?aS ?aL ?_; (case aP => exact rfl); (case aB => exact (by repeat (first | (with_reducible first | exact HB.out | apply below_alloc | apply pw_below_drewN | apply below_drew1) | exact HB.out))); (case aF => exact (fun k_ hk => (.inr (Nat.le_trans (by first | exact HK.out.1 | exact (show Kept w _ (fun k_ => P0_ k_) from by repeat (first | (with_reducible first | exact HK.out | apply Kept.alloc | apply Kept.drewN | apply Kept.drew) | exact HK.out)).1) hk)))); (case aO => exact (by (with_reducible repeat (first | apply Kd.R_alloc | apply Kd.R_drewN | apply Kd.R_drew)); exact HO_0.out)); (case aS => exact (below_size (by repeat (first | (with_reducible first | exact HB.out | apply below_alloc | apply pw_below_drewN | apply below_drew1) | exact HB.out)))); (case aL => have := LMc9.out; omega); intro v103 w10 ho hb hg hat; rw [← Ny102.out] at ho; have n0_ := Aside0.mk (hb); have n1_ := Aside0.mk (Kept.of_grown (S := (fun k_ => P0_ k_)) hg (by repeat (first | (with_reducible first | exact HK.out | apply Kept.alloc | apply Kept.drewN | apply Kept.drew) | exact HK.out)) (fun k_ e_ => (HO_0.out.1 k_ e_))); have n2_ := Aside0.mk (ho); clear HB; clear HK; clear HO_0; have HB := n0_; have HK := n1_; have HO104 := n2_; clear n0_ n1_ n2_; clear ho hb hg hat))
              go_roundg k1
              case measure => have := HK1.out; omega
              case rel => exact ⟨(y102), (wrap64 (x6_1 - 1)), (by first | rfl | (simp; done) | (simp [*]; done)), H', ⟨by have := HK1.out; omega⟩, ⟨by (with_reducible repeat (first | apply Kd.R_alloc | apply Kd.R_drewN | apply Kd.R_drew)); exact HO104.out⟩, ⟨by repeat (first | (with_reducible first | exact HK.out | apply Kept.alloc | apply Kept.drewN | apply Kept.drew) | exact HK.out)⟩, ⟨by repeat (first | (with_reducible first | exact HB.out | apply below_alloc | apply pw_below_drewN | apply below_drew1) | exact HB.out)⟩⟩
            · rw [if_neg c9] at H
              exact absurd H (by simp)
          · rw [if_neg c8] at H
            have c8b0 : (x6_1 == 0) = false := beq_eq_false_iff_ne.mpr c8
            have c8b1 : (x6_1 != 0) = true := bne_iff_ne.mpr c8
            by_cases c11 : x0_1.length < 140737488355328
            · rw [if_pos c11] at H
              have LMc11 := Aside0.mk c11
              clear c11
              obtain ⟨y105, hy105⟩ : ∃ y_ : List Int, y_ = (x0_1 ++ [Go.bits .or .u8 (Go.bits .and .u8 ((ji7) % 256) 127) 128]) := ⟨_, rfl⟩
              replace H : (asn1_appendBase128Int.l0 k1 y105 a1 (wrap64 (x6_1 - 1))) = some r := by first | (rw [hy105]; with_reducible exact H) | (have H2_ := (Option.bind_some _ _).symm.trans H; rw [hy105]; with_reducible exact H2_) | (have H2_ := (Option.bind_some _ _).symm.trans H; with_reducible exact H2_) | with_reducible exact H | (rw [hy105]; exact H) | exact H
              have Ny105 := Aside0.mk hy105
              clear hy105
              have H' := Aside0.mk H
              clear H
              go_wp2_with (first | ((with_reducible refine gate_builtin (b := .append) (xs := #[.tmp 28, .tmp 30]) rfl ?_); at_builtin; refine Kd.R_append (Kd.int .u8) (w0 := w0) w0.heap.size rfl (.tmp 28) (.tmp 30) 25 5 (.int .u8 0) 1 rfl Try.underlying25 info5 rfl (by decide) (by omega) u0 x0_1 (Go.bits .or .u8 (Go.bits .and .u8 ((ji7) % 256) 127) 128) [.int .u8 (Go.bits .or .u8 (Go.bits .and .u8 ((ji7) % 256) 127) 128)] (fun k_ => (P0_ k_ ∨ w.heap.size ≤ k_)) (fun _ => False) rfl rfl ?aP (fun _ hk => hk.elim) ?aF ?aO ?aB ?aS ?aL ?_; (case aP => exact rfl); (case aB => exact (by repeat (first | (with_reducible first | exact HB.out | apply below_alloc | apply pw_below_drewN | apply below_drew1) | exact HB.out))); (case aF => exact (fun k_ hk => (.inr (Nat.le_trans (by first | exact HK.out.1 | exact (show Kept w _ (fun k_ => P0_ k_) from by repeat (first | (with_reducible first | exact HK.out | apply Kept.alloc | apply Kept.drewN | apply Kept.drew) | exact HK.out)).1) hk)))); (case aO => exact (by (with_reducible repeat (first | apply Kd.R_alloc | apply Kd.R_drewN | apply Kd.R_drew)); exact HO_0.out)); (case aS => exact (below_size (by repeat (first | (with_reducible first | exact HB.out | apply below_alloc | apply pw_below_drewN | apply below_drew1) | exact HB.out)))); (case aL => have := LMc11.out; omega); intro v106 w12 ho hb hg hat; rw [← Ny105.out] at ho; have n0_ := Aside0.mk (hb); have n1_ := Aside0.mk (Kept.of_grown (S := (fun k_ => P0_ k_)) hg (by repeat (first | (with_reducible first | exact HK.out | apply Kept.alloc | apply Kept.drewN | apply Kept.drew) | exact HK.out)) (fun k_ e_ => (HO_0.out.1 k_ e_))); have n2_ := Aside0.mk (ho); clear HB; clear HK; clear HO_0; have HB := n0_; have HK := n1_; have HO107 := n2_; clear n0_ n1_ n2_; clear ho hb hg hat))
              go_roundg k1
              case measure => have := HK1.out; omega
              case rel => exact ⟨(y105), (wrap64 (x6_1 - 1)), (by first | rfl | (simp; done) | (simp [*]; done)), H', ⟨by have := HK1.out; omega⟩, ⟨by (with_reducible repeat (first | apply Kd.R_alloc | apply Kd.R_drewN | apply Kd.R_drew)); exact HO107.out⟩, ⟨by repeat (first | (with_reducible first | exact HK.out | apply Kept.alloc | apply Kept.drewN | apply Kept.drew) | exact HK.out)⟩, ⟨by repeat (first | (with_reducible first | exact HB.out | apply below_alloc | apply pw_below_drewN | apply below_drew1) | exact HB.out)⟩⟩
            · rw [if_neg c11] at H
              exact absurd H (by simp)
        · rw [if_neg c6] at H
          exact absurd H (by simp)
      · rw [if_neg c4] at H
        have c4b0 : decide (0 ≤ x6_1) = false := decide_eq_false c4
        clear c4
        obtain rfl := Option.some.inj H
        go_wp2
        go_ret
        exact ⟨_, by first | rfl | (simp [errW_none, errW_some] <;> rfl) | (simp [*, errW_none, errW_some] <;> rfl), by (with_reducible repeat (first | apply Kd.R_alloc | apply Kd.R_drewN | apply Kd.R_drew)); exact HO_0.out, by repeat (first | (with_reducible first | exact HB.out | apply below_alloc | apply pw_below_drewN | apply below_drew1) | exact HB.out), by repeat (first | (with_reducible first | exact HK.out | apply Kept.alloc | apply Kept.drewN | apply Kept.drew) | exact HK.out)⟩

-- NOT PRINTED: function 135 (asn1_oidEncoder_Encode)

/-! ### asn1_oidEncoder_Len: function 136 -/
def asn1_oidEncoder_Len.l0 : Nat → List Int → Int → Int → Option (Int)
  | 0, _, _, _ => none
  | k + 1, x0, x3, x4 => if x4 < (x0.length : Int) then (if 0 ≤ x4 then ((asn1_base128IntLength.f k (rd x0 x4)).bind fun t118 => (asn1_oidEncoder_Len.l0 k x0 (wrap64 (x3 + t118)) (wrap64 (x4 + 1)))) else (none)) else (some x3)
def asn1_oidEncoder_Len.f (k : Nat) (l0 : List Int) : Option (Int) := if 0 < (l0.length : Int) then (if 1 < (l0.length : Int) then ((asn1_base128IntLength.f k (wrap64 ((wrap64 ((rd l0 0) * 40)) + (rd l0 1)))).bind fun t116 => (asn1_oidEncoder_Len.l0 k l0 t116 2)) else (none)) else (none)
theorem asn1_oidEncoder_Len.mono_l : ∀ k, (∀ y0 y1 y2, LeO (asn1_oidEncoder_Len.l0 k y0 y1 y2) (asn1_oidEncoder_Len.l0 (k + 1) y0 y1 y2))
  | 0 => fun _ _ _ r h => by simp [asn1_oidEncoder_Len.l0] at h
  | k + 1 => by
    have ih0 := asn1_oidEncoder_Len.mono_l k
    · intro y0 y1 y2
      unfold asn1_oidEncoder_Len.l0
      repeat' first
      | (with_reducible exact ih0 _ _ _)
      | (with_reducible exact asn1_base128IntLength.mono _ _)
      | (with_reducible exact LeO.refl _)
      | (with_reducible exact LeO.none _)
      | (with_reducible refine LeO.ite ?_ ?_)
      | (with_reducible refine LeO.bind ?_ (fun _ => ?_))
      | exact ih0 _ _ _
      | exact asn1_base128IntLength.mono _ _
      | exact LeO.none _
      | refine LeO.ite ?_ ?_
      | refine LeO.bind ?_ (fun _ => ?_)
theorem asn1_oidEncoder_Len.mono : ∀ a0 k, LeO (asn1_oidEncoder_Len.f k a0) (asn1_oidEncoder_Len.f (k + 1) a0) := by
  intro a0 k
  have ih0 := asn1_oidEncoder_Len.mono_l k
  unfold asn1_oidEncoder_Len.f
  repeat' first
      | (with_reducible exact ih0 _ _ _)
      | (with_reducible exact asn1_base128IntLength.mono _ _)
      | (with_reducible exact LeO.refl _)
      | (with_reducible exact LeO.none _)
      | (with_reducible refine LeO.ite ?_ ?_)
      | (with_reducible refine LeO.bind ?_ (fun _ => ?_))
      | exact ih0 _ _ _
      | exact asn1_base128IntLength.mono _ _
      | exact LeO.none _
      | refine LeO.ite ?_ ?_
      | refine LeO.bind ?_ (fun _ => ?_)
set_option maxHeartbeats 8000000 in
set_option maxRecDepth 100000 in
theorem asn1_oidEncoder_Len.calls (k : Nat) (A0 : Option Addr) (c0 : Nat) (l0 : List Int) (r : Int) (w : World) (hr0 : Kd.C (Kd.int .i64) w A0 l0.length l0) (hc0 : l0.length ≤ c0) (h : asn1_oidEncoder_Len.f k l0 = some r) :
    Calls Try.prog 136 #[.slice A0 l0.length c0] w fun e w' => e = .returned (.int .i64 r) ∧ Drawn0 w w' := by
  have HR0 := Aside0.mk hr0
  have HC0 := Aside0.mk hc0
  clear hr0 hc0
  have H : (if 0 < (l0.length : Int) then (if 1 < (l0.length : Int) then ((asn1_base128IntLength.f k (wrap64 ((wrap64 ((rd l0 0) * 40)) + (rd l0 1)))).bind fun t116 => (asn1_oidEncoder_Len.l0 k l0 t116 2)) else (none)) else (none)) = some r := h
  clear h
  by_cases c2 : 0 < (l0.length : Int)
  · rw [if_pos c2] at H
    have c2b0 : decide (0 < (l0.length : Int)) = true := decide_eq_true c2
    have c2b1 : decide (0 < l0.length) = true := decide_eq_true (by omega)
    clear c2
    by_cases c3 : 1 < (l0.length : Int)
    · rw [if_pos c3] at H
      have c3b0 : decide (1 < (l0.length : Int)) = true := decide_eq_true c3
      have c3b1 : decide (1 < l0.length) = true := decide_eq_true (by omega)
      clear c3
      replace H := Option.bind_eq_some_iff.mp H
      obtain ⟨t116, A40, H⟩ := H
      replace H : (asn1_oidEncoder_Len.l0 k l0 t116 2) = some r := H
      have A4 := Aside0.mk A40
      clear A40
      have H' := Aside0.mk H
      clear H
      have p114 : 0 ≤ (0 : Int) := (by omega)
      have q114 : 0 < (l0.length : Int) := of_decide_eq_true (by first | (with_reducible assumption) | assumption)
      obtain ⟨ad114, e114, hx114_0⟩ := Kd.at_int HR0.out 0 p114 q114
      cases e114
      have qi114 : (0 < l0.length) = True := eq_true (by omega)
      (try rw [show ((0 : Int)).toNat = 0 from rfl] at hx114_0)
      (try rw [Addr.add_zero'] at hx114_0)
      replace p114 := eq_true p114
      replace q114 := eq_true q114
      have p115 : 0 ≤ (1 : Int) := (by omega)
      have q115 : 1 < (l0.length : Int) := of_decide_eq_true (by first | (with_reducible assumption) | assumption)
      obtain ⟨ad115, e115, hx115_0⟩ := Kd.at_int HR0.out 1 p115 q115
      obtain rfl : ad114 = ad115 := (by injection e115)
      (try simp only [show (1 : Int).toNat = 1 from rfl, Nat.reduceMul, Nat.reduceEqDiff, Go.Addr.add, ↓reduceIte] at hx115_0)
      have qi115 : (1 < l0.length) = True := eq_true (by omega)
      (try rw [show ((1 : Int)).toNat = 1 from rfl] at hx115_0)
      replace p115 := eq_true p115
      replace q115 := eq_true q115
      go_enter Try.func136, Try.ntmps136
      go_wp2_with (first | (go_at_call 138; (with_reducible refine (asn1_base128IntLength.calls k (wrap64 ((wrap64 ((rd l0 0) * 40)) + (rd l0 1))) t116 _ A4.out).mono ?_); rintro e w' ⟨rfl, ⟨nd, rfl⟩⟩; (try first | exact ⟨rfl, _, World.drewN_drewN _ _ _⟩ | exact ⟨rfl, _, Eq.trans (World.drewN_drewN _ _ _) (congrArg (World.drewN _) (Nat.add_assoc _ _ _))⟩)))
      repeat (go_quiet (first | (go_at_call 138; (with_reducible refine (asn1_base128IntLength.calls k (wrap64 ((wrap64 ((rd l0 0) * 40)) + (rd l0 1))) t116 _ A4.out).mono ?_); rintro e w' ⟨rfl, ⟨nd, rfl⟩⟩; (try first | exact ⟨rfl, _, World.drewN_drewN _ _ _⟩ | exact ⟨rfl, _, Eq.trans (World.drewN_drewN _ _ _) (congrArg (World.drewN _) (Nat.add_assoc _ _ _))⟩))); try go_wp2_with (first | (go_at_call 138; (with_reducible refine (asn1_base128IntLength.calls k (wrap64 ((wrap64 ((rd l0 0) * 40)) + (rd l0 1))) t116 _ A4.out).mono ?_); rintro e w' ⟨rfl, ⟨nd, rfl⟩⟩; (try first | exact ⟨rfl, _, World.drewN_drewN _ _ _⟩ | exact ⟨rfl, _, Eq.trans (World.drewN_drewN _ _ _) (congrArg (World.drewN _) (Nat.add_assoc _ _ _))⟩))))
      go_loopg [3, 4] k (fun kq v3 v4 w' => ∃ (x3_1 : Int) (x4_1 : Int), v3 = .int .i64 x3_1 ∧ v4 = .int .i64 x4_1 ∧ Aside0 (asn1_oidEncoder_Len.l0 kq l0 x3_1 x4_1 = some r) ∧ Aside0 (kq ≤ k) ∧ Drawn0 w w')
      case atStart => exact ⟨(t116), (2), (by first | rfl | (simp; done) | (simp [*]; done)), (by first | rfl | (simp; done) | (simp [*]; done)), H', ⟨Nat.le_refl _⟩, by repeat (first | exact Drawn0.refl _ | apply Drawn0.step)⟩
      case round =>
        clear H'
        try clear c1
        try clear p1
        try clear q1
        try clear hx1
        try clear qi1
        try clear c2
        try clear c2b0
        try clear c2b1
        try clear p2
        try clear c3
        try clear c3b0
        try clear c3b1
        try clear hx114_0
        try clear hx115_0
        try clear p114
        try clear p115
        try clear q114
        try clear q115
        obtain ⟨x3_1, x4_1, rfl, rfl, HA, HK1, ⟨m1, rfl⟩⟩ := hrel
        cases gk with
        | zero => exact absurd HA.out (by simp [asn1_oidEncoder_Len.l0])
        | succ k1 =>
          have H := HA.out
          clear HA
          simp only [asn1_oidEncoder_Len.l0] at H
          by_cases c5 : x4_1 < (l0.length : Int)
          · rw [if_pos c5] at H
            have c5b0 : decide (x4_1 < (l0.length : Int)) = true := decide_eq_true c5
            clear c5
            by_cases c6 : 0 ≤ x4_1
            · rw [if_pos c6] at H
              have c6b0 : decide (0 ≤ x4_1) = true := decide_eq_true c6
              clear c6
              replace H := Option.bind_eq_some_iff.mp H
              obtain ⟨t118, A70, H⟩ := H
              replace H : (asn1_oidEncoder_Len.l0 k1 l0 (wrap64 (x3_1 + t118)) (wrap64 (x4_1 + 1))) = some r := H
              have A7 := Aside0.mk A70
              clear A70
              have H' := Aside0.mk H
              clear H
              have p117 : 0 ≤ (x4_1 : Int) := of_decide_eq_true (by first | (with_reducible assumption) | assumption)
              have q117 : x4_1 < (l0.length : Int) := of_decide_eq_true (by first | (with_reducible assumption) | assumption)
              obtain ⟨ad117, e117, hx117_0⟩ := Kd.at_int HR0.out x4_1 p117 q117
              obtain rfl : ad114 = ad117 := (by injection e117)
              replace p117 := eq_true p117
              replace q117 := eq_true q117
              go_wp2_with (first | (go_at_call 138; (with_reducible refine (asn1_base128IntLength.calls k1 (rd l0 x4_1) t118 _ A7.out).mono ?_); rintro e w' ⟨rfl, ⟨nd, rfl⟩⟩; (try first | exact ⟨rfl, _, World.drewN_drewN _ _ _⟩ | exact ⟨rfl, _, Eq.trans (World.drewN_drewN _ _ _) (congrArg (World.drewN _) (Nat.add_assoc _ _ _))⟩)))
              repeat (go_quiet (first | (go_at_call 138; (with_reducible refine (asn1_base128IntLength.calls k1 (rd l0 x4_1) t118 _ A7.out).mono ?_); rintro e w' ⟨rfl, ⟨nd, rfl⟩⟩; (try first | exact ⟨rfl, _, World.drewN_drewN _ _ _⟩ | exact ⟨rfl, _, Eq.trans (World.drewN_drewN _ _ _) (congrArg (World.drewN _) (Nat.add_assoc _ _ _))⟩))); try go_wp2_with (first | (go_at_call 138; (with_reducible refine (asn1_base128IntLength.calls k1 (rd l0 x4_1) t118 _ A7.out).mono ?_); rintro e w' ⟨rfl, ⟨nd, rfl⟩⟩; (try first | exact ⟨rfl, _, World.drewN_drewN _ _ _⟩ | exact ⟨rfl, _, Eq.trans (World.drewN_drewN _ _ _) (congrArg (World.drewN _) (Nat.add_assoc _ _ _))⟩))))
              go_roundg k1
              case measure => have := HK1.out; omega
              case rel => exact ⟨(wrap64 (x3_1 + t118)), (wrap64 (x4_1 + 1)), (by first | rfl | (simp; done) | (simp [*]; done)), (by first | rfl | (simp; done) | (simp [*]; done)), H', ⟨by have := HK1.out; omega⟩, by repeat (first | exact Drawn0.refl _ | apply Drawn0.step)⟩
            · rw [if_neg c6] at H
              exact absurd H (by simp)
          · rw [if_neg c5] at H
            have c5b0 : decide (x4_1 < (l0.length : Int)) = false := decide_eq_false c5
            clear c5
            obtain rfl := Option.some.inj H
            go_wp2
            repeat (go_quiet (fail); try go_wp2)
            go_ret
            exact ⟨by first | rfl | (simp; done) | (simp [*]; done), by repeat (first | exact Drawn0.refl _ | apply Drawn0.step)⟩
    · rw [if_neg c3] at H
      exact absurd H (by simp)
  · rw [if_neg c2] at H
    exact absurd H (by simp)

set_option linter.unusedVariables false
/-- append of one byte where there is room: the row is written in place. -/
theorem R_append_in {P : Program} {ops : Array Oper} {rest : List Oper} {o : Oper} {a : Act} {Q : Exit → Act → World → Prop} {w0 W : World} (base : Nat) (hgd : o.guard = none) (s x : Operand) (t : TypeId)
    (ho : o.op = .call { callee := .builtin .append, args := #[s, x], argTypes := #[t, t] })
    (ht : P.underlying t = some (.slice 5)) (hinfo : (P.info? 5).map (fun i => (i.zero, i.size, i.bytes)) = some (some (.int .u8 0), 1, 1))
    (g n N cap : Nat) (p : Int) (L : List Int) (ok : Nat → Prop) (hs : a.eval s = .slice (some ⟨g, 0, none⟩) n cap) (hx : a.eval x = .slice (some ⟨W.heap.size, 0, none⟩) 1 1)
    (HO : Kd.R (Kd.int .u8) 5 W base ok (.slice (some ⟨g, 0, none⟩) N cap) L) (hn : n < L.length) (hcap : n < cap) (HB : Below base w0 W) (hbase : base ≤ W.heap.size) (hg : base ≤ g)
    (h : ∀ w1, Kd.R (Kd.int .u8) 5 w1 base ok (.slice (some ⟨g, 0, none⟩) N cap) (L.set n p) → Below base w0 w1 → (W.alloc (.cells #[.int .u8 p] 5)).grownBy w1 (some g) → wpList P ops Q rest (a.put o.dst (.slice (some ⟨g, 0, none⟩) (n + 1) cap)) w1) :
    wpList P ops Q (o :: rest) a (W.alloc (.cells #[.int .u8 p] 5)) := by
  obtain ⟨i0, hi, hzz⟩ := Option.map_eq_some_iff.1 hinfo
  simp only [Prod.mk.injEq] at hzz
  obtain ⟨hz0, hz1, hz2⟩ := hzz
  have HA := Kd.R_alloc HO (.cells #[.int .u8 p] 5)
  have hN : N = L.length := (Kd.R_reads' HO).1
  obtain ⟨hc, hf⟩ := Kd.R_celln 0 HA (n : Int) (by omega) (by omega)
  rw [Int.toNat_natCast] at hc hf
  have hnews : ∀ j u, [Value.int .u8 p][j]? = some u → (W.alloc (.cells #[.int .u8 p] 5)).cell? ((⟨W.heap.size, 0, none⟩ : Addr).add j) = some u := by
    simpa using World.news_of_block (cs := #[.int .u8 p]) (t := 5) (fr := (0, 0)) (heap_alloc_new W (.cells #[.int .u8 p] 5))
  have hrun := run_append_room_cells (P := P) (W.alloc (.cells #[.int .u8 p] 5)) t o.type 5 i0 ht hi g 0 n cap ⟨W.heap.size, 0, none⟩ 1 1 [.int .u8 p] (by rw [hz1]; rfl) hnews (by intro u hu; simp at hu; subst hu; rfl) (by omega)
    (by intro j hj; have : j = 0 := by simpa using hj
        subst this; rw [hz1]; simpa using (by rw [hc]; rfl : ((W.alloc (.cells #[.int .u8 p] 5)).cell? ⟨g, n, none⟩).isSome = true))
    (by intro j hj; have : j = 0 := by simpa using hj
        subst this; rw [hz1]; simpa using hf)
  have hP := Kd.R_putg HA (n : Int) p
  rw [Int.toNat_natCast] at hP
  refine wpList_plain hgd fun K hK => ?_
  unfold Oper.wp
  simp [execOp, ho, resolve, invoke, builtin, hs, hx, hrun, Result.andThen]
  refine hK _ _ (h _ ?_ ?_ ?_)
  · simp only [World.setCells, hz1, Nat.mul_one, Nat.zero_add]; exact hP.1
  · simpa [World.setCells, hz1] using (HB.alloc hbase _).setCell (p := ⟨g, n, none⟩) hg _
  · simp only [World.setCells, hz1, Nat.mul_one, Nat.zero_add]; exact hP.2

theorem app_len : ∀ (k : Nat) (x0 : List Int) (x1 x6 : Int) (r : List Int), asn1_appendBase128Int.l0 k x0 x1 x6 = some r → x0.length ≤ r.length
  | 0, _, _, _, _, h => by simp [asn1_appendBase128Int.l0] at h
  | k + 1, x0, x1, x6, r, h => by
    rw [asn1_appendBase128Int.l0] at h
    repeat' split at h
    all_goals first
      | (have := app_len k _ _ _ _ h; simp at this; omega)
      | (cases h; omega)
      | cases h
theorem set_mid (x L : List Int) (b : Int) (h : x.length < L.length) : (x ++ L.drop x.length).set x.length b = (x ++ [b]) ++ L.drop (x.length + 1) := by
  rw [List.set_append_right _ _ (Nat.le_refl _), Nat.sub_self, List.append_assoc]
  congr 1
  rw [List.drop_eq_getElem_cons h]
  rfl
set_option maxHeartbeats 8000000 in
set_option maxRecDepth 100000 in
theorem app_in (k : Nat) (P0_ : Nat → Prop) (g cap : Nat) (l0 L : List Int) (a1 : Int) (r : List Int) (w0 w : World) (hB : Below w0.heap.size w0 w) (hg : w0.heap.size ≤ g) (ho : Kd.R (Kd.int .u8) 5 w w0.heap.size P0_ (.slice (some ⟨g, 0, none⟩) L.length cap) (l0 ++ L.drop l0.length)) (hcap : L.length ≤ cap) (hr : r.length ≤ L.length) (h : asn1_appendBase128Int.f k l0 a1 = some r) :
    Calls Try.prog 137 #[.slice (some ⟨g, 0, none⟩) l0.length cap, .int .i64 a1] w fun e w' => e = .returned (.slice (some ⟨g, 0, none⟩) r.length cap) ∧ Kd.R (Kd.int .u8) 5 w' w0.heap.size P0_ (.slice (some ⟨g, 0, none⟩) L.length cap) (r ++ L.drop r.length) ∧ Below w0.heap.size w0 w' ∧ Kept w w' (fun k_ => P0_ k_) := by
  have HO0 := Aside0.mk ho
  have HK := Aside0.mk (Kept.refl w (fun k_ => P0_ k_))
  have HB := Aside0.mk hB
  have GE := Aside0.mk hg
  have LEN := Aside0.mk (And.intro hr hcap)
  clear hB hg ho hcap hr
  have H : ((asn1_base128IntLength.f k a1).bind fun t101 => (asn1_appendBase128Int.l0 k l0 a1 (wrap64 (t101 - 1)))) = some r := h
  clear h
  replace H := Option.bind_eq_some_iff.mp H
  obtain ⟨t101, A30, H⟩ := H
  replace H : (asn1_appendBase128Int.l0 k l0 a1 (wrap64 (t101 - 1))) = some r := H
  have A3 := Aside0.mk A30
  clear A30
  have H' := Aside0.mk H
  clear H
  go_enter Try.func137, Try.ntmps137
  go_wp2_with (first | ((with_reducible refine gate_callee (f := 138) rfl ?_); refine goesL_ (some 9) rfl rfl Try.func138 (by kernel_rfl) rfl #[.int .i64 a1] rfl (by (try simp only [List.map_toArray, List.map_cons, List.map_nil]); first | done | rfl | (simp only [List.length_drop, List.length_take]; rfl)) ?_; (with_reducible refine (asn1_base128IntLength.calls k a1 t101 _ A3.out).mono ?_); rintro e w' ⟨rfl, ⟨nd, rfl⟩⟩; refine ⟨_, rfl, ?_⟩))
  go_loopg [0, 6] k (fun kq v0 v6 w' => ∃ (x0_1 : List Int) (x6_1 : Int), v6 = .int .i64 x6_1 ∧ v0 = .slice (some ⟨g, 0, none⟩) x0_1.length cap ∧ Aside0 (asn1_appendBase128Int.l0 kq x0_1 a1 x6_1 = some r) ∧ Aside0 (kq ≤ k) ∧ Aside0 (Kd.R (Kd.int .u8) 5 w' w0.heap.size P0_ (.slice (some ⟨g, 0, none⟩) L.length cap) (x0_1 ++ L.drop x0_1.length)) ∧ Aside0 (Kept w w' (fun k_ => P0_ k_)) ∧ Aside0 (Below w0.heap.size w0 w'))
  case atStart => exact ⟨l0, (wrap64 (t101 - 1)), (by first | rfl | (simp; done) | (simp [*]; done)), rfl, H', ⟨Nat.le_refl _⟩, ⟨by (with_reducible repeat (first | apply Kd.R_alloc | apply Kd.R_drewN | apply Kd.R_drew)); exact HO0.out⟩, ⟨by repeat (first | (with_reducible first | exact HK.out | apply Kept.alloc | apply Kept.drewN | apply Kept.drew) | exact HK.out)⟩, ⟨by repeat (first | (with_reducible first | exact HB.out | apply below_alloc | apply pw_below_drewN | apply below_drew1) | exact HB.out)⟩⟩
  case round =>
    clear H'
    obtain ⟨x0_1, x6_1, rfl, rfl, HA, HK1, HO_0, HK, HB⟩ := hrel
    cases gk with
    | zero => exact absurd HA.out (by simp [asn1_appendBase128Int.l0])
    | succ k1 =>
      have H := HA.out
      clear HA
      simp only [asn1_appendBase128Int.l0] at H
      by_cases c4 : x6_1 ≥ 0
      · rw [if_pos c4] at H
        have c4b0 : decide (0 ≤ x6_1) = true := decide_eq_true c4
        clear c4
        obtain ⟨ji5, hji5⟩ : ∃ j_ : Int, (IntKind.u64.wrap (wrap64 (x6_1 * 7))) = j_ := ⟨_, rfl⟩
        rw [hji5] at H
        by_cases c6 : 0 ≤ (ji5)
        · rw [if_pos c6] at H
          have c6b0 := eq_true c6
          have c6b1 : decide (0 ≤ (ji5)) = true := decide_eq_true c6
          clear c6
          obtain ⟨ji7, hji7⟩ : ∃ j_ : Int, (shr .i64 a1 (ji5)) = j_ := ⟨_, rfl⟩
          rw [hji7] at H
          have hji7_ : (a1 / 2 ^ min (ji5).toNat 64) = ji7 := hji7
          have hji7z : (ji5) ≤ 64 → (a1 / 2 ^ (ji5).toNat) = ji7 := shr_small hji7
          by_cases c8 : x6_1 = 0
          · rw [if_pos c8] at H
            have c8b0 : (x6_1 == 0) = true := beq_iff_eq.mpr c8
            have c8b1 : (x6_1 != 0) = false := bne_eq_false_iff_eq.mpr c8
            clear c8
            by_cases c9 : x0_1.length < 140737488355328
            · rw [if_pos c9] at H
              obtain ⟨y102, hy102⟩ : ∃ y_ : List Int, y_ = x0_1 ++ [Go.bits .and .u8 ((ji7) % 256) 127] := ⟨_, rfl⟩
              rw [← hy102] at H
              have LN := Aside0.mk (app_len _ _ _ _ _ H)
              have ey : y102.length = x0_1.length + 1 := by rw [hy102]; simp
              have SETB := Aside0.mk (show (x0_1 ++ L.drop x0_1.length).set x0_1.length (Go.bits .and .u8 ((ji7) % 256) 127) = y102 ++ L.drop y102.length from by rw [ey, hy102]; exact set_mid _ _ _ (by have := LN.out; have := LEN.out; omega))
              replace LN := Aside0.mk (show x0_1.length + 1 ≤ r.length by have := LN.out; omega)
              have EY := Aside0.mk (show x0_1.length + 1 = y102.length from ey.symm)
              have H' := Aside0.mk H
              clear H hy102 ey c9
              go_wp2_with (first | ((with_reducible refine gate_builtin (b := .append) (xs := #[.tmp 28, .tmp 30]) rfl ?_); at_builtin; refine R_append_in (w0 := w0) w0.heap.size rfl (.tmp 28) (.tmp 30) 25 rfl Try.underlying25 info5 g x0_1.length L.length cap (Go.bits .and .u8 ((ji7) % 256) 127) (x0_1 ++ L.drop x0_1.length) P0_ rfl rfl ?aO ?aN ?aC ?aB ?aS ?aG ?_; (case aO => exact (by (with_reducible repeat (first | apply Kd.R_alloc | apply Kd.R_drewN | apply Kd.R_drew)); exact HO_0.out)); (case aN => have := LN.out; have := LEN.out; simp; omega); (case aC => have := LN.out; have := LEN.out; omega); (case aB => exact (by repeat (first | (with_reducible first | exact HB.out | apply below_alloc | apply pw_below_drewN | apply below_drew1) | exact HB.out))); (case aS => exact (below_size (by repeat (first | (with_reducible first | exact HB.out | apply below_alloc | apply pw_below_drewN | apply below_drew1) | exact HB.out)))); (case aG => exact GE.out); intro w10 ho hb hg; rw [SETB.out] at ho; have n0_ := Aside0.mk hb; have n1_ := Aside0.mk (Kept.of_grown (S := (fun k_ => P0_ k_)) hg (Kept.alloc (by repeat (first | (with_reducible first | exact HK.out | apply Kept.alloc | apply Kept.drewN | apply Kept.drew) | exact HK.out)) _) (fun k_ e_ => by cases e_; exact .inl (HO_0.out.1 _ rfl))); have n2_ := Aside0.mk ho; clear HB; clear HK; clear HO_0; have HB := n0_; have HK := n1_; have HO_0 := n2_; clear n0_ n1_ n2_; clear ho hb hg))
              go_roundg k1
              case measure => have := HK1.out; omega
              case rel => exact ⟨y102, wrap64 (x6_1 - 1), (by first | rfl | (simp; done) | (simp [*]; done)), (by rw [← EY.out]), H', ⟨by have := HK1.out; omega⟩, HO_0, ⟨by repeat (first | (with_reducible first | exact HK.out | apply Kept.alloc | apply Kept.drewN | apply Kept.drew) | exact HK.out)⟩, ⟨by repeat (first | (with_reducible first | exact HB.out | apply below_alloc | apply pw_below_drewN | apply below_drew1) | exact HB.out)⟩⟩
            · rw [if_neg c9] at H
              exact absurd H (by simp)
          · rw [if_neg c8] at H
            have c8b0 : (x6_1 == 0) = false := beq_eq_false_iff_ne.mpr c8
            have c8b1 : (x6_1 != 0) = true := bne_iff_ne.mpr c8
            by_cases c9 : x0_1.length < 140737488355328
            · rw [if_pos c9] at H
              obtain ⟨y102, hy102⟩ : ∃ y_ : List Int, y_ = x0_1 ++ [Go.bits .or .u8 (Go.bits .and .u8 ((ji7) % 256) 127) 128] := ⟨_, rfl⟩
              rw [← hy102] at H
              have LN := Aside0.mk (app_len _ _ _ _ _ H)
              have ey : y102.length = x0_1.length + 1 := by rw [hy102]; simp
              have SETB := Aside0.mk (show (x0_1 ++ L.drop x0_1.length).set x0_1.length (Go.bits .or .u8 (Go.bits .and .u8 ((ji7) % 256) 127) 128) = y102 ++ L.drop y102.length from by rw [ey, hy102]; exact set_mid _ _ _ (by have := LN.out; have := LEN.out; omega))
              replace LN := Aside0.mk (show x0_1.length + 1 ≤ r.length by have := LN.out; omega)
              have EY := Aside0.mk (show x0_1.length + 1 = y102.length from ey.symm)
              have H' := Aside0.mk H
              clear H hy102 ey c9
              go_wp2_with (first | ((with_reducible refine gate_builtin (b := .append) (xs := #[.tmp 28, .tmp 30]) rfl ?_); at_builtin; refine R_append_in (w0 := w0) w0.heap.size rfl (.tmp 28) (.tmp 30) 25 rfl Try.underlying25 info5 g x0_1.length L.length cap (Go.bits .or .u8 (Go.bits .and .u8 ((ji7) % 256) 127) 128) (x0_1 ++ L.drop x0_1.length) P0_ rfl rfl ?aO ?aN ?aC ?aB ?aS ?aG ?_; (case aO => exact (by (with_reducible repeat (first | apply Kd.R_alloc | apply Kd.R_drewN | apply Kd.R_drew)); exact HO_0.out)); (case aN => have := LN.out; have := LEN.out; simp; omega); (case aC => have := LN.out; have := LEN.out; omega); (case aB => exact (by repeat (first | (with_reducible first | exact HB.out | apply below_alloc | apply pw_below_drewN | apply below_drew1) | exact HB.out))); (case aS => exact (below_size (by repeat (first | (with_reducible first | exact HB.out | apply below_alloc | apply pw_below_drewN | apply below_drew1) | exact HB.out)))); (case aG => exact GE.out); intro w10 ho hb hg; rw [SETB.out] at ho; have n0_ := Aside0.mk hb; have n1_ := Aside0.mk (Kept.of_grown (S := (fun k_ => P0_ k_)) hg (Kept.alloc (by repeat (first | (with_reducible first | exact HK.out | apply Kept.alloc | apply Kept.drewN | apply Kept.drew) | exact HK.out)) _) (fun k_ e_ => by cases e_; exact .inl (HO_0.out.1 _ rfl))); have n2_ := Aside0.mk ho; clear HB; clear HK; clear HO_0; have HB := n0_; have HK := n1_; have HO_0 := n2_; clear n0_ n1_ n2_; clear ho hb hg))
              go_roundg k1
              case measure => have := HK1.out; omega
              case rel => exact ⟨y102, wrap64 (x6_1 - 1), (by first | rfl | (simp; done) | (simp [*]; done)), (by rw [← EY.out]), H', ⟨by have := HK1.out; omega⟩, HO_0, ⟨by repeat (first | (with_reducible first | exact HK.out | apply Kept.alloc | apply Kept.drewN | apply Kept.drew) | exact HK.out)⟩, ⟨by repeat (first | (with_reducible first | exact HB.out | apply below_alloc | apply pw_below_drewN | apply below_drew1) | exact HB.out)⟩⟩
            · rw [if_neg c9] at H
              exact absurd H (by simp)
        · rw [if_neg c6] at H
          exact absurd H (by simp)
      · rw [if_neg c4] at H
        have c4b0 : decide (0 ≤ x6_1) = false := decide_eq_false c4
        clear c4
        obtain rfl := Option.some.inj H
        go_wp2
        go_ret
        exact ⟨rfl, by (with_reducible repeat (first | apply Kd.R_alloc | apply Kd.R_drewN | apply Kd.R_drew)); exact HO_0.out, by repeat (first | (with_reducible first | exact HB.out | apply below_alloc | apply pw_below_drewN | apply below_drew1) | exact HB.out), by repeat (first | (with_reducible first | exact HK.out | apply Kept.alloc | apply Kept.drewN | apply Kept.drew) | exact HK.out)⟩

def oidEncode.l0 : Nat → List Int → List Int → Int → Option (List Int)
  | 0, _, _, _ => none
  | k + 1, l, t, i => if i < (l.length : Int) then (if 0 ≤ i then ((asn1_appendBase128Int.f k t (rd l i)).bind fun t' => oidEncode.l0 k l t' (wrap64 (i + 1))) else none) else some t
def oidEncode.f (k : Nat) (l : List Int) : Option (List Int) := if 1 < (l.length : Int) then ((asn1_appendBase128Int.f k [] (wrap64 ((wrap64 ((rd l 0) * 40)) + (rd l 1)))).bind fun t => oidEncode.l0 k l t 2) else none
theorem oidEncode.mono_l : ∀ k y0 y1 y2, LeO (oidEncode.l0 k y0 y1 y2) (oidEncode.l0 (k + 1) y0 y1 y2)
  | 0, _, _, _ => fun r h => by simp [oidEncode.l0] at h
  | k + 1, y0, y1, y2 => by
    unfold oidEncode.l0
    exact LeO.ite (LeO.ite (LeO.bind (asn1_appendBase128Int.mono _ _ _) (fun _ => oidEncode.mono_l k _ _ _)) (LeO.none _)) (LeO.refl _)
theorem oidEncode.mono : ∀ l k, LeO (oidEncode.f k l) (oidEncode.f (k + 1) l) := fun l k => LeO.ite (LeO.bind (asn1_appendBase128Int.mono _ _ _) (fun _ => oidEncode.mono_l k _ _ _)) (LeO.refl _)
theorem appf_len {k : Nat} {x0 : List Int} {x1 : Int} {r : List Int} (h : asn1_appendBase128Int.f k x0 x1 = some r) : x0.length ≤ r.length := by
  unfold asn1_appendBase128Int.f at h
  obtain ⟨t, _, h⟩ := Option.bind_eq_some_iff.mp h
  exact app_len _ _ _ _ _ h
theorem oidl_len : ∀ (k : Nat) (l t : List Int) (i : Int) (r : List Int), oidEncode.l0 k l t i = some r → t.length ≤ r.length
  | 0, _, _, _, _, h => by simp [oidEncode.l0] at h
  | k + 1, l, t, i, r, h => by
    rw [oidEncode.l0] at h
    split at h
    · split at h
      · obtain ⟨t', h1, h2⟩ := Option.bind_eq_some_iff.mp h
        have := appf_len h1
        have := oidl_len k _ _ _ _ h2
        omega
      · cases h
    · cases h; omega
set_option maxHeartbeats 8000000 in
set_option maxRecDepth 100000 in
theorem oidEncode.calls (k : Nat) (P0_ : Nat → Prop) (A0 : Option Addr) (c0 g cap : Nat) (l L : List Int) (r : List Int) (w0 w : World) (hr0 : Kd.C (Kd.int .i64) w0 A0 l.length l) (hB : Below w0.heap.size w0 w) (hg : w0.heap.size ≤ g) (ho : Kd.R (Kd.int .u8) 5 w w0.heap.size P0_ (.slice (some ⟨g, 0, none⟩) L.length cap) L) (hcap : L.length ≤ cap) (hr : r.length ≤ L.length) (h : oidEncode.f k l = some r) :
    Calls Try.prog 135 #[.slice A0 l.length c0, .slice (some ⟨g, 0, none⟩) L.length cap] w fun e w' => e = .returned (.tuple #[]) ∧ Kd.R (Kd.int .u8) 5 w' w0.heap.size P0_ (.slice (some ⟨g, 0, none⟩) L.length cap) (r ++ L.drop r.length) ∧ Below w0.heap.size w0 w' ∧ Kept w w' (fun k_ => P0_ k_) := by
  have HR0 := Aside0.mk hr0
  have HO := Aside0.mk ho
  have HK := Aside0.mk (Kept.refl w (fun k_ => P0_ k_))
  have HB := Aside0.mk hB
  have GE := Aside0.mk hg
  have LEN := Aside0.mk (And.intro hr hcap)
  unfold oidEncode.f at h
  by_cases c : 1 < (l.length : Int)
  · rw [if_pos c] at h
    obtain ⟨t, A1, h⟩ := Option.bind_eq_some_iff.mp h
    have A1 := Aside0.mk A1
    have LT := Aside0.mk (oidl_len _ _ _ _ _ h)
    have H' := Aside0.mk h
    have hC := Kd.C_below hr0 hB
    have p114 : 0 ≤ (0 : Int) := (by omega)
    have q114 : 0 < (l.length : Int) := by omega
    obtain ⟨ad114, e114, hx114_0⟩ := Kd.at_int hC 0 p114 q114
    cases e114
    have qi114 : (0 < l.length) = True := eq_true (by omega)
    (try rw [show ((0 : Int)).toNat = 0 from rfl] at hx114_0)
    (try rw [Addr.add_zero'] at hx114_0)
    replace p114 := eq_true p114
    replace q114 := eq_true q114
    have p115 : 0 ≤ (1 : Int) := (by omega)
    have q115 : 1 < (l.length : Int) := c
    obtain ⟨ad115, e115, hx115_0⟩ := Kd.at_int hC 1 p115 q115
    obtain rfl : ad114 = ad115 := (by injection e115)
    (try simp only [show (1 : Int).toNat = 1 from rfl, Nat.reduceMul, Nat.reduceEqDiff, Go.Addr.add, ↓reduceIte] at hx115_0)
    have qi115 : (1 < l.length) = True := eq_true (by omega)
    (try rw [show ((1 : Int)).toNat = 1 from rfl] at hx115_0)
    replace p115 := eq_true p115
    replace q115 := eq_true q115
    clear hr0 ho hB hg hcap hr h hC c
    go_enter Try.func135, Try.ntmps135
    go_wp2
    go_still_tail 10, (by kernel_rfl)
    (try change wpList _ _ _ _ _ w.drew)
    go_wp2_with (first | (go_at_call 137; refine (app_in k P0_ g cap [] L _ t w0 _ (by repeat (first | (with_reducible first | exact HB.out | apply below_alloc | apply pw_below_drewN | apply below_drew1) | exact HB.out)) GE.out ?oR LEN.out.2 (by have := LEN.out; have := LT.out; omega) A1.out).mono ?_; (case oR => simpa using (by (with_reducible repeat (first | apply Kd.R_alloc | apply Kd.R_drewN | apply Kd.R_drew)); exact HO.out)); rintro e w' ⟨rfl, ho, hb, hk⟩; have n0_ := Aside0.mk (Kept.then_ (by repeat (first | (with_reducible first | exact HK.out | apply Kept.alloc | apply Kept.drewN | apply Kept.drew) | exact HK.out)) hk (fun k_ h_ => .inl h_)); have HO_0 := Aside0.mk ho; clear HO HK; have HK := n0_; clear HB; have HB := Aside0.mk hb; clear n0_ ho hb hk))
    go_loopg [1, 4] k (fun kq v1 v4 w' => ∃ (x1_1 : List Int) (x4_1 : Int), v4 = .int .i64 x4_1 ∧ v1 = .slice (some ⟨g, 0, none⟩) x1_1.length cap ∧ Aside0 (oidEncode.l0 kq l x1_1 x4_1 = some r) ∧ Aside0 (kq ≤ k) ∧ Aside0 (Kd.R (Kd.int .u8) 5 w' w0.heap.size P0_ (.slice (some ⟨g, 0, none⟩) L.length cap) (x1_1 ++ L.drop x1_1.length)) ∧ Aside0 (Kept w w' (fun k_ => P0_ k_)) ∧ Aside0 (Below w0.heap.size w0 w'))
    case atStart => exact ⟨t, 2, (by first | rfl | (simp; done) | (simp [*]; done)), rfl, H', ⟨Nat.le_refl _⟩, ⟨by (with_reducible repeat (first | apply Kd.R_alloc | apply Kd.R_drewN | apply Kd.R_drew)); exact HO_0.out⟩, ⟨(by repeat (first | (with_reducible first | exact HK.out | apply Kept.alloc | apply Kept.drewN | apply Kept.drew) | exact HK.out))⟩, ⟨(by repeat (first | (with_reducible first | exact HB.out | apply below_alloc | apply pw_below_drewN | apply below_drew1) | exact HB.out))⟩⟩
    case round =>
      clear H' HO_0 A1 LT hx114_0 hx115_0 p114 p115 q114 q115 qi114 qi115
      obtain ⟨x1_1, x4_1, rfl, rfl, HA, HK1, HO_0, HK, HB⟩ := hrel
      cases gk with
      | zero => exact absurd HA.out (by simp [oidEncode.l0])
      | succ k1 =>
        have H := HA.out
        clear HA
        simp only [oidEncode.l0] at H
        by_cases c5 : x4_1 < (l.length : Int)
        · rw [if_pos c5] at H
          have c5b0 : decide (x4_1 < (l.length : Int)) = true := decide_eq_true c5
          clear c5
          by_cases c6 : 0 ≤ x4_1
          · rw [if_pos c6] at H
            have c6b0 : decide (0 ≤ x4_1) = true := decide_eq_true c6
            clear c6
            replace H := Option.bind_eq_some_iff.mp H
            obtain ⟨t118, A70, H⟩ := H
            have A7 := Aside0.mk A70
            have LT := Aside0.mk (oidl_len _ _ _ _ _ H)
            clear A70
            have H' := Aside0.mk H
            clear H
            have p117 : 0 ≤ (x4_1 : Int) := of_decide_eq_true (by first | (with_reducible assumption) | assumption)
            have q117 : x4_1 < (l.length : Int) := of_decide_eq_true (by first | (with_reducible assumption) | assumption)
            obtain ⟨ad117, e117, hx117_0⟩ := Kd.at_int (Kd.C_below HR0.out HB.out) x4_1 p117 q117
            obtain rfl : ad114 = ad117 := (by injection e117)
            replace p117 := eq_true p117
            replace q117 := eq_true q117
            go_wp2_with (first | (go_at_call 137; refine (app_in k1 P0_ g cap x1_1 L _ t118 w0 _ (by repeat (first | (with_reducible first | exact HB.out | apply below_alloc | apply pw_below_drewN | apply below_drew1) | exact HB.out)) GE.out ?oR LEN.out.2 (by have := LEN.out; have := LT.out; omega) A7.out).mono ?_; (case oR => exact (by (with_reducible repeat (first | apply Kd.R_alloc | apply Kd.R_drewN | apply Kd.R_drew)); exact HO_0.out)); rintro e w' ⟨rfl, ho, hb, hk⟩; have n0_ := Aside0.mk (Kept.then_ (by repeat (first | (with_reducible first | exact HK.out | apply Kept.alloc | apply Kept.drewN | apply Kept.drew) | exact HK.out)) hk (fun k_ h_ => .inl h_)); clear HO_0; have HO_0 := Aside0.mk ho; clear HK; have HK := n0_; clear HB; have HB := Aside0.mk hb; clear n0_ ho hb hk))
            go_roundg k1
            case measure => have := HK1.out; omega
            case rel => exact ⟨t118, (wrap64 (x4_1 + 1)), (by first | rfl | (simp; done) | (simp [*]; done)), rfl, H', ⟨by have := HK1.out; omega⟩, HO_0, ⟨(by repeat (first | (with_reducible first | exact HK.out | apply Kept.alloc | apply Kept.drewN | apply Kept.drew) | exact HK.out))⟩, ⟨(by repeat (first | (with_reducible first | exact HB.out | apply below_alloc | apply pw_below_drewN | apply below_drew1) | exact HB.out))⟩⟩
          · rw [if_neg c6] at H
            exact absurd H (by simp)
        · rw [if_neg c5] at H
          have c5b0 : decide (x4_1 < (l.length : Int)) = false := decide_eq_false c5
          clear c5
          obtain rfl := Option.some.inj H
          go_wp2
          first | go_end0 | ((try simp only [Exit.inBlock, Exit.then]); refine bodyPost_ret (results_none rfl _ _ _) rfl ?_)
          exact ⟨rfl, by (with_reducible repeat (first | apply Kd.R_alloc | apply Kd.R_drewN | apply Kd.R_drew)); exact HO_0.out, (by repeat (first | (with_reducible first | exact HB.out | apply below_alloc | apply pw_below_drewN | apply below_drew1) | exact HB.out)), (by repeat (first | (with_reducible first | exact HK.out | apply Kept.alloc | apply Kept.drewN | apply Kept.drew) | exact HK.out))⟩
  · rw [if_neg c] at h
    cases h

def zzEncO.f (k : Nat) (l : List Int) : Option (List Int) := (asn1_oidEncoder_Len.f k l).bind fun n => if 0 < n ∧ n.toNat * 1 ≤ 281474976710656 then ((oidEncode.f k l).bind fun r => if r.length = n.toNat then some r else none) else none
theorem zzEncO.mono : ∀ l k, LeO (zzEncO.f k l) (zzEncO.f (k + 1) l) := fun l k => LeO.bind (asn1_oidEncoder_Len.mono l k) (fun n => LeO.ite (LeO.bind (oidEncode.mono _ _) (fun _ => LeO.refl _)) (LeO.refl _))
set_option maxHeartbeats 8000000 in
set_option maxRecDepth 100000 in
theorem zzEncO.calls (k : Nat) (A0 : Option Addr) (c0 : Nat) (l : List Int) (r : List Int) (w : World) (hr0 : Kd.C (Kd.int .i64) w A0 l.length l) (hc0 : l.length ≤ c0) (h : zzEncO.f k l = some r) :
    Calls Try.prog 80 #[.iface 134 (.slice A0 l.length c0)] w fun e w' => ∃ v0_ : Value, e = .returned v0_ ∧ Kd.R (Kd.int .u8) 5 w' w.heap.size (fun _ => True) v0_ r ∧ Below w.heap.size w w' := by
  unfold zzEncO.f at h
  obtain ⟨n, A1, h⟩ := Option.bind_eq_some_iff.mp h
  by_cases c : 0 < n ∧ n.toNat * 1 ≤ 281474976710656
  · rw [if_pos c] at h
    obtain ⟨r', A2, h⟩ := Option.bind_eq_some_iff.mp h
    by_cases cr : r'.length = n.toNat
    · rw [if_pos cr] at h
      obtain rfl := Option.some.inj h
      have A1 := Aside0.mk A1
      have A2 := Aside0.mk A2
      have CR := Aside0.mk cr
      have C := Aside0.mk c
      have HR0 := Aside0.mk hr0
      have HC0 := Aside0.mk hc0
      have HB := Aside0.mk (Below.refl w.heap.size w)
      obtain ⟨L0, hL0⟩ : ∃ L0, L0 = List.replicate n.toNat (0 : Int) := ⟨_, rfl⟩
      have HL0 := Aside0.mk hL0
      have LL0 := Aside0.mk (show L0.length = n.toNat by rw [hL0]; simp)
      clear h c cr hr0 hc0 hL0
      have hm1 := fun (w : World) => (show (Go.method 270 134 (.slice A0 l.length c0) "Len").run Try.prog w = .ok (136, .slice A0 l.length c0) w from by kernel_rfl)
      have hm2 := fun (w : World) => (show (Go.method 270 134 (.slice A0 l.length c0) "Encode").run Try.prog w = .ok (135, .slice A0 l.length c0) w from by kernel_rfl)
      go_enter Try.func80, Try.ntmps80
      go_wp2_with (first | (go_at_call 136; (with_reducible refine (asn1_oidEncoder_Len.calls k A0 c0 l n _ HR0.out HC0.out A1.out).mono ?_); rintro e w' ⟨rfl, ⟨nd, rfl⟩⟩) | ((with_reducible refine gate_dst (N := 6) rfl ?_); refine Kd.R_make (Kd.int .u8) (w0 := w) w.heap.size 5 ?hg (N := 6) ?hd 25 (.tmp 5) (.tmp 5) rfl n rfl rfl Try.underlying25 (.int .u8 0) 1 info5 rfl (by decide) (by decide) 0 (okp := fun _ => True) (ok := fun _ => True) ?hzero (fun _ h => h) trivial (by have := C.out; omega) C.out.2 ?hB ?hbase ?_; (case hd => rfl); (case hg => rfl); (case hzero => rfl); (case hB => exact (by repeat (first | (with_reducible first | exact HB.out | apply below_alloc | apply pw_below_drewN | apply below_drew1) | exact HB.out))); (case hbase => exact Nat.le_refl _); intro v1 w1 ho hb hg_ hnew_; rw [← HL0.out] at ho; obtain ⟨g1, cap1, ev, gb, _⟩ := Kd.R_form ho (by have := C.out; rw [LL0.out]; omega); subst ev; have HO1 := Aside0.mk ho; have CP := Aside0.mk (Kd.R_reads' ho).2.1; have GE := Aside0.mk gb; have HB1 := Aside0.mk hb; clear ho hb hg_ hnew_ gb) | (go_at_call 135; (with_reducible refine (oidEncode.calls k (fun _ => True) A0 c0 g1 cap1 l L0 r' w w1 HR0.out HB1.out GE.out HO1.out CP.out (by rw [CR.out, LL0.out]; exact Nat.le_refl _) A2.out).mono ?_); rintro e w' ⟨rfl, ho, hb, hk⟩; have HO2 := Aside0.mk ho; have HB2 := Aside0.mk hb; clear ho hb hk))
      go_ret
      exact ⟨_, rfl, by have := HO2.out; rwa [List.drop_of_length_le (by rw [CR.out, LL0.out]; exact Nat.le_refl _), List.append_nil] at this, HB2.out⟩
    · rw [if_neg cr] at h
      cases h
  · rw [if_neg c] at h
    cases h
def badOID (l : List Int) : Prop := (l.length : Int) < 2 ∨ rd l 0 > 2 ∨ (rd l 0 < 2 ∧ rd l 1 ≥ 40)
instance (l : List Int) : Decidable (badOID l) := by unfold badOID; infer_instance

set_option maxHeartbeats 8000000 in
set_option maxRecDepth 100000 in
theorem makeOID_bad (A0 : Option Addr) (c0 : Nat) (l : List Int) (w : World) (hr0 : Kd.C (Kd.int .i64) w A0 l.length l) (hc0 : l.length ≤ c0) (h : badOID l) :
    Calls Try.prog 81 #[.slice A0 l.length c0] w fun e w' => e = .returned (.tuple #[.nilIface, .iface 133 (.agg #[.string (⟨#[105, 110, 118, 97, 108, 105, 100, 32, 111, 98, 106, 101, 99, 116, 32, 105, 100, 101, 110, 116, 105, 102, 105, 101, 114]⟩ : ByteArray)])]) ∧ Drawn0 w w' := by
  by_cases c0_ : (l.length : Int) < 2
  · have c0b0 : decide ((l.length : Int) < 2) = true := decide_eq_true c0_
    have c0b1 : decide (l.length < 2) = true := decide_eq_true (by omega)
    clear h hr0 c0_
    go_enter Try.func81, Try.ntmps81
    go_wp2
    (repeat (go_quiet (fail); try go_wp2))
    go_ret2
    exact ⟨rfl, by repeat (first | exact Drawn0.refl _ | apply Drawn0.step)⟩
  have c0b0 : decide ((l.length : Int) < 2) = false := decide_eq_false c0_
  have c0b1 : decide (l.length < 2) = false := decide_eq_false (by omega)
  have HR0 := Aside0.mk hr0
  have p114 : 0 ≤ (0 : Int) := (by omega)
  have q114 : 0 < (l.length : Int) := by omega
  obtain ⟨ad114, e114, hx114_0⟩ := Kd.at_int hr0 0 p114 q114
  cases e114
  have qi114 : (0 < l.length) = True := eq_true (by omega)
  (try rw [show ((0 : Int)).toNat = 0 from rfl] at hx114_0)
  (try rw [Addr.add_zero'] at hx114_0)
  replace p114 := eq_true p114
  replace q114 := eq_true q114
  have p115 : 0 ≤ (1 : Int) := (by omega)
  have q115 : 1 < (l.length : Int) := by omega
  obtain ⟨ad115, e115, hx115_0⟩ := Kd.at_int hr0 1 p115 q115
  obtain rfl : ad114 = ad115 := (by injection e115)
  (try simp only [show (1 : Int).toNat = 1 from rfl, Nat.reduceMul, Nat.reduceEqDiff, Go.Addr.add, ↓reduceIte] at hx115_0)
  have qi115 : (1 < l.length) = True := eq_true (by omega)
  (try rw [show ((1 : Int)).toNat = 1 from rfl] at hx115_0)
  replace p115 := eq_true p115
  replace q115 := eq_true q115
  by_cases c1 : rd l 0 > 2
  · have c1b0 : decide (2 < rd l 0) = true := decide_eq_true c1
    clear h hr0 c0_ c1
    go_enter Try.func81, Try.ntmps81
    go_wp2
    (repeat (go_quiet (fail); try go_wp2))
    go_ret2
    exact ⟨rfl, by repeat (first | exact Drawn0.refl _ | apply Drawn0.step)⟩
  have c1b0 : decide (2 < rd l 0) = false := decide_eq_false c1
  have h2 : rd l 0 < 2 ∧ rd l 1 ≥ 40 := by unfold badOID at h; omega
  have c2b0 : decide (rd l 0 < 2) = true := decide_eq_true h2.1
  have c3b0 : decide (40 ≤ rd l 1) = true := decide_eq_true h2.2
  clear h hr0 c0_ c1 h2
  go_enter Try.func81, Try.ntmps81
  go_wp2
  (repeat (go_quiet (fail); try go_wp2))
  go_ret2
  exact ⟨rfl, by repeat (first | exact Drawn0.refl _ | apply Drawn0.step)⟩

set_option maxHeartbeats 8000000 in
set_option maxRecDepth 100000 in
theorem makeOID_good (A0 : Option Addr) (c0 : Nat) (l : List Int) (w : World) (hr0 : Kd.C (Kd.int .i64) w A0 l.length l) (hc0 : l.length ≤ c0) (h : ¬ badOID l) :
    Calls Try.prog 81 #[.slice A0 l.length c0] w fun e w' => e = .returned (.tuple #[.iface 134 (.slice A0 l.length c0), .nilIface]) ∧ Drawn0 w w' := by
  have h1 : ¬ ((l.length : Int) < 2) ∧ ¬ (rd l 0 > 2) ∧ (rd l 0 < 2 → rd l 1 < 40) := by unfold badOID at h; omega
  obtain ⟨c0_, c1, h2⟩ := h1
  have c0b0 : decide ((l.length : Int) < 2) = false := decide_eq_false c0_
  have c0b1 : decide (l.length < 2) = false := decide_eq_false (by omega)
  have c1b0 : decide (2 < rd l 0) = false := decide_eq_false c1
  have HR0 := Aside0.mk hr0
  have p114 : 0 ≤ (0 : Int) := (by omega)
  have q114 : 0 < (l.length : Int) := by omega
  obtain ⟨ad114, e114, hx114_0⟩ := Kd.at_int hr0 0 p114 q114
  cases e114
  have qi114 : (0 < l.length) = True := eq_true (by omega)
  (try rw [show ((0 : Int)).toNat = 0 from rfl] at hx114_0)
  (try rw [Addr.add_zero'] at hx114_0)
  replace p114 := eq_true p114
  replace q114 := eq_true q114
  have p115 : 0 ≤ (1 : Int) := (by omega)
  have q115 : 1 < (l.length : Int) := by omega
  obtain ⟨ad115, e115, hx115_0⟩ := Kd.at_int hr0 1 p115 q115
  obtain rfl : ad114 = ad115 := (by injection e115)
  (try simp only [show (1 : Int).toNat = 1 from rfl, Nat.reduceMul, Nat.reduceEqDiff, Go.Addr.add, ↓reduceIte] at hx115_0)
  have qi115 : (1 < l.length) = True := eq_true (by omega)
  (try rw [show ((1 : Int)).toNat = 1 from rfl] at hx115_0)
  replace p115 := eq_true p115
  replace q115 := eq_true q115
  by_cases c2 : rd l 0 < 2
  · have c2b0 : decide (rd l 0 < 2) = true := decide_eq_true c2
    have c3b0 : decide (40 ≤ rd l 1) = false := decide_eq_false (by have := h2 c2; omega)
    clear h hr0 c0_ c1 c2 h2
    go_enter Try.func81, Try.ntmps81
    go_wp2
    (repeat (go_quiet (fail); try go_wp2))
    go_ret2
    exact ⟨rfl, by repeat (first | exact Drawn0.refl _ | apply Drawn0.step)⟩
  have c2b0 : decide (rd l 0 < 2) = false := decide_eq_false c2
  clear h hr0 c0_ c1 c2 h2
  go_enter Try.func81, Try.ntmps81
  go_wp2
  (repeat (go_quiet (fail); try go_wp2))
  go_ret2
  exact ⟨rfl, by repeat (first | exact Drawn0.refl _ | apply Drawn0.step)⟩


def asn1_ZZPutOID.f (k : Nat) (l0 : List Int) : Option (List Int × Option Int) := if badOID l0 then some ([], some 0) else ((zzEncO.f k l0).bind fun r => some (r, none))
theorem asn1_ZZPutOID.mono : ∀ a0 k, LeO (asn1_ZZPutOID.f k a0) (asn1_ZZPutOID.f (k + 1) a0) := fun a0 k => LeO.ite (LeO.refl _) (LeO.bind (zzEncO.mono _ _) (fun _ => LeO.refl _))
set_option maxHeartbeats 8000000 in
set_option maxRecDepth 100000 in
theorem asn1_ZZPutOID.calls (k : Nat) (A0 : Option Addr) (c0 : Nat) (l0 : List Int) (r1 : List Int) (r2 : Option Int) (w : World) (hr0 : Kd.C (Kd.int .i64) w A0 l0.length l0) (hc0 : l0.length ≤ c0) (h : asn1_ZZPutOID.f k l0 = some (r1, r2)) :
    Calls Try.prog 47 #[.slice A0 l0.length c0] w fun e w' => ∃ v0_ : Value, e = .returned (.tuple #[v0_, errW r2]) ∧ Kd.R (Kd.int .u8) 5 w' w.heap.size (fun _ => True) v0_ r1 ∧ Below w.heap.size w w' := by
  unfold asn1_ZZPutOID.f at h
  have HR0 := Aside0.mk hr0
  have HC0 := Aside0.mk hc0
  have HB := Aside0.mk (Below.refl w.heap.size w)
  clear hr0 hc0
  by_cases c : badOID l0
  · rw [if_pos c] at h
    simp only [Option.some.injEq, Prod.mk.injEq] at h
    obtain ⟨rfl, rfl⟩ := h
    have C := Aside0.mk c
    clear c
    go_enter Try.func47, Try.ntmps47
    go_wp2_with (first | (go_at_call 81; (with_reducible refine (makeOID_bad A0 c0 l0 _ HR0.out HC0.out C.out).mono ?_); rintro e w' ⟨rfl, ⟨nd, rfl⟩⟩))
    go_ret2
    exact ⟨_, rfl, Kd.R_nil _ _ _ _ _, by repeat (first | (with_reducible first | exact HB.out | apply below_alloc | apply pw_below_drewN | apply below_drew1) | exact HB.out)⟩
  · rw [if_neg c] at h
    obtain ⟨r, A1, h⟩ := Option.bind_eq_some_iff.mp h
    simp only [Option.some.injEq, Prod.mk.injEq] at h
    obtain ⟨rfl, rfl⟩ := h
    have A1 := Aside0.mk A1
    have C := Aside0.mk c
    clear c
    go_enter Try.func47, Try.ntmps47
    go_wp2_with (first | (go_at_call 81; (with_reducible refine (makeOID_good A0 c0 l0 _ HR0.out HC0.out C.out).mono ?_); rintro e w' ⟨rfl, ⟨nd, rfl⟩⟩) | (go_at_call 80; (with_reducible refine (zzEncO.calls k A0 c0 l0 r _ (Kd.C_below HR0.out (pw_below_drewN HB.out nd)) HC0.out A1.out).mono ?_); rintro e w2 ⟨v1, rfl, ho, hb⟩; have HO := Aside0.mk (Kd.R_lower ho (Nat.le_refl _)); have HB2 := Aside0.mk (below_step (pw_below_drewN HB.out nd) hb); clear ho hb))
    go_ret2
    exact ⟨_, rfl, HO.out, HB2.out⟩

end Go.Proofs.Ytmiemfgcggkbnaa.QP
