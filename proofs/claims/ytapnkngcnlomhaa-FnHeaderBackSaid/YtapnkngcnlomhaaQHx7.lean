-- Written by a program of this work (wip/patch_print.py) for this claim.
import Derived.Test.YtapnkngcnlomhaaQHx0
namespace Go.Proofs.Ytapnkngcnlomhaa.QH
open Go.RowKit Go.Proofs.YtapnkngcnlomhaaW.PrintWords Go.Proofs.YtapnkngcnlomhaaW.PrintLast Go.Proofs.YtapnkngcnlomhaaW.PrintMore
attribute [local go_sem] max2_int min2_int max_two min_two max_three min_three max_four min_four   -- for this text's walks alone
set_option linter.unusedVariables false
set_option linter.unusedSimpArgs false

/-! ### asn1_base128IntLength: function 57 -/
def asn1_base128IntLength.l0 : Nat → Int → Int → Option (Int)
  | 0, _, _ => none
  | k + 1, x3, x4 => if x4 > 0 then (asn1_base128IntLength.l0 k (wrap64 (x3 + 1)) (x4 / 128)) else (some x3)
def asn1_base128IntLength.f (k : Nat) (a0 : Int) : Option (Int) := if a0 = 0 then (some 1) else (asn1_base128IntLength.l0 k 0 a0)
theorem asn1_base128IntLength.mono_l : ∀ k, (∀ y0 y1, LeO (asn1_base128IntLength.l0 k y0 y1) (asn1_base128IntLength.l0 (k + 1) y0 y1))
  | 0 => fun _ _ r h => by simp [asn1_base128IntLength.l0] at h
  | k + 1 => by
    have ih0 := asn1_base128IntLength.mono_l k
    · intro y0 y1
      unfold asn1_base128IntLength.l0
      repeat' first
      | (with_reducible exact ih0 _ _)
      | (with_reducible exact LeO.refl _)
      | (with_reducible exact LeO.none _)
      | (with_reducible refine LeO.ite ?_ ?_)
      | (with_reducible refine LeO.bind ?_ (fun _ => ?_))
      | exact ih0 _ _
      | exact LeO.none _
      | refine LeO.ite ?_ ?_
      | refine LeO.bind ?_ (fun _ => ?_)
theorem asn1_base128IntLength.mono : ∀ a0 k, LeO (asn1_base128IntLength.f k a0) (asn1_base128IntLength.f (k + 1) a0) := by
  intro a0 k
  have ih0 := asn1_base128IntLength.mono_l k
  unfold asn1_base128IntLength.f
  repeat' first
      | (with_reducible exact ih0 _ _)
      | (with_reducible exact LeO.refl _)
      | (with_reducible exact LeO.none _)
      | (with_reducible refine LeO.ite ?_ ?_)
      | (with_reducible refine LeO.bind ?_ (fun _ => ?_))
      | exact ih0 _ _
      | exact LeO.none _
      | refine LeO.ite ?_ ?_
      | refine LeO.bind ?_ (fun _ => ?_)
set_option maxHeartbeats 8000000 in
set_option maxRecDepth 100000 in
theorem asn1_base128IntLength.calls (k : Nat) (a0 : Int) (r : Int) (w : World) (h : asn1_base128IntLength.f k a0 = some r) :
    Calls Try.prog 57 #[.int .i64 a0] w fun e w' => e = .returned (.int .i64 r) ∧ Drawn0 w w' := by
  have H : (if a0 = 0 then (some 1) else (asn1_base128IntLength.l0 k 0 a0)) = some r := h
  clear h
  by_cases c2 : a0 = 0
  · rw [if_pos c2] at H
    have c2b0 : (a0 == 0) = true := beq_iff_eq.mpr c2
    have c2b1 : (a0 != 0) = false := bne_eq_false_iff_eq.mpr c2
    clear c2
    obtain rfl := Option.some.inj H
    go_enter Try.func57, Try.ntmps57
    go_wp2
    go_ret
    exact ⟨by first | rfl | (simp; done) | (simp [*]; done), by repeat (first | exact Drawn0.refl _ | apply Drawn0.step)⟩
  · rw [if_neg c2] at H
    have c2b0 : (a0 == 0) = false := beq_eq_false_iff_ne.mpr c2
    have c2b1 : (a0 != 0) = true := bne_iff_ne.mpr c2
    have H' := Aside0.mk H
    clear H
    go_enter Try.func57, Try.ntmps57
    go_wp2
    go_loopg [3, 4] k (fun kq v3 v4 w' => ∃ (x3_1 : Int) (x4_1 : Int), v3 = .int .i64 x3_1 ∧ v4 = .int .i64 x4_1 ∧ Aside0 (asn1_base128IntLength.l0 kq x3_1 x4_1 = some r) ∧ Aside0 (kq ≤ k) ∧ Drawn0 w w')
    case atStart => exact ⟨(0), (a0), (by first | rfl | (simp; done) | (simp [*]; done)), (by first | rfl | (simp; done) | (simp [*]; done)), H', ⟨Nat.le_refl _⟩, by repeat (first | exact Drawn0.refl _ | apply Drawn0.step)⟩
    case round =>
      clear H'
      try clear c2
      try clear c2b0
      try clear c2b1
      try clear p2
      obtain ⟨x3_1, x4_1, rfl, rfl, HA, HK1, ⟨m1, rfl⟩⟩ := hrel
      cases gk with
      | zero => exact absurd HA.out (by simp [asn1_base128IntLength.l0])
      | succ k1 =>
        have H := HA.out
        clear HA
        simp only [asn1_base128IntLength.l0] at H
        by_cases c3 : x4_1 > 0
        · rw [if_pos c3] at H
          have c3b0 : decide (0 < x4_1) = true := decide_eq_true c3
          clear c3
          have H' := Aside0.mk H
          clear H
          go_wp2
          go_roundg k1
          case measure => have := HK1.out; omega
          case rel => exact ⟨(wrap64 (x3_1 + 1)), (x4_1 / 128), (by first | rfl | (simp; done) | (simp [*]; done)), (by first | rfl | (simp; done) | (simp [*]; done)), H', ⟨by have := HK1.out; omega⟩, by repeat (first | exact Drawn0.refl _ | apply Drawn0.step)⟩
        · rw [if_neg c3] at H
          have c3b0 : decide (0 < x4_1) = false := decide_eq_false c3
          clear c3
          obtain rfl := Option.some.inj H
          go_wp2
          go_ret
          exact ⟨by first | rfl | (simp; done) | (simp [*]; done), by repeat (first | exact Drawn0.refl _ | apply Drawn0.step)⟩

/-! ### asn1_appendBase128Int: function 50 -/
def asn1_appendBase128Int.l0 : Nat → List Int → Int → Int → Option (List Int)
  | 0, _, _, _ => none
  | k + 1, x0, x1, x6 => if x6 ≥ 0 then (if 0 ≤ (IntKind.u64.wrap (wrap64 (x6 * 7))) then (if x6 = 0 then (if x0.length < 140737488355328 then (asn1_appendBase128Int.l0 k (x0 ++ [Go.bits .and .u8 ((shr .i64 x1 (IntKind.u64.wrap (wrap64 (x6 * 7)))) % 256) 127]) x1 (wrap64 (x6 - 1))) else (none)) else (if x0.length < 140737488355328 then (asn1_appendBase128Int.l0 k (x0 ++ [Go.bits .or .u8 (Go.bits .and .u8 ((shr .i64 x1 (IntKind.u64.wrap (wrap64 (x6 * 7)))) % 256) 127) 128]) x1 (wrap64 (x6 - 1))) else (none))) else (none)) else (some x0)
def asn1_appendBase128Int.f (k : Nat) (l0 : List Int) (a1 : Int) : Option (List Int) := (asn1_base128IntLength.f k a1).bind fun t178 => (asn1_appendBase128Int.l0 k l0 a1 (wrap64 (t178 - 1)))
theorem asn1_appendBase128Int.mono_l : ∀ k, (∀ y0 y1 y2, LeO (asn1_appendBase128Int.l0 k y0 y1 y2) (asn1_appendBase128Int.l0 (k + 1) y0 y1 y2))
  | 0 => fun _ _ _ r h => by simp [asn1_appendBase128Int.l0] at h
  | k + 1 => by
    have ih0 := asn1_appendBase128Int.mono_l k
    · intro y0 y1 y2
      unfold asn1_appendBase128Int.l0
      repeat' first
      | (with_reducible exact ih0 _ _ _)
      | (with_reducible exact asn1_base128IntLength.mono _ _)
      | (with_reducible exact LeO.refl _)
      | (with_reducible exact LeO.none _)
      | (with_reducible refine LeO.ite ?_ ?_)
      | (with_reducible refine LeO.bind ?_ (fun _ => ?_))
      | exact ih0 _ _ _
      | exact asn1_base128IntLength.mono _ _
      | exact LeO.none _
      | refine LeO.ite ?_ ?_
      | refine LeO.bind ?_ (fun _ => ?_)
theorem asn1_appendBase128Int.mono : ∀ a0 a1 k, LeO (asn1_appendBase128Int.f k a0 a1) (asn1_appendBase128Int.f (k + 1) a0 a1) := by
  intro a0 a1 k
  have ih0 := asn1_appendBase128Int.mono_l k
  unfold asn1_appendBase128Int.f
  repeat' first
      | (with_reducible exact ih0 _ _ _)
      | (with_reducible exact asn1_base128IntLength.mono _ _)
      | (with_reducible exact LeO.refl _)
      | (with_reducible exact LeO.none _)
      | (with_reducible refine LeO.ite ?_ ?_)
      | (with_reducible refine LeO.bind ?_ (fun _ => ?_))
      | exact ih0 _ _ _
      | exact asn1_base128IntLength.mono _ _
      | exact LeO.none _
      | refine LeO.ite ?_ ?_
      | refine LeO.bind ?_ (fun _ => ?_)
set_option maxHeartbeats 8000000 in
set_option maxRecDepth 100000 in
theorem asn1_appendBase128Int.calls (k : Nat) (P0_ : Nat → Prop) (u9000_ : Value) (l0 : List Int) (a1 : Int) (r : List Int) (w0 w : World) (hB : Below w0.heap.size w0 w) (ho0 : Kd.R (Kd.int .u8) 5 w w0.heap.size P0_ u9000_ l0) (h : asn1_appendBase128Int.f k l0 a1 = some r) :
    Calls Try.prog 50 #[u9000_, .int .i64 a1] w fun e w' => ∃ v0_ : Value, e = .returned (v0_) ∧ Kd.R (Kd.int .u8) 5 w' w0.heap.size (fun k_ => (P0_ k_ ∨ w.heap.size ≤ k_)) v0_ r ∧ Below w0.heap.size w0 w' ∧ Kept w w' (fun k_ => P0_ k_) := by
  have HO0 := Aside0.mk (show Kd.R (Kd.int .u8) 5 w w0.heap.size (fun k_ => (P0_ k_ ∨ w.heap.size ≤ k_)) u9000_ l0 from Kd.R_mono ho0 (fun k_ hk => (.inl hk)))
  have HK := Aside0.mk (Kept.refl w (fun k_ => P0_ k_))
  have HW0 := Aside0.mk hB.size
  have HB := Aside0.mk hB
  clear hB
  have H : ((asn1_base128IntLength.f k a1).bind fun t178 => (asn1_appendBase128Int.l0 k l0 a1 (wrap64 (t178 - 1)))) = some r := h
  clear h
  replace H := Option.bind_eq_some_iff.mp H
  obtain ⟨t178, A30, H⟩ := H
  replace H : (asn1_appendBase128Int.l0 k l0 a1 (wrap64 (t178 - 1))) = some r := H
  have A3 := Aside0.mk A30
  clear A30
  have H' := Aside0.mk H
  clear H
  go_enter Try.func50, Try.ntmps50
  go_wp2_with (first | ((with_reducible refine gate_callee (f := 57) rfl ?_); refine goesL_ (some 9) rfl rfl Try.func57 (by kernel_rfl) rfl #[.int .i64 a1] rfl (by (try simp only [List.map_toArray, List.map_cons, List.map_nil]); first | done | rfl | (simp only [List.length_drop, List.length_take]; rfl)) ?_; (with_reducible refine (asn1_base128IntLength.calls k a1 t178 _ A3.out).mono ?_); rintro e w' ⟨rfl, ⟨nd, rfl⟩⟩; refine ⟨_, rfl, ?_⟩))
  go_loopg [0, 6] k (fun kq v0 v6 w' => ∃ (x0_1 : List Int) (x6_1 : Int), v6 = .int .i64 x6_1 ∧ Aside0 (asn1_appendBase128Int.l0 kq x0_1 a1 x6_1 = some r) ∧ Aside0 (kq ≤ k) ∧ Aside0 (Kd.R (Kd.int .u8) 5 w' w0.heap.size (fun k_ => (P0_ k_ ∨ w.heap.size ≤ k_)) v0 x0_1) ∧ Aside0 (Kept w w' (fun k_ => P0_ k_)) ∧ Aside0 (Below w0.heap.size w0 w'))
  case atStart => exact ⟨(l0), (wrap64 (t178 - 1)), (by first | rfl | (simp; done) | (simp [*]; done)), H', ⟨Nat.le_refl _⟩, ⟨by (with_reducible repeat (first | apply Kd.R_alloc | apply Kd.R_drewN | apply Kd.R_drew)); exact HO0.out⟩, ⟨by repeat (first | (with_reducible first | exact HK.out | apply Kept.alloc | apply Kept.drewN | apply Kept.drew) | exact HK.out)⟩, ⟨by repeat (first | (with_reducible first | exact HB.out | apply below_alloc | apply pw_below_drewN | apply below_drew1) | exact HB.out)⟩⟩
  case round =>
    clear H'
    try clear p2
    obtain ⟨x0_1, x6_1, rfl, HA, HK1, HO_0, HK, HB⟩ := hrel
    cases gk with
    | zero => exact absurd HA.out (by simp [asn1_appendBase128Int.l0])
    | succ k1 =>
      have H := HA.out
      clear HA
      simp only [asn1_appendBase128Int.l0] at H
      by_cases c4 : x6_1 ≥ 0
      · rw [if_pos c4] at H
        have c4b0 : decide (0 ≤ x6_1) = true := decide_eq_true c4
        clear c4
        obtain ⟨ji5, hji5⟩ : ∃ j_ : Int, (IntKind.u64.wrap (wrap64 (x6_1 * 7))) = j_ := ⟨_, rfl⟩
        replace H : (if 0 ≤ (ji5) then (if x6_1 = 0 then (if x0_1.length < 140737488355328 then (asn1_appendBase128Int.l0 k1 (x0_1 ++ [Go.bits .and .u8 ((shr .i64 a1 (ji5)) % 256) 127]) a1 (wrap64 (x6_1 - 1))) else (none)) else (if x0_1.length < 140737488355328 then (asn1_appendBase128Int.l0 k1 (x0_1 ++ [Go.bits .or .u8 (Go.bits .and .u8 ((shr .i64 a1 (ji5)) % 256) 127) 128]) a1 (wrap64 (x6_1 - 1))) else (none))) else (none)) = some r := by first | (rw [hji5] at H; exact H) | (simp only [hji5] at H ⊢; exact H)
        by_cases c6 : 0 ≤ (ji5)
        · rw [if_pos c6] at H
          have c6b0 := eq_true c6
          have c6b1 : decide (0 ≤ (ji5)) = true := decide_eq_true c6
          clear c6
          obtain ⟨ji7, hji7⟩ : ∃ j_ : Int, (shr .i64 a1 (ji5)) = j_ := ⟨_, rfl⟩
          replace H : (if x6_1 = 0 then (if x0_1.length < 140737488355328 then (asn1_appendBase128Int.l0 k1 (x0_1 ++ [Go.bits .and .u8 ((ji7) % 256) 127]) a1 (wrap64 (x6_1 - 1))) else (none)) else (if x0_1.length < 140737488355328 then (asn1_appendBase128Int.l0 k1 (x0_1 ++ [Go.bits .or .u8 (Go.bits .and .u8 ((ji7) % 256) 127) 128]) a1 (wrap64 (x6_1 - 1))) else (none))) = some r := by first | (rw [hji7] at H; exact H) | (simp only [hji7] at H ⊢; exact H)
          have hji7_ : (a1 / 2 ^ min (ji5).toNat 64) = ji7 := hji7
          have hji7z : (ji5) ≤ 64 → (a1 / 2 ^ (ji5).toNat) = ji7 := shr_small hji7
          by_cases c8 : x6_1 = 0
          · rw [if_pos c8] at H
            have c8b0 : (x6_1 == 0) = true := beq_iff_eq.mpr c8
            have c8b1 : (x6_1 != 0) = false := bne_eq_false_iff_eq.mpr c8
            clear c8
            by_cases c9 : x0_1.length < 140737488355328
            · rw [if_pos c9] at H
              have LMc9 := Aside0.mk c9
              clear c9
              obtain ⟨y179, hy179⟩ : ∃ y_ : List Int, y_ = (x0_1 ++ [Go.bits .and .u8 ((ji7) % 256) 127]) := ⟨_, rfl⟩
              replace H : (asn1_appendBase128Int.l0 k1 y179 a1 (wrap64 (x6_1 - 1))) = some r := by first | (rw [hy179]; with_reducible exact H) | (have H2_ := (Option.bind_some _ _).symm.trans H; rw [hy179]; with_reducible exact H2_) | (have H2_ := (Option.bind_some _ _).symm.trans H; with_reducible exact H2_) | with_reducible exact H | (rw [hy179]; exact H) | exact H
              have Ny179 := Aside0.mk hy179
              clear hy179
              have H' := Aside0.mk H
              clear H
              go_wp2_with (first | ((with_reducible refine gate_builtin (b := .append) (xs := #[.tmp 28, .tmp 30]) rfl ?_); at_builtin; refine Kd.R_append (Kd.int .u8) (w0 := w0) w0.heap.size rfl (.tmp 28) (.tmp 30) 22 5 (.int .u8 0) 1 rfl Try.underlying22 info5 rfl (by decide) (by omega) u0 x0_1 (Go.bits .and .u8 ((ji7) % 256) 127) [.int .u8 (Go.bits .and .u8 ((ji7) % 256) 127)] (fun k_ => (P0_ k_ ∨ w.heap.size ≤ k_)) (fun _ => False) rfl rfl ?aP (fun _ hk => hk.elim) ?aF ?aO ?aB ?aS ?aL ?_; (case aP => exact rfl); (case aB => exact (by repeat (first | (with_reducible first | exact HB.out | apply below_alloc | apply pw_below_drewN | apply below_drew1) | exact HB.out))); (case aF => exact (fun k_ hk => (.inr (Nat.le_trans (by first | exact HK.out.1 | exact (show Kept w _ (fun k_ => P0_ k_) from by repeat (first | (with_reducible first | exact HK.out | apply Kept.alloc | apply Kept.drewN | apply Kept.drew) | exact HK.out)).1) hk)))); (case aO => exact (by (with_reducible repeat (first | apply Kd.R_alloc | apply Kd.R_drewN | apply Kd.R_drew)); exact HO_0.out)); (case aS => exact (below_size (by repeat (first | (with_reducible first | exact HB.out | apply below_alloc | apply pw_below_drewN | apply below_drew1) | exact HB.out)))); (case aL => have := LMc9.out; omega); intro v180 w10 ho hb hg hat; rw [← Ny179.out] at ho; have n0_ := Aside0.mk (hb); have n1_ := Aside0.mk (Kept.of_grown (S := (fun k_ => P0_ k_)) hg (by repeat (first | (with_reducible first | exact HK.out | apply Kept.alloc | apply Kept.drewN | apply Kept.drew) | exact HK.out)) (fun k_ e_ => (HO_0.out.1 k_ e_))); have n2_ := Aside0.mk (ho); clear HB; clear HK; clear HO_0; have HB := n0_; have HK := n1_; have HO181 := n2_; clear n0_ n1_ n2_; clear ho hb hg hat))
              go_roundg k1
              case measure => have := HK1.out; omega
              case rel => exact ⟨(y179), (wrap64 (x6_1 - 1)), (by first | rfl | (simp; done) | (simp [*]; done)), H', ⟨by have := HK1.out; omega⟩, ⟨by (with_reducible repeat (first | apply Kd.R_alloc | apply Kd.R_drewN | apply Kd.R_drew)); exact HO181.out⟩, ⟨by repeat (first | (with_reducible first | exact HK.out | apply Kept.alloc | apply Kept.drewN | apply Kept.drew) | exact HK.out)⟩, ⟨by repeat (first | (with_reducible first | exact HB.out | apply below_alloc | apply pw_below_drewN | apply below_drew1) | exact HB.out)⟩⟩
            · rw [if_neg c9] at H
              exact absurd H (by simp)
          · rw [if_neg c8] at H
            have c8b0 : (x6_1 == 0) = false := beq_eq_false_iff_ne.mpr c8
            have c8b1 : (x6_1 != 0) = true := bne_iff_ne.mpr c8
            by_cases c11 : x0_1.length < 140737488355328
            · rw [if_pos c11] at H
              have LMc11 := Aside0.mk c11
              clear c11
              obtain ⟨y182, hy182⟩ : ∃ y_ : List Int, y_ = (x0_1 ++ [Go.bits .or .u8 (Go.bits .and .u8 ((ji7) % 256) 127) 128]) := ⟨_, rfl⟩
              replace H : (asn1_appendBase128Int.l0 k1 y182 a1 (wrap64 (x6_1 - 1))) = some r := by first | (rw [hy182]; with_reducible exact H) | (have H2_ := (Option.bind_some _ _).symm.trans H; rw [hy182]; with_reducible exact H2_) | (have H2_ := (Option.bind_some _ _).symm.trans H; with_reducible exact H2_) | with_reducible exact H | (rw [hy182]; exact H) | exact H
              have Ny182 := Aside0.mk hy182
              clear hy182
              have H' := Aside0.mk H
              clear H
              go_wp2_with (first | ((with_reducible refine gate_builtin (b := .append) (xs := #[.tmp 28, .tmp 30]) rfl ?_); at_builtin; refine Kd.R_append (Kd.int .u8) (w0 := w0) w0.heap.size rfl (.tmp 28) (.tmp 30) 22 5 (.int .u8 0) 1 rfl Try.underlying22 info5 rfl (by decide) (by omega) u0 x0_1 (Go.bits .or .u8 (Go.bits .and .u8 ((ji7) % 256) 127) 128) [.int .u8 (Go.bits .or .u8 (Go.bits .and .u8 ((ji7) % 256) 127) 128)] (fun k_ => (P0_ k_ ∨ w.heap.size ≤ k_)) (fun _ => False) rfl rfl ?aP (fun _ hk => hk.elim) ?aF ?aO ?aB ?aS ?aL ?_; (case aP => exact rfl); (case aB => exact (by repeat (first | (with_reducible first | exact HB.out | apply below_alloc | apply pw_below_drewN | apply below_drew1) | exact HB.out))); (case aF => exact (fun k_ hk => (.inr (Nat.le_trans (by first | exact HK.out.1 | exact (show Kept w _ (fun k_ => P0_ k_) from by repeat (first | (with_reducible first | exact HK.out | apply Kept.alloc | apply Kept.drewN | apply Kept.drew) | exact HK.out)).1) hk)))); (case aO => exact (by (with_reducible repeat (first | apply Kd.R_alloc | apply Kd.R_drewN | apply Kd.R_drew)); exact HO_0.out)); (case aS => exact (below_size (by repeat (first | (with_reducible first | exact HB.out | apply below_alloc | apply pw_below_drewN | apply below_drew1) | exact HB.out)))); (case aL => have := LMc11.out; omega); intro v183 w12 ho hb hg hat; rw [← Ny182.out] at ho; have n0_ := Aside0.mk (hb); have n1_ := Aside0.mk (Kept.of_grown (S := (fun k_ => P0_ k_)) hg (by repeat (first | (with_reducible first | exact HK.out | apply Kept.alloc | apply Kept.drewN | apply Kept.drew) | exact HK.out)) (fun k_ e_ => (HO_0.out.1 k_ e_))); have n2_ := Aside0.mk (ho); clear HB; clear HK; clear HO_0; have HB := n0_; have HK := n1_; have HO184 := n2_; clear n0_ n1_ n2_; clear ho hb hg hat))
              go_roundg k1
              case measure => have := HK1.out; omega
              case rel => exact ⟨(y182), (wrap64 (x6_1 - 1)), (by first | rfl | (simp; done) | (simp [*]; done)), H', ⟨by have := HK1.out; omega⟩, ⟨by (with_reducible repeat (first | apply Kd.R_alloc | apply Kd.R_drewN | apply Kd.R_drew)); exact HO184.out⟩, ⟨by repeat (first | (with_reducible first | exact HK.out | apply Kept.alloc | apply Kept.drewN | apply Kept.drew) | exact HK.out)⟩, ⟨by repeat (first | (with_reducible first | exact HB.out | apply below_alloc | apply pw_below_drewN | apply below_drew1) | exact HB.out)⟩⟩
            · rw [if_neg c11] at H
              exact absurd H (by simp)
        · rw [if_neg c6] at H
          exact absurd H (by simp)
      · rw [if_neg c4] at H
        have c4b0 : decide (0 ≤ x6_1) = false := decide_eq_false c4
        clear c4
        obtain rfl := Option.some.inj H
        go_wp2
        go_ret
        exact ⟨_, by first | rfl | (simp [errW_none, errW_some] <;> rfl) | (simp [*, errW_none, errW_some] <;> rfl), by (with_reducible repeat (first | apply Kd.R_alloc | apply Kd.R_drewN | apply Kd.R_drew)); exact HO_0.out, by repeat (first | (with_reducible first | exact HB.out | apply below_alloc | apply pw_below_drewN | apply below_drew1) | exact HB.out), by repeat (first | (with_reducible first | exact HK.out | apply Kept.alloc | apply Kept.drewN | apply Kept.drew) | exact HK.out)⟩

/-! ### asn1_lengthLength: function 58 -/
def asn1_lengthLength.l0 : Nat → Int → Int → Option (Int)
  | 0, _, _ => none
  | k + 1, x0, x2 => if x0 > 255 then (asn1_lengthLength.l0 k (x0 / 256) (wrap64 (x2 + 1))) else (some x2)
def asn1_lengthLength.f (k : Nat) (a0 : Int) : Option (Int) := asn1_lengthLength.l0 k a0 1
theorem asn1_lengthLength.mono_l : ∀ k, (∀ y0 y1, LeO (asn1_lengthLength.l0 k y0 y1) (asn1_lengthLength.l0 (k + 1) y0 y1))
  | 0 => fun _ _ r h => by simp [asn1_lengthLength.l0] at h
  | k + 1 => by
    have ih0 := asn1_lengthLength.mono_l k
    · intro y0 y1
      unfold asn1_lengthLength.l0
      repeat' first
      | (with_reducible exact ih0 _ _)
      | (with_reducible exact LeO.refl _)
      | (with_reducible exact LeO.none _)
      | (with_reducible refine LeO.ite ?_ ?_)
      | (with_reducible refine LeO.bind ?_ (fun _ => ?_))
      | exact ih0 _ _
      | exact LeO.none _
      | refine LeO.ite ?_ ?_
      | refine LeO.bind ?_ (fun _ => ?_)
theorem asn1_lengthLength.mono : ∀ a0 k, LeO (asn1_lengthLength.f k a0) (asn1_lengthLength.f (k + 1) a0) := by
  intro a0 k
  have ih0 := asn1_lengthLength.mono_l k
  unfold asn1_lengthLength.f
  repeat' first
      | (with_reducible exact ih0 _ _)
      | (with_reducible exact LeO.refl _)
      | (with_reducible exact LeO.none _)
      | (with_reducible refine LeO.ite ?_ ?_)
      | (with_reducible refine LeO.bind ?_ (fun _ => ?_))
      | exact ih0 _ _
      | exact LeO.none _
      | refine LeO.ite ?_ ?_
      | refine LeO.bind ?_ (fun _ => ?_)
set_option maxHeartbeats 8000000 in
set_option maxRecDepth 100000 in
theorem asn1_lengthLength.calls (k : Nat) (a0 : Int) (r : Int) (w : World) (h : asn1_lengthLength.f k a0 = some r) :
    Calls Try.prog 58 #[.int .i64 a0] w fun e w' => e = .returned (.int .i64 r) ∧ Drawn0 w w' := by
  have H : (asn1_lengthLength.l0 k a0 1) = some r := h
  clear h
  have H' := Aside0.mk H
  clear H
  go_enter Try.func58, Try.ntmps58
  go_wp2
  go_loopg [0, 2] k (fun kq v0 v2 w' => ∃ (x0_1 : Int) (x2_1 : Int), v0 = .int .i64 x0_1 ∧ v2 = .int .i64 x2_1 ∧ Aside0 (asn1_lengthLength.l0 kq x0_1 x2_1 = some r) ∧ Aside0 (kq ≤ k) ∧ Drawn0 w w')
  case atStart => exact ⟨(a0), (1), (by first | rfl | (simp; done) | (simp [*]; done)), (by first | rfl | (simp; done) | (simp [*]; done)), H', ⟨Nat.le_refl _⟩, by repeat (first | exact Drawn0.refl _ | apply Drawn0.step)⟩
  case round =>
    clear H'
    obtain ⟨x0_1, x2_1, rfl, rfl, HA, HK1, ⟨m1, rfl⟩⟩ := hrel
    cases gk with
    | zero => exact absurd HA.out (by simp [asn1_lengthLength.l0])
    | succ k1 =>
      have H := HA.out
      clear HA
      simp only [asn1_lengthLength.l0] at H
      by_cases c2 : x0_1 > 255
      · rw [if_pos c2] at H
        have c2b0 : decide (255 < x0_1) = true := decide_eq_true c2
        clear c2
        have H' := Aside0.mk H
        clear H
        go_wp2
        go_roundg k1
        case measure => have := HK1.out; omega
        case rel => exact ⟨(x0_1 / 256), (wrap64 (x2_1 + 1)), (by first | rfl | (simp; done) | (simp [*]; done)), (by first | rfl | (simp; done) | (simp [*]; done)), H', ⟨by have := HK1.out; omega⟩, by repeat (first | exact Drawn0.refl _ | apply Drawn0.step)⟩
      · rw [if_neg c2] at H
        have c2b0 : decide (255 < x0_1) = false := decide_eq_false c2
        clear c2
        obtain rfl := Option.some.inj H
        go_wp2
        go_ret
        exact ⟨by first | rfl | (simp; done) | (simp [*]; done), by repeat (first | exact Drawn0.refl _ | apply Drawn0.step)⟩

/-! ### asn1_appendLength: function 59 -/
def asn1_appendLength.l0 : Nat → List Int → Int → Int → Option (List Int)
  | 0, _, _, _ => none
  | k + 1, x0, x1, x5 => if x5 > 0 then (if 0 ≤ (IntKind.u64.wrap (wrap64 ((wrap64 (x5 - 1)) * 8))) then (if x0.length < 140737488355328 then (asn1_appendLength.l0 k (x0 ++ [(shr .i64 x1 (IntKind.u64.wrap (wrap64 ((wrap64 (x5 - 1)) * 8)))) % 256]) x1 (wrap64 (x5 - 1))) else (none)) else (none)) else (some x0)
def asn1_appendLength.f (k : Nat) (l0 : List Int) (a1 : Int) : Option (List Int) := (asn1_lengthLength.f k a1).bind fun t185 => (asn1_appendLength.l0 k l0 a1 t185)
theorem asn1_appendLength.mono_l : ∀ k, (∀ y0 y1 y2, LeO (asn1_appendLength.l0 k y0 y1 y2) (asn1_appendLength.l0 (k + 1) y0 y1 y2))
  | 0 => fun _ _ _ r h => by simp [asn1_appendLength.l0] at h
  | k + 1 => by
    have ih0 := asn1_appendLength.mono_l k
    · intro y0 y1 y2
      unfold asn1_appendLength.l0
      repeat' first
      | (with_reducible exact ih0 _ _ _)
      | (with_reducible exact asn1_lengthLength.mono _ _)
      | (with_reducible exact LeO.refl _)
      | (with_reducible exact LeO.none _)
      | (with_reducible refine LeO.ite ?_ ?_)
      | (with_reducible refine LeO.bind ?_ (fun _ => ?_))
      | exact ih0 _ _ _
      | exact asn1_lengthLength.mono _ _
      | exact LeO.none _
      | refine LeO.ite ?_ ?_
      | refine LeO.bind ?_ (fun _ => ?_)
theorem asn1_appendLength.mono : ∀ a0 a1 k, LeO (asn1_appendLength.f k a0 a1) (asn1_appendLength.f (k + 1) a0 a1) := by
  intro a0 a1 k
  have ih0 := asn1_appendLength.mono_l k
  unfold asn1_appendLength.f
  repeat' first
      | (with_reducible exact ih0 _ _ _)
      | (with_reducible exact asn1_lengthLength.mono _ _)
      | (with_reducible exact LeO.refl _)
      | (with_reducible exact LeO.none _)
      | (with_reducible refine LeO.ite ?_ ?_)
      | (with_reducible refine LeO.bind ?_ (fun _ => ?_))
      | exact ih0 _ _ _
      | exact asn1_lengthLength.mono _ _
      | exact LeO.none _
      | refine LeO.ite ?_ ?_
      | refine LeO.bind ?_ (fun _ => ?_)
set_option maxHeartbeats 8000000 in
set_option maxRecDepth 100000 in
theorem asn1_appendLength.calls (k : Nat) (P0_ : Nat → Prop) (u9000_ : Value) (l0 : List Int) (a1 : Int) (r : List Int) (w0 w : World) (hB : Below w0.heap.size w0 w) (ho0 : Kd.R (Kd.int .u8) 5 w w0.heap.size P0_ u9000_ l0) (h : asn1_appendLength.f k l0 a1 = some r) :
    Calls Try.prog 59 #[u9000_, .int .i64 a1] w fun e w' => ∃ v0_ : Value, e = .returned (v0_) ∧ Kd.R (Kd.int .u8) 5 w' w0.heap.size (fun k_ => (P0_ k_ ∨ w.heap.size ≤ k_)) v0_ r ∧ Below w0.heap.size w0 w' ∧ Kept w w' (fun k_ => P0_ k_) := by
  have HO0 := Aside0.mk (show Kd.R (Kd.int .u8) 5 w w0.heap.size (fun k_ => (P0_ k_ ∨ w.heap.size ≤ k_)) u9000_ l0 from Kd.R_mono ho0 (fun k_ hk => (.inl hk)))
  have HK := Aside0.mk (Kept.refl w (fun k_ => P0_ k_))
  have HW0 := Aside0.mk hB.size
  have HB := Aside0.mk hB
  clear hB
  have H : ((asn1_lengthLength.f k a1).bind fun t185 => (asn1_appendLength.l0 k l0 a1 t185)) = some r := h
  clear h
  replace H := Option.bind_eq_some_iff.mp H
  obtain ⟨t185, A30, H⟩ := H
  replace H : (asn1_appendLength.l0 k l0 a1 t185) = some r := H
  have A3 := Aside0.mk A30
  clear A30
  have H' := Aside0.mk H
  clear H
  go_enter Try.func59, Try.ntmps59
  go_wp2_with (first | ((with_reducible refine gate_callee (f := 58) rfl ?_); refine goesL_ (some 7) rfl rfl Try.func58 (by kernel_rfl) rfl #[.int .i64 a1] rfl (by (try simp only [List.map_toArray, List.map_cons, List.map_nil]); first | done | rfl | (simp only [List.length_drop, List.length_take]; rfl)) ?_; (with_reducible refine (asn1_lengthLength.calls k a1 t185 _ A3.out).mono ?_); rintro e w' ⟨rfl, ⟨nd, rfl⟩⟩; refine ⟨_, rfl, ?_⟩))
  go_loopg [0, 5] k (fun kq v0 v5 w' => ∃ (x0_1 : List Int) (x5_1 : Int), v5 = .int .i64 x5_1 ∧ Aside0 (asn1_appendLength.l0 kq x0_1 a1 x5_1 = some r) ∧ Aside0 (kq ≤ k) ∧ Aside0 (Kd.R (Kd.int .u8) 5 w' w0.heap.size (fun k_ => (P0_ k_ ∨ w.heap.size ≤ k_)) v0 x0_1) ∧ Aside0 (Kept w w' (fun k_ => P0_ k_)) ∧ Aside0 (Below w0.heap.size w0 w'))
  case atStart => exact ⟨(l0), (t185), (by first | rfl | (simp; done) | (simp [*]; done)), H', ⟨Nat.le_refl _⟩, ⟨by (with_reducible repeat (first | apply Kd.R_alloc | apply Kd.R_drewN | apply Kd.R_drew)); exact HO0.out⟩, ⟨by repeat (first | (with_reducible first | exact HK.out | apply Kept.alloc | apply Kept.drewN | apply Kept.drew) | exact HK.out)⟩, ⟨by repeat (first | (with_reducible first | exact HB.out | apply below_alloc | apply pw_below_drewN | apply below_drew1) | exact HB.out)⟩⟩
  case round =>
    clear H'
    try clear p2
    obtain ⟨x0_1, x5_1, rfl, HA, HK1, HO_0, HK, HB⟩ := hrel
    cases gk with
    | zero => exact absurd HA.out (by simp [asn1_appendLength.l0])
    | succ k1 =>
      have H := HA.out
      clear HA
      simp only [asn1_appendLength.l0] at H
      by_cases c4 : x5_1 > 0
      · rw [if_pos c4] at H
        have c4b0 : decide (0 < x5_1) = true := decide_eq_true c4
        clear c4
        obtain ⟨ji5, hji5⟩ : ∃ j_ : Int, (IntKind.u64.wrap (wrap64 ((wrap64 (x5_1 - 1)) * 8))) = j_ := ⟨_, rfl⟩
        replace H : (if 0 ≤ (ji5) then (if x0_1.length < 140737488355328 then (asn1_appendLength.l0 k1 (x0_1 ++ [(shr .i64 a1 (ji5)) % 256]) a1 (wrap64 (x5_1 - 1))) else (none)) else (none)) = some r := by first | (rw [hji5] at H; exact H) | (simp only [hji5] at H ⊢; exact H)
        by_cases c6 : 0 ≤ (ji5)
        · rw [if_pos c6] at H
          have c6b0 := eq_true c6
          have c6b1 : decide (0 ≤ (ji5)) = true := decide_eq_true c6
          clear c6
          obtain ⟨ji7, hji7⟩ : ∃ j_ : Int, (shr .i64 a1 (ji5)) = j_ := ⟨_, rfl⟩
          replace H : (if x0_1.length < 140737488355328 then (asn1_appendLength.l0 k1 (x0_1 ++ [(ji7) % 256]) a1 (wrap64 (x5_1 - 1))) else (none)) = some r := by first | (rw [hji7] at H; exact H) | (simp only [hji7] at H ⊢; exact H)
          have hji7_ : (a1 / 2 ^ min (ji5).toNat 64) = ji7 := hji7
          have hji7z : (ji5) ≤ 64 → (a1 / 2 ^ (ji5).toNat) = ji7 := shr_small hji7
          by_cases c8 : x0_1.length < 140737488355328
          · rw [if_pos c8] at H
            have LMc8 := Aside0.mk c8
            clear c8
            obtain ⟨y186, hy186⟩ : ∃ y_ : List Int, y_ = (x0_1 ++ [(ji7) % 256]) := ⟨_, rfl⟩
            replace H : (asn1_appendLength.l0 k1 y186 a1 (wrap64 (x5_1 - 1))) = some r := by first | (rw [hy186]; with_reducible exact H) | (have H2_ := (Option.bind_some _ _).symm.trans H; rw [hy186]; with_reducible exact H2_) | (have H2_ := (Option.bind_some _ _).symm.trans H; with_reducible exact H2_) | with_reducible exact H | (rw [hy186]; exact H) | exact H
            have Ny186 := Aside0.mk hy186
            clear hy186
            have H' := Aside0.mk H
            clear H
            go_wp2_with (first | ((with_reducible refine gate_builtin (b := .append) (xs := #[.tmp 12, .tmp 20]) rfl ?_); at_builtin; refine Kd.R_append (Kd.int .u8) (w0 := w0) w0.heap.size rfl (.tmp 12) (.tmp 20) 22 5 (.int .u8 0) 1 rfl Try.underlying22 info5 rfl (by decide) (by omega) u0 x0_1 ((ji7) % 256) [.int .u8 ((ji7) % 256)] (fun k_ => (P0_ k_ ∨ w.heap.size ≤ k_)) (fun _ => False) rfl rfl ?aP (fun _ hk => hk.elim) ?aF ?aO ?aB ?aS ?aL ?_; (case aP => exact rfl); (case aB => exact (by repeat (first | (with_reducible first | exact HB.out | apply below_alloc | apply pw_below_drewN | apply below_drew1) | exact HB.out))); (case aF => exact (fun k_ hk => (.inr (Nat.le_trans (by first | exact HK.out.1 | exact (show Kept w _ (fun k_ => P0_ k_) from by repeat (first | (with_reducible first | exact HK.out | apply Kept.alloc | apply Kept.drewN | apply Kept.drew) | exact HK.out)).1) hk)))); (case aO => exact (by (with_reducible repeat (first | apply Kd.R_alloc | apply Kd.R_drewN | apply Kd.R_drew)); exact HO_0.out)); (case aS => exact (below_size (by repeat (first | (with_reducible first | exact HB.out | apply below_alloc | apply pw_below_drewN | apply below_drew1) | exact HB.out)))); (case aL => have := LMc8.out; omega); intro v187 w9 ho hb hg hat; rw [← Ny186.out] at ho; have n0_ := Aside0.mk (hb); have n1_ := Aside0.mk (Kept.of_grown (S := (fun k_ => P0_ k_)) hg (by repeat (first | (with_reducible first | exact HK.out | apply Kept.alloc | apply Kept.drewN | apply Kept.drew) | exact HK.out)) (fun k_ e_ => (HO_0.out.1 k_ e_))); have n2_ := Aside0.mk (ho); clear HB; clear HK; clear HO_0; have HB := n0_; have HK := n1_; have HO188 := n2_; clear n0_ n1_ n2_; clear ho hb hg hat))
            go_roundg k1
            case measure => have := HK1.out; omega
            case rel => exact ⟨(y186), (wrap64 (x5_1 - 1)), (by first | rfl | (simp; done) | (simp [*]; done)), H', ⟨by have := HK1.out; omega⟩, ⟨by (with_reducible repeat (first | apply Kd.R_alloc | apply Kd.R_drewN | apply Kd.R_drew)); exact HO188.out⟩, ⟨by repeat (first | (with_reducible first | exact HK.out | apply Kept.alloc | apply Kept.drewN | apply Kept.drew) | exact HK.out)⟩, ⟨by repeat (first | (with_reducible first | exact HB.out | apply below_alloc | apply pw_below_drewN | apply below_drew1) | exact HB.out)⟩⟩
          · rw [if_neg c8] at H
            exact absurd H (by simp)
        · rw [if_neg c6] at H
          exact absurd H (by simp)
      · rw [if_neg c4] at H
        have c4b0 : decide (0 < x5_1) = false := decide_eq_false c4
        clear c4
        obtain rfl := Option.some.inj H
        go_wp2
        go_ret
        exact ⟨_, by first | rfl | (simp [errW_none, errW_some] <;> rfl) | (simp [*, errW_none, errW_some] <;> rfl), by (with_reducible repeat (first | apply Kd.R_alloc | apply Kd.R_drewN | apply Kd.R_drew)); exact HO_0.out, by repeat (first | (with_reducible first | exact HB.out | apply below_alloc | apply pw_below_drewN | apply below_drew1) | exact HB.out), by repeat (first | (with_reducible first | exact HK.out | apply Kept.alloc | apply Kept.drewN | apply Kept.drew) | exact HK.out)⟩

/-! ### asn1_appendTagAndLength: function 54 -/
mutual
def asn1_appendTagAndLength.j0 : Nat → List Int → Int → Int → Int → Int → Bool → Option (List Int)
  | 0, _, _, _, _, _, _ => none
  | k + 1, x0, x5, x190000, x190001, x190002, x190003 => if x190001 ≥ 31 then (if x0.length < 140737488355328 then ((asn1_appendBase128Int.f k (x0 ++ [Go.bits .or .u8 x5 31]) x190001).bind fun t193 => (asn1_appendTagAndLength.j1 k t193 x190000 x190001 x190002 x190003)) else (none)) else (if x0.length < 140737488355328 then (asn1_appendTagAndLength.j1 k (x0 ++ [Go.bits .or .u8 x5 ((x190001) % 256)]) x190000 x190001 x190002 x190003) else (none))
def asn1_appendTagAndLength.j1 : Nat → List Int → Int → Int → Int → Bool → Option (List Int)
  | 0, _, _, _, _, _ => none
  | k + 1, x0, x190000, x190001, x190002, x190003 => if x190002 ≥ 128 then ((asn1_lengthLength.f k x190002).bind fun t199 => (if x0.length < 140737488355328 then ((asn1_appendLength.f k (x0 ++ [Go.bits .or .u8 128 ((t199) % 256)]) x190002).bind fun t203 => (some t203)) else (none))) else (if x0.length < 140737488355328 then (some (x0 ++ [(x190002) % 256])) else (none))
end
def asn1_appendTagAndLength.f (k : Nat) (l0 : List Int) (a1_0 : Int) (a1_1 : Int) (a1_2 : Int) (a1_3 : Bool) : Option (List Int) := if a1_3 = true then (asn1_appendTagAndLength.j0 k l0 (Go.bits .or .u8 ((((a1_0) % 256) * 64) % 256) 32) a1_0 a1_1 a1_2 a1_3) else (asn1_appendTagAndLength.j0 k l0 ((((a1_0) % 256) * 64) % 256) a1_0 a1_1 a1_2 a1_3)
theorem asn1_appendTagAndLength.mono_l : ∀ k, (∀ y0 y1 y2 y3 y4 y5, LeO (asn1_appendTagAndLength.j0 k y0 y1 y2 y3 y4 y5) (asn1_appendTagAndLength.j0 (k + 1) y0 y1 y2 y3 y4 y5)) ∧ (∀ y0 y1 y2 y3 y4, LeO (asn1_appendTagAndLength.j1 k y0 y1 y2 y3 y4) (asn1_appendTagAndLength.j1 (k + 1) y0 y1 y2 y3 y4))
  | 0 => ⟨fun _ _ _ _ _ _ r h => by simp [asn1_appendTagAndLength.j0] at h, fun _ _ _ _ _ r h => by simp [asn1_appendTagAndLength.j1] at h⟩
  | k + 1 => by
    obtain ⟨ih0, ih1⟩ := asn1_appendTagAndLength.mono_l k
    refine ⟨?_, ?_⟩
    · intro y0 y1 y2 y3 y4 y5
      unfold asn1_appendTagAndLength.j0
      repeat' first
      | (with_reducible exact ih0 _ _ _ _ _ _)
      | (with_reducible exact ih1 _ _ _ _ _)
      | (with_reducible exact asn1_appendBase128Int.mono _ _ _)
      | (with_reducible exact asn1_appendLength.mono _ _ _)
      | (with_reducible exact asn1_lengthLength.mono _ _)
      | (with_reducible exact LeO.refl _)
      | (with_reducible exact LeO.none _)
      | (with_reducible refine LeO.ite ?_ ?_)
      | (with_reducible refine LeO.bind ?_ (fun _ => ?_))
      | exact ih0 _ _ _ _ _ _
      | exact ih1 _ _ _ _ _
      | exact asn1_appendBase128Int.mono _ _ _
      | exact asn1_appendLength.mono _ _ _
      | exact asn1_lengthLength.mono _ _
      | exact LeO.none _
      | refine LeO.ite ?_ ?_
      | refine LeO.bind ?_ (fun _ => ?_)
    · intro y0 y1 y2 y3 y4
      unfold asn1_appendTagAndLength.j1
      repeat' first
      | (with_reducible exact ih0 _ _ _ _ _ _)
      | (with_reducible exact ih1 _ _ _ _ _)
      | (with_reducible exact asn1_appendBase128Int.mono _ _ _)
      | (with_reducible exact asn1_appendLength.mono _ _ _)
      | (with_reducible exact asn1_lengthLength.mono _ _)
      | (with_reducible exact LeO.refl _)
      | (with_reducible exact LeO.none _)
      | (with_reducible refine LeO.ite ?_ ?_)
      | (with_reducible refine LeO.bind ?_ (fun _ => ?_))
      | exact ih0 _ _ _ _ _ _
      | exact ih1 _ _ _ _ _
      | exact asn1_appendBase128Int.mono _ _ _
      | exact asn1_appendLength.mono _ _ _
      | exact asn1_lengthLength.mono _ _
      | exact LeO.none _
      | refine LeO.ite ?_ ?_
      | refine LeO.bind ?_ (fun _ => ?_)
theorem asn1_appendTagAndLength.mono : ∀ a0 a1 a2 a3 a4 k, LeO (asn1_appendTagAndLength.f k a0 a1 a2 a3 a4) (asn1_appendTagAndLength.f (k + 1) a0 a1 a2 a3 a4) := by
  intro a0 a1 a2 a3 a4 k
  obtain ⟨ih0, ih1⟩ := asn1_appendTagAndLength.mono_l k
  unfold asn1_appendTagAndLength.f
  repeat' first
      | (with_reducible exact ih0 _ _ _ _ _ _)
      | (with_reducible exact ih1 _ _ _ _ _)
      | (with_reducible exact asn1_appendBase128Int.mono _ _ _)
      | (with_reducible exact asn1_appendLength.mono _ _ _)
      | (with_reducible exact asn1_lengthLength.mono _ _)
      | (with_reducible exact LeO.refl _)
      | (with_reducible exact LeO.none _)
      | (with_reducible refine LeO.ite ?_ ?_)
      | (with_reducible refine LeO.bind ?_ (fun _ => ?_))
      | exact ih0 _ _ _ _ _ _
      | exact ih1 _ _ _ _ _
      | exact asn1_appendBase128Int.mono _ _ _
      | exact asn1_appendLength.mono _ _ _
      | exact asn1_lengthLength.mono _ _
      | exact LeO.none _
      | refine LeO.ite ?_ ?_
      | refine LeO.bind ?_ (fun _ => ?_)
set_option maxHeartbeats 8000000 in
set_option maxRecDepth 100000 in
theorem asn1_appendTagAndLength.calls (k : Nat) (P0_ : Nat → Prop) (u9000_ : Value) (l0 : List Int) (a1_0 : Int) (a1_1 : Int) (a1_2 : Int) (a1_3 : Bool) (r : List Int) (w0 w : World) (hB : Below w0.heap.size w0 w) (ho0 : Kd.R (Kd.int .u8) 5 w w0.heap.size P0_ u9000_ l0) (h : asn1_appendTagAndLength.f k l0 a1_0 a1_1 a1_2 a1_3 = some r) :
    Calls Try.prog 54 #[u9000_, .agg #[.int .i64 a1_0, .int .i64 a1_1, .int .i64 a1_2, .bool a1_3]] w fun e w' => ∃ v0_ : Value, e = .returned (v0_) ∧ Kd.R (Kd.int .u8) 5 w' w0.heap.size (fun k_ => (P0_ k_ ∨ w.heap.size ≤ k_)) v0_ r ∧ Below w0.heap.size w0 w' ∧ Kept w w' (fun k_ => P0_ k_) := by
  have hu82 := Try.underlying82
  have HO0 := Aside0.mk (show Kd.R (Kd.int .u8) 5 w w0.heap.size (fun k_ => (P0_ k_ ∨ w.heap.size ≤ k_)) u9000_ l0 from Kd.R_mono ho0 (fun k_ hk => (.inl hk)))
  have HK := Aside0.mk (Kept.refl w (fun k_ => P0_ k_))
  have HW0 := Aside0.mk hB.size
  have HB := Aside0.mk hB
  clear hB
  have H : (if a1_3 = true then (asn1_appendTagAndLength.j0 k l0 (Go.bits .or .u8 ((((a1_0) % 256) * 64) % 256) 32) a1_0 a1_1 a1_2 a1_3) else (asn1_appendTagAndLength.j0 k l0 ((((a1_0) % 256) * 64) % 256) a1_0 a1_1 a1_2 a1_3)) = some r := h
  clear h
  have HC3 := Aside0.mk H
  clear H
  go_enter Try.func54, Try.ntmps54
  go_upto_if 12 with (first | ((with_reducible refine gate_dst (N := 3) rfl ?_); refine box_event ?hg (N := 3) ?hd (cs := #[.int .i64 a1_0, .int .i64 a1_1, .int .i64 a1_2, .bool a1_3]) (t := 82) ?hr ?_; (case hd => rfl); (case hg => rfl); (case hr => first | (go_simp; done) | (go_simp; rfl)); intro gb189 hg w4 hbox hb; have n0_ := Aside0.mk (Kd.R_below (by (with_reducible repeat (first | apply Kd.R_alloc | apply Kd.R_drewN | apply Kd.R_drew)); exact HO0.out) hb); have n1_ := Aside0.mk (Kept.below (S := (fun k_ => P0_ k_)) (by repeat (first | (with_reducible first | exact HK.out | apply Kept.alloc | apply Kept.drewN | apply Kept.drew) | exact HK.out)) hb); have n2_ := Aside0.mk (below_step (by repeat (first | (with_reducible first | exact HB.out | apply below_alloc | apply pw_below_drewN | apply below_drew1) | exact HB.out)) hb); have n3_ := Aside0.mk (hbox); have n4_ := Aside0.mk ((by rw [hg]; exact (by first | exact HK.out.1 | exact (show Kept w _ (fun k_ => P0_ k_) from by repeat (first | (with_reducible first | exact HK.out | apply Kept.alloc | apply Kept.drewN | apply Kept.drew) | exact HK.out)).1) : w.heap.size ≤ gb189)); have n5_ := Aside0.mk ((by rw [hg]; exact (below_size (by repeat (first | (with_reducible first | exact HB.out | apply below_alloc | apply pw_below_drewN | apply below_drew1) | exact HB.out))) : w0.heap.size ≤ gb189)); clear HO0; clear HK; clear HB; have HO0 := n0_; have HK := n1_; have HB := n2_; have BK189 := n3_; have GW189 := n4_; have GE189 := n5_; clear n0_ n1_ n2_ n3_ n4_ n5_; clear hb hbox hg; have hcz5_0 : w4.cell? ⟨gb189, 0, none⟩ = some (.int .i64 a1_0) := (blk_cell BK189.out 0).trans rfl; have hcz5_1 : w4.cell? ⟨gb189, 1, none⟩ = some (.int .i64 a1_1) := (blk_cell BK189.out 1).trans rfl; have hcz5_2 : w4.cell? ⟨gb189, 2, none⟩ = some (.int .i64 a1_2) := (blk_cell BK189.out 2).trans rfl; have hcz5_3 : w4.cell? ⟨gb189, 3, none⟩ = some (.bool a1_3) := (blk_cell BK189.out 3).trans rfl; have hfz5_0 := blk_frozen BK189.out 0; have hfz5_1 := blk_frozen BK189.out 1; have hfz5_2 := blk_frozen BK189.out 2; have hfz5_3 := blk_frozen BK189.out 3))
  (try simp only [Act.put, List.setIfInBounds_toArray, List.set_cons_zero, List.set_cons_succ])
  go_cut [5] (fun v5 wc => ∃ (kq : Nat) (x5_2 : Int), v5 = .int .u8 x5_2 ∧ Aside0 (asn1_appendTagAndLength.j0 kq l0 x5_2 a1_0 a1_1 a1_2 a1_3 = some r) ∧ Aside0 (kq ≤ k) ∧ Aside0 (Kd.R (Kd.int .u8) 5 wc w0.heap.size (fun k_ => (P0_ k_ ∨ w.heap.size ≤ k_)) u9000_ l0) ∧ Aside0 (wc.heap[gb189]? = some (.cells #[.int .i64 a1_0, .int .i64 a1_1, .int .i64 a1_2, .bool a1_3] 82 (0, 0))) ∧ Aside0 (Kept w wc (fun k_ => P0_ k_)) ∧ Aside0 (Below w0.heap.size w0 wc))
  case first =>
    have H := HC3.out
    clear HC3
    by_cases c6 : a1_3 = true
    · subst c6
      have H1 : (asn1_appendTagAndLength.j0 k l0 (Go.bits .or .u8 ((((a1_0) % 256) * 64) % 256) 32) a1_0 a1_1 a1_2 true) = some r := by rw [if_pos rfl] at H; exact H
      clear H
      have H := H1
      clear H1
      have H' := Aside0.mk H
      clear H
      go_wp2
      go_meet
      case rel => exact ⟨_, (Go.bits .or .u8 ((((a1_0) % 256) * 64) % 256) 32), (by first | rfl | (simp; done) | (simp [*]; done)), H', ⟨by first | omega | exact Nat.le_refl _⟩, ⟨by (with_reducible repeat (first | apply Kd.R_alloc | apply Kd.R_drewN | apply Kd.R_drew)); exact HO0.out⟩, ⟨by (with_reducible repeat (first | refine blk_drewN ?_ _ | refine blk_drew ?_ | refine blk_alloc ?_ _)); exact BK189.out⟩, ⟨by repeat (first | (with_reducible first | exact HK.out | apply Kept.alloc | apply Kept.drewN | apply Kept.drew | refine Kept.setCell ?_ (.inr GW189.out) _) | exact HK.out)⟩, ⟨by repeat (first | (with_reducible first | exact HB.out | apply below_alloc | apply pw_below_drewN | apply below_drew1 | refine below_set ?_ GE189.out) | exact HB.out)⟩⟩
    · replace c6 := Bool.eq_false_iff.mpr c6
      subst c6
      have H1 : (asn1_appendTagAndLength.j0 k l0 ((((a1_0) % 256) * 64) % 256) a1_0 a1_1 a1_2 false) = some r := by rw [if_neg (show ¬ (false = true) by decide)] at H; exact H
      clear H
      have H := H1
      clear H1
      have H' := Aside0.mk H
      clear H
      go_wp2
      go_meet
      case rel => exact ⟨_, ((((a1_0) % 256) * 64) % 256), (by first | rfl | (simp; done) | (simp [*]; done)), H', ⟨by first | omega | exact Nat.le_refl _⟩, ⟨by (with_reducible repeat (first | apply Kd.R_alloc | apply Kd.R_drewN | apply Kd.R_drew)); exact HO0.out⟩, ⟨by (with_reducible repeat (first | refine blk_drewN ?_ _ | refine blk_drew ?_ | refine blk_alloc ?_ _)); exact BK189.out⟩, ⟨by repeat (first | (with_reducible first | exact HK.out | apply Kept.alloc | apply Kept.drewN | apply Kept.drew | refine Kept.setCell ?_ (.inr GW189.out) _) | exact HK.out)⟩, ⟨by repeat (first | (with_reducible first | exact HB.out | apply below_alloc | apply pw_below_drewN | apply below_drew1 | refine below_set ?_ GE189.out) | exact HB.out)⟩⟩
  case rest =>
    clear HC3
    try clear p2
    try clear c5
    try clear c6
    try clear hcz5_0
    try clear hcz5_1
    try clear hcz5_2
    try clear hcz5_3
    try clear hfz5_0
    try clear hfz5_1
    try clear hfz5_2
    try clear hfz5_3
    obtain ⟨kq, x5_2, rfl, HA, HJ2, HO_0, BK189, HK, HB⟩ := hcut
    cases kq with
    | zero => exact absurd HA.out (by simp [asn1_appendTagAndLength.j0])
    | succ kj2 =>
      have H := HA.out
      clear HA
      simp only [asn1_appendTagAndLength.j0] at H
      have HC7 := Aside0.mk H
      clear H
      have hcz8_0 : wc.cell? ⟨gb189, 0, none⟩ = some (.int .i64 a1_0) := (blk_cell BK189.out 0).trans rfl
      have hcz8_1 : wc.cell? ⟨gb189, 1, none⟩ = some (.int .i64 a1_1) := (blk_cell BK189.out 1).trans rfl
      have hcz8_2 : wc.cell? ⟨gb189, 2, none⟩ = some (.int .i64 a1_2) := (blk_cell BK189.out 2).trans rfl
      have hcz8_3 : wc.cell? ⟨gb189, 3, none⟩ = some (.bool a1_3) := (blk_cell BK189.out 3).trans rfl
      have hfz8_0 := blk_frozen BK189.out 0
      have hfz8_1 := blk_frozen BK189.out 1
      have hfz8_2 := blk_frozen BK189.out 2
      have hfz8_3 := blk_frozen BK189.out 3
      go_upto_if 17 with (fail)
      go_cut [0] (fun v0 wc => ∃ (kq : Nat) (x0_6 : List Int), Aside0 (asn1_appendTagAndLength.j1 kq x0_6 a1_0 a1_1 a1_2 a1_3 = some r) ∧ Aside0 (kq ≤ kj2) ∧ Aside0 (Kd.R (Kd.int .u8) 5 wc w0.heap.size (fun k_ => (P0_ k_ ∨ w.heap.size ≤ k_)) v0 x0_6) ∧ Aside0 (wc.heap[gb189]? = some (.cells #[.int .i64 a1_0, .int .i64 a1_1, .int .i64 a1_2, .bool a1_3] 82 (0, 0))) ∧ Aside0 (Kept w wc (fun k_ => P0_ k_)) ∧ Aside0 (Below w0.heap.size w0 wc))
      case first =>
        have H := HC7.out
        clear HC7
        by_cases c9 : a1_1 ≥ 31
        · rw [if_pos c9] at H
          have c9b0 : decide (31 ≤ a1_1) = true := decide_eq_true c9
          clear c9
          (first | rw [c9b0] | (simp only [i64_w, i32_w]; rw [c9b0]) | skip)
          by_cases c10 : l0.length < 140737488355328
          · rw [if_pos c10] at H
            have LMc10 := Aside0.mk c10
            clear c10
            obtain ⟨y190, hy190⟩ : ∃ y_ : List Int, y_ = (l0 ++ [Go.bits .or .u8 x5_2 31]) := ⟨_, rfl⟩
            replace H : ((asn1_appendBase128Int.f kj2 y190 a1_1).bind fun t193 => (asn1_appendTagAndLength.j1 kj2 t193 a1_0 a1_1 a1_2 a1_3)) = some r := by first | (rw [hy190]; with_reducible exact H) | (have H2_ := (Option.bind_some _ _).symm.trans H; rw [hy190]; with_reducible exact H2_) | (have H2_ := (Option.bind_some _ _).symm.trans H; with_reducible exact H2_) | with_reducible exact H | (rw [hy190]; exact H) | exact H
            have Ny190 := Aside0.mk hy190
            clear hy190
            replace H := Option.bind_eq_some_iff.mp H
            obtain ⟨t193, A110, H⟩ := H
            replace H : (asn1_appendTagAndLength.j1 kj2 t193 a1_0 a1_1 a1_2 a1_3) = some r := H
            have A11 := Aside0.mk A110
            clear A110
            have H' := Aside0.mk H
            clear H
            go_wp2_with (first | ((with_reducible refine gate_builtin (b := .append) (xs := #[.tmp 20, .tmp 22]) rfl ?_); at_builtin; refine Kd.R_append (Kd.int .u8) (w0 := w0) w0.heap.size rfl (.tmp 20) (.tmp 22) 22 5 (.int .u8 0) 1 rfl Try.underlying22 info5 rfl (by decide) (by omega) u9000_ l0 (Go.bits .or .u8 x5_2 31) [.int .u8 (Go.bits .or .u8 x5_2 31)] (fun k_ => (P0_ k_ ∨ w.heap.size ≤ k_)) (fun _ => False) rfl rfl ?aP (fun _ hk => hk.elim) ?aF ?aO ?aB ?aS ?aL ?_; (case aP => exact rfl); (case aB => exact (by repeat (first | (with_reducible first | exact HB.out | apply below_alloc | apply pw_below_drewN | apply below_drew1 | refine below_set ?_ GE189.out) | exact HB.out))); (case aF => exact (fun k_ hk => (.inr (Nat.le_trans (by first | exact HK.out.1 | exact (show Kept w _ (fun k_ => P0_ k_) from by repeat (first | (with_reducible first | exact HK.out | apply Kept.alloc | apply Kept.drewN | apply Kept.drew | refine Kept.setCell ?_ (.inr GW189.out) _) | exact HK.out)).1) hk)))); (case aO => exact (by (with_reducible repeat (first | apply Kd.R_alloc | apply Kd.R_drewN | apply Kd.R_drew)); exact HO_0.out)); (case aS => exact (below_size (by repeat (first | (with_reducible first | exact HB.out | apply below_alloc | apply pw_below_drewN | apply below_drew1 | refine below_set ?_ GE189.out) | exact HB.out)))); (case aL => have := LMc10.out; omega); intro v191 w12 ho hb hg hat; rw [← Ny190.out] at ho; have n0_ := Aside0.mk (blk_grown (g := gb189) (o := .cells #[.int .i64 a1_0, .int .i64 a1_1, .int .i64 a1_2, .bool a1_3] 82 (0, 0)) (by (with_reducible repeat (first | refine blk_drewN ?_ _ | refine blk_drew ?_ | refine blk_alloc ?_ _)); exact BK189.out) hg (Kd.R_ne HO_0.out BK189.out (by decide))); have n1_ := Aside0.mk (hb); have n2_ := Aside0.mk (Kept.of_grown (S := (fun k_ => P0_ k_)) hg (by repeat (first | (with_reducible first | exact HK.out | apply Kept.alloc | apply Kept.drewN | apply Kept.drew | refine Kept.setCell ?_ (.inr GW189.out) _) | exact HK.out)) (fun k_ e_ => (HO_0.out.1 k_ e_))); have n3_ := Aside0.mk (ho); clear BK189; clear HB; clear HK; clear HO_0; have BK189 := n0_; have HB := n1_; have HK := n2_; have HO192 := n3_; clear n0_ n1_ n2_ n3_; clear ho hb hg hat; have hcz13_0 : w12.cell? ⟨gb189, 0, none⟩ = some (.int .i64 a1_0) := (blk_cell BK189.out 0).trans rfl; have hcz13_1 : w12.cell? ⟨gb189, 1, none⟩ = some (.int .i64 a1_1) := (blk_cell BK189.out 1).trans rfl; have hcz13_2 : w12.cell? ⟨gb189, 2, none⟩ = some (.int .i64 a1_2) := (blk_cell BK189.out 2).trans rfl; have hcz13_3 : w12.cell? ⟨gb189, 3, none⟩ = some (.bool a1_3) := (blk_cell BK189.out 3).trans rfl; have hfz13_0 := blk_frozen BK189.out 0; have hfz13_1 := blk_frozen BK189.out 1; have hfz13_2 := blk_frozen BK189.out 2; have hfz13_3 := blk_frozen BK189.out 3; obtain ⟨Ao14, co14, eo14⟩ := Kd.R_slice HO192.out; subst eo14) | ((with_reducible refine gate_callee (f := 50) rfl ?_); refine goesL_ (some 27) rfl rfl Try.func50 (by kernel_rfl) rfl #[.slice Ao14 y190.length co14, .int .i64 a1_1] rfl (by (try simp only [List.map_toArray, List.map_cons, List.map_nil]); first | done | rfl | (simp only [List.length_drop, List.length_take]; rfl)) ?_; (with_reducible refine (asn1_appendBase128Int.calls kj2 (fun k_ => some k_ = (.slice Ao14 y190.length co14 : Value).ownBlock) (.slice Ao14 y190.length co14) y190 a1_1 t193 w0 _ ?side1 ?side2 A11.out).mono ?_); (case side1 => repeat (first | (with_reducible first | exact HB.out | apply below_alloc | apply pw_below_drewN | apply below_drew1 | refine below_set ?_ GE189.out) | exact HB.out)); (case side2 => exact Kd.R_tight rfl HO192.out); rintro e w15 ⟨v194, rfl, ho0, hb, hkp⟩; refine ⟨_, rfl, ?_⟩; have n0_ := Aside0.mk (blk_kept (by (with_reducible repeat (first | refine blk_drewN ?_ _ | refine blk_drew ?_ | refine blk_alloc ?_ _)); exact BK189.out) hkp (fun hs_ => (fun e_ => (Kd.R_ne HO192.out BK189.out (by decide)) e_) hs_)); have n1_ := Aside0.mk (Kd.R_mono (ok' := fun k_ => (P0_ k_ ∨ w.heap.size ≤ k_)) ho0 (fun k_ hk_ => Or.elim hk_ (fun hs_ => (HO192.out.1 k_ (hs_).symm)) (fun hn_ => (.inr (Nat.le_trans (by first | exact HK.out.1 | exact (show Kept w _ (fun k_ => P0_ k_) from by repeat (first | (with_reducible first | exact HK.out | apply Kept.alloc | apply Kept.drewN | apply Kept.drew | refine Kept.setCell ?_ (.inr GW189.out) _) | exact HK.out)).1) hn_))))); have n2_ := Aside0.mk (Kept.then_ (S := (fun k_ => P0_ k_)) (by repeat (first | (with_reducible first | exact HK.out | apply Kept.alloc | apply Kept.drewN | apply Kept.drew | refine Kept.setCell ?_ (.inr GW189.out) _) | exact HK.out)) hkp (fun k_ hs_ => (fun e_ => (HO192.out.1 k_ e_.symm)) hs_)); have n3_ := Aside0.mk (hb); clear BK189; clear HK; clear HB; clear HO192; have BK189 := n0_; have HO195 := n1_; have HK := n2_; have HB := n3_; clear n0_ n1_ n2_ n3_; (try clear hb); (try clear hkp); (try clear ho0)))
            go_meet
            case rel => exact ⟨_, (t193), H', ⟨by have := HJ2.out; first | omega | exact Nat.le_refl _⟩, ⟨by (with_reducible repeat (first | apply Kd.R_alloc | apply Kd.R_drewN | apply Kd.R_drew)); exact HO195.out⟩, ⟨by (with_reducible repeat (first | refine blk_drewN ?_ _ | refine blk_drew ?_ | refine blk_alloc ?_ _)); exact BK189.out⟩, ⟨by repeat (first | (with_reducible first | exact HK.out | apply Kept.alloc | apply Kept.drewN | apply Kept.drew | refine Kept.setCell ?_ (.inr GW189.out) _) | exact HK.out)⟩, ⟨by repeat (first | (with_reducible first | exact HB.out | apply below_alloc | apply pw_below_drewN | apply below_drew1 | refine below_set ?_ GE189.out) | exact HB.out)⟩⟩
          · rw [if_neg c10] at H
            exact absurd H (by simp)
        · rw [if_neg c9] at H
          have c9b0 : decide (31 ≤ a1_1) = false := decide_eq_false c9
          clear c9
          (first | rw [c9b0] | (simp only [i64_w, i32_w]; rw [c9b0]) | skip)
          by_cases c16 : l0.length < 140737488355328
          · rw [if_pos c16] at H
            have LMc16 := Aside0.mk c16
            clear c16
            obtain ⟨y196, hy196⟩ : ∃ y_ : List Int, y_ = (l0 ++ [Go.bits .or .u8 x5_2 ((a1_1) % 256)]) := ⟨_, rfl⟩
            replace H : (asn1_appendTagAndLength.j1 kj2 y196 a1_0 a1_1 a1_2 a1_3) = some r := by first | (rw [hy196]; with_reducible exact H) | (have H2_ := (Option.bind_some _ _).symm.trans H; rw [hy196]; with_reducible exact H2_) | (have H2_ := (Option.bind_some _ _).symm.trans H; with_reducible exact H2_) | with_reducible exact H | (rw [hy196]; exact H) | exact H
            have Ny196 := Aside0.mk hy196
            clear hy196
            have H' := Aside0.mk H
            clear H
            have hcz17_0 : wc.cell? ⟨gb189, 0, none⟩ = some (.int .i64 a1_0) := (blk_cell BK189.out 0).trans rfl
            have hcz17_1 : wc.cell? ⟨gb189, 1, none⟩ = some (.int .i64 a1_1) := (blk_cell BK189.out 1).trans rfl
            have hcz17_2 : wc.cell? ⟨gb189, 2, none⟩ = some (.int .i64 a1_2) := (blk_cell BK189.out 2).trans rfl
            have hcz17_3 : wc.cell? ⟨gb189, 3, none⟩ = some (.bool a1_3) := (blk_cell BK189.out 3).trans rfl
            have hfz17_0 := blk_frozen BK189.out 0
            have hfz17_1 := blk_frozen BK189.out 1
            have hfz17_2 := blk_frozen BK189.out 2
            have hfz17_3 := blk_frozen BK189.out 3
            go_wp2_with (first | ((with_reducible refine gate_builtin (b := .append) (xs := #[.tmp 33, .tmp 35]) rfl ?_); at_builtin; refine Kd.R_append (Kd.int .u8) (w0 := w0) w0.heap.size rfl (.tmp 33) (.tmp 35) 22 5 (.int .u8 0) 1 rfl Try.underlying22 info5 rfl (by decide) (by omega) u9000_ l0 (Go.bits .or .u8 x5_2 ((a1_1) % 256)) [.int .u8 (Go.bits .or .u8 x5_2 ((a1_1) % 256))] (fun k_ => (P0_ k_ ∨ w.heap.size ≤ k_)) (fun _ => False) rfl rfl ?aP (fun _ hk => hk.elim) ?aF ?aO ?aB ?aS ?aL ?_; (case aP => exact rfl); (case aB => exact (by repeat (first | (with_reducible first | exact HB.out | apply below_alloc | apply pw_below_drewN | apply below_drew1 | refine below_set ?_ GE189.out) | exact HB.out))); (case aF => exact (fun k_ hk => (.inr (Nat.le_trans (by first | exact HK.out.1 | exact (show Kept w _ (fun k_ => P0_ k_) from by repeat (first | (with_reducible first | exact HK.out | apply Kept.alloc | apply Kept.drewN | apply Kept.drew | refine Kept.setCell ?_ (.inr GW189.out) _) | exact HK.out)).1) hk)))); (case aO => exact (by (with_reducible repeat (first | apply Kd.R_alloc | apply Kd.R_drewN | apply Kd.R_drew)); exact HO_0.out)); (case aS => exact (below_size (by repeat (first | (with_reducible first | exact HB.out | apply below_alloc | apply pw_below_drewN | apply below_drew1 | refine below_set ?_ GE189.out) | exact HB.out)))); (case aL => have := LMc16.out; omega); intro v197 w18 ho hb hg hat; rw [← Ny196.out] at ho; have n0_ := Aside0.mk (blk_grown (g := gb189) (o := .cells #[.int .i64 a1_0, .int .i64 a1_1, .int .i64 a1_2, .bool a1_3] 82 (0, 0)) (by (with_reducible repeat (first | refine blk_drewN ?_ _ | refine blk_drew ?_ | refine blk_alloc ?_ _)); exact BK189.out) hg (Kd.R_ne HO_0.out BK189.out (by decide))); have n1_ := Aside0.mk (hb); have n2_ := Aside0.mk (Kept.of_grown (S := (fun k_ => P0_ k_)) hg (by repeat (first | (with_reducible first | exact HK.out | apply Kept.alloc | apply Kept.drewN | apply Kept.drew | refine Kept.setCell ?_ (.inr GW189.out) _) | exact HK.out)) (fun k_ e_ => (HO_0.out.1 k_ e_))); have n3_ := Aside0.mk (ho); clear BK189; clear HB; clear HK; clear HO_0; have BK189 := n0_; have HB := n1_; have HK := n2_; have HO198 := n3_; clear n0_ n1_ n2_ n3_; clear ho hb hg hat))
            go_meet
            case rel => exact ⟨_, (y196), H', ⟨by have := HJ2.out; first | omega | exact Nat.le_refl _⟩, ⟨by (with_reducible repeat (first | apply Kd.R_alloc | apply Kd.R_drewN | apply Kd.R_drew)); exact HO198.out⟩, ⟨by (with_reducible repeat (first | refine blk_drewN ?_ _ | refine blk_drew ?_ | refine blk_alloc ?_ _)); exact BK189.out⟩, ⟨by repeat (first | (with_reducible first | exact HK.out | apply Kept.alloc | apply Kept.drewN | apply Kept.drew | refine Kept.setCell ?_ (.inr GW189.out) _) | exact HK.out)⟩, ⟨by repeat (first | (with_reducible first | exact HB.out | apply below_alloc | apply pw_below_drewN | apply below_drew1 | refine below_set ?_ GE189.out) | exact HB.out)⟩⟩
          · rw [if_neg c16] at H
            exact absurd H (by simp)
      case rest =>
        clear HC7
        try clear c1
        try clear p2
        try clear c5
        try clear c6
        try clear c9
        try clear c9b0
        try clear c10
        try clear c16
        try clear hcz13_0
        try clear hcz13_1
        try clear hcz13_2
        try clear hcz13_3
        try clear hcz17_0
        try clear hcz17_1
        try clear hcz17_2
        try clear hcz17_3
        try clear hcz5_0
        try clear hcz5_1
        try clear hcz5_2
        try clear hcz5_3
        try clear hcz8_0
        try clear hcz8_1
        try clear hcz8_2
        try clear hcz8_3
        try clear hfz13_0
        try clear hfz13_1
        try clear hfz13_2
        try clear hfz13_3
        try clear hfz17_0
        try clear hfz17_1
        try clear hfz17_2
        try clear hfz17_3
        try clear hfz5_0
        try clear hfz5_1
        try clear hfz5_2
        try clear hfz5_3
        try clear hfz8_0
        try clear hfz8_1
        try clear hfz8_2
        try clear hfz8_3
        try clear p2
        obtain ⟨kq, x0_6, HA, HJ6, HO_0, BK189, HK, HB⟩ := hcut
        cases kq with
        | zero => exact absurd HA.out (by simp [asn1_appendTagAndLength.j1])
        | succ kj6 =>
          have H := HA.out
          clear HA
          simp only [asn1_appendTagAndLength.j1] at H
          by_cases c19 : a1_2 ≥ 128
          · rw [if_pos c19] at H
            have c19b0 : decide (128 ≤ a1_2) = true := decide_eq_true c19
            clear c19
            replace H := Option.bind_eq_some_iff.mp H
            obtain ⟨t199, A200, H⟩ := H
            replace H : (if x0_6.length < 140737488355328 then ((asn1_appendLength.f kj6 (x0_6 ++ [Go.bits .or .u8 128 ((t199) % 256)]) a1_2).bind fun t203 => (some t203)) else (none)) = some r := H
            have A20 := Aside0.mk A200
            clear A200
            by_cases c21 : x0_6.length < 140737488355328
            · rw [if_pos c21] at H
              have LMc21 := Aside0.mk c21
              clear c21
              obtain ⟨y200, hy200⟩ : ∃ y_ : List Int, y_ = (x0_6 ++ [Go.bits .or .u8 128 ((t199) % 256)]) := ⟨_, rfl⟩
              replace H : ((asn1_appendLength.f kj6 y200 a1_2).bind fun t203 => (some t203)) = some r := by first | (rw [hy200]; with_reducible exact H) | (have H2_ := (Option.bind_some _ _).symm.trans H; rw [hy200]; with_reducible exact H2_) | (have H2_ := (Option.bind_some _ _).symm.trans H; with_reducible exact H2_) | with_reducible exact H | (rw [hy200]; exact H) | exact H
              have Ny200 := Aside0.mk hy200
              clear hy200
              replace H := Option.bind_eq_some_iff.mp H
              obtain ⟨t203, A220, H⟩ := H
              replace H : (some t203) = some r := H
              have A22 := Aside0.mk A220
              clear A220
              obtain rfl := Option.some.inj H
              have hcz23_0 : wc.cell? ⟨gb189, 0, none⟩ = some (.int .i64 a1_0) := (blk_cell BK189.out 0).trans rfl
              have hcz23_1 : wc.cell? ⟨gb189, 1, none⟩ = some (.int .i64 a1_1) := (blk_cell BK189.out 1).trans rfl
              have hcz23_2 : wc.cell? ⟨gb189, 2, none⟩ = some (.int .i64 a1_2) := (blk_cell BK189.out 2).trans rfl
              have hcz23_3 : wc.cell? ⟨gb189, 3, none⟩ = some (.bool a1_3) := (blk_cell BK189.out 3).trans rfl
              have hfz23_0 := blk_frozen BK189.out 0
              have hfz23_1 := blk_frozen BK189.out 1
              have hfz23_2 := blk_frozen BK189.out 2
              have hfz23_3 := blk_frozen BK189.out 3
              go_wp2_with (first | ((with_reducible refine gate_callee (f := 58) rfl ?_); refine goesL_ (some 42) rfl rfl Try.func58 (by kernel_rfl) rfl #[.int .i64 a1_2] rfl (by (try simp only [List.map_toArray, List.map_cons, List.map_nil]); first | done | rfl | (simp only [List.length_drop, List.length_take]; rfl)) ?_; (with_reducible refine (asn1_lengthLength.calls kj6 a1_2 t199 _ A20.out).mono ?_); rintro e w' ⟨rfl, ⟨nd, rfl⟩⟩; refine ⟨_, rfl, ?_⟩) | ((with_reducible refine gate_builtin (b := .append) (xs := #[.tmp 43, .tmp 47]) rfl ?_); at_builtin; refine Kd.R_append (Kd.int .u8) (w0 := w0) w0.heap.size rfl (.tmp 43) (.tmp 47) 22 5 (.int .u8 0) 1 rfl Try.underlying22 info5 rfl (by decide) (by omega) u0 x0_6 (Go.bits .or .u8 128 ((t199) % 256)) [.int .u8 (Go.bits .or .u8 128 ((t199) % 256))] (fun k_ => (P0_ k_ ∨ w.heap.size ≤ k_)) (fun _ => False) rfl rfl ?aP (fun _ hk => hk.elim) ?aF ?aO ?aB ?aS ?aL ?_; (case aP => exact rfl); (case aB => exact (by repeat (first | (with_reducible first | exact HB.out | apply below_alloc | apply pw_below_drewN | apply below_drew1 | refine below_set ?_ GE189.out) | exact HB.out))); (case aF => exact (fun k_ hk => (.inr (Nat.le_trans (by first | exact HK.out.1 | exact (show Kept w _ (fun k_ => P0_ k_) from by repeat (first | (with_reducible first | exact HK.out | apply Kept.alloc | apply Kept.drewN | apply Kept.drew | refine Kept.setCell ?_ (.inr GW189.out) _) | exact HK.out)).1) hk)))); (case aO => exact (by (with_reducible repeat (first | apply Kd.R_alloc | apply Kd.R_drewN | apply Kd.R_drew)); exact HO_0.out)); (case aS => exact (below_size (by repeat (first | (with_reducible first | exact HB.out | apply below_alloc | apply pw_below_drewN | apply below_drew1 | refine below_set ?_ GE189.out) | exact HB.out)))); (case aL => have := LMc21.out; omega); intro v201 w24 ho hb hg hat; rw [← Ny200.out] at ho; have n0_ := Aside0.mk (blk_grown (g := gb189) (o := .cells #[.int .i64 a1_0, .int .i64 a1_1, .int .i64 a1_2, .bool a1_3] 82 (0, 0)) (by (with_reducible repeat (first | refine blk_drewN ?_ _ | refine blk_drew ?_ | refine blk_alloc ?_ _)); exact BK189.out) hg (Kd.R_ne HO_0.out BK189.out (by decide))); have n1_ := Aside0.mk (hb); have n2_ := Aside0.mk (Kept.of_grown (S := (fun k_ => P0_ k_)) hg (by repeat (first | (with_reducible first | exact HK.out | apply Kept.alloc | apply Kept.drewN | apply Kept.drew | refine Kept.setCell ?_ (.inr GW189.out) _) | exact HK.out)) (fun k_ e_ => (HO_0.out.1 k_ e_))); have n3_ := Aside0.mk (ho); clear BK189; clear HB; clear HK; clear HO_0; have BK189 := n0_; have HB := n1_; have HK := n2_; have HO202 := n3_; clear n0_ n1_ n2_ n3_; clear ho hb hg hat; have hcz25_0 : w24.cell? ⟨gb189, 0, none⟩ = some (.int .i64 a1_0) := (blk_cell BK189.out 0).trans rfl; have hcz25_1 : w24.cell? ⟨gb189, 1, none⟩ = some (.int .i64 a1_1) := (blk_cell BK189.out 1).trans rfl; have hcz25_2 : w24.cell? ⟨gb189, 2, none⟩ = some (.int .i64 a1_2) := (blk_cell BK189.out 2).trans rfl; have hcz25_3 : w24.cell? ⟨gb189, 3, none⟩ = some (.bool a1_3) := (blk_cell BK189.out 3).trans rfl; have hfz25_0 := blk_frozen BK189.out 0; have hfz25_1 := blk_frozen BK189.out 1; have hfz25_2 := blk_frozen BK189.out 2; have hfz25_3 := blk_frozen BK189.out 3; obtain ⟨Ao26, co26, eo26⟩ := Kd.R_slice HO202.out; subst eo26) | ((with_reducible refine gate_callee (f := 59) rfl ?_); refine goesL_ (some 52) rfl rfl Try.func59 (by kernel_rfl) rfl #[.slice Ao26 y200.length co26, .int .i64 a1_2] rfl (by (try simp only [List.map_toArray, List.map_cons, List.map_nil]); first | done | rfl | (simp only [List.length_drop, List.length_take]; rfl)) ?_; (with_reducible refine (asn1_appendLength.calls kj6 (fun k_ => some k_ = (.slice Ao26 y200.length co26 : Value).ownBlock) (.slice Ao26 y200.length co26) y200 a1_2 t203 w0 _ ?side1 ?side2 A22.out).mono ?_); (case side1 => repeat (first | (with_reducible first | exact HB.out | apply below_alloc | apply pw_below_drewN | apply below_drew1 | refine below_set ?_ GE189.out) | exact HB.out)); (case side2 => exact Kd.R_tight rfl HO202.out); rintro e w27 ⟨v204, rfl, ho0, hb, hkp⟩; refine ⟨_, rfl, ?_⟩; have n0_ := Aside0.mk (blk_kept (by (with_reducible repeat (first | refine blk_drewN ?_ _ | refine blk_drew ?_ | refine blk_alloc ?_ _)); exact BK189.out) hkp (fun hs_ => (fun e_ => (Kd.R_ne HO202.out BK189.out (by decide)) e_) hs_)); have n1_ := Aside0.mk (Kd.R_mono (ok' := fun k_ => (P0_ k_ ∨ w.heap.size ≤ k_)) ho0 (fun k_ hk_ => Or.elim hk_ (fun hs_ => (HO202.out.1 k_ (hs_).symm)) (fun hn_ => (.inr (Nat.le_trans (by first | exact HK.out.1 | exact (show Kept w _ (fun k_ => P0_ k_) from by repeat (first | (with_reducible first | exact HK.out | apply Kept.alloc | apply Kept.drewN | apply Kept.drew | refine Kept.setCell ?_ (.inr GW189.out) _) | exact HK.out)).1) hn_))))); have n2_ := Aside0.mk (Kept.then_ (S := (fun k_ => P0_ k_)) (by repeat (first | (with_reducible first | exact HK.out | apply Kept.alloc | apply Kept.drewN | apply Kept.drew | refine Kept.setCell ?_ (.inr GW189.out) _) | exact HK.out)) hkp (fun k_ hs_ => (fun e_ => (HO202.out.1 k_ e_.symm)) hs_)); have n3_ := Aside0.mk (hb); clear BK189; clear HK; clear HB; clear HO202; have BK189 := n0_; have HO205 := n1_; have HK := n2_; have HB := n3_; clear n0_ n1_ n2_ n3_; (try clear hb); (try clear hkp); (try clear ho0)))
              go_ret
              exact ⟨_, by first | rfl | (simp [errW_none, errW_some] <;> rfl) | (simp [*, errW_none, errW_some] <;> rfl), by (with_reducible repeat (first | apply Kd.R_alloc | apply Kd.R_drewN | apply Kd.R_drew)); exact HO205.out, by repeat (first | (with_reducible first | exact HB.out | apply below_alloc | apply pw_below_drewN | apply below_drew1 | refine below_set ?_ GE189.out) | exact HB.out), by repeat (first | (with_reducible first | exact HK.out | apply Kept.alloc | apply Kept.drewN | apply Kept.drew | refine Kept.setCell ?_ (.inr GW189.out) _) | exact HK.out)⟩
            · rw [if_neg c21] at H
              exact absurd H (by simp)
          · rw [if_neg c19] at H
            have c19b0 : decide (128 ≤ a1_2) = false := decide_eq_false c19
            clear c19
            by_cases c28 : x0_6.length < 140737488355328
            · rw [if_pos c28] at H
              have LMc28 := Aside0.mk c28
              clear c28
              obtain ⟨y206, hy206⟩ : ∃ y_ : List Int, y_ = (x0_6 ++ [(a1_2) % 256]) := ⟨_, rfl⟩
              replace H : (some y206) = some r := by first | (rw [hy206]; with_reducible exact H) | (have H2_ := (Option.bind_some _ _).symm.trans H; rw [hy206]; with_reducible exact H2_) | (have H2_ := (Option.bind_some _ _).symm.trans H; with_reducible exact H2_) | with_reducible exact H | (rw [hy206]; exact H) | exact H
              have Ny206 := Aside0.mk hy206
              clear hy206
              obtain rfl := Option.some.inj H
              have hcz29_0 : wc.cell? ⟨gb189, 0, none⟩ = some (.int .i64 a1_0) := (blk_cell BK189.out 0).trans rfl
              have hcz29_1 : wc.cell? ⟨gb189, 1, none⟩ = some (.int .i64 a1_1) := (blk_cell BK189.out 1).trans rfl
              have hcz29_2 : wc.cell? ⟨gb189, 2, none⟩ = some (.int .i64 a1_2) := (blk_cell BK189.out 2).trans rfl
              have hcz29_3 : wc.cell? ⟨gb189, 3, none⟩ = some (.bool a1_3) := (blk_cell BK189.out 3).trans rfl
              have hfz29_0 := blk_frozen BK189.out 0
              have hfz29_1 := blk_frozen BK189.out 1
              have hfz29_2 := blk_frozen BK189.out 2
              have hfz29_3 := blk_frozen BK189.out 3
              go_wp2_with (first | ((with_reducible refine gate_builtin (b := .append) (xs := #[.tmp 53, .tmp 57]) rfl ?_); at_builtin; refine Kd.R_append (Kd.int .u8) (w0 := w0) w0.heap.size rfl (.tmp 53) (.tmp 57) 22 5 (.int .u8 0) 1 rfl Try.underlying22 info5 rfl (by decide) (by omega) u0 x0_6 ((a1_2) % 256) [.int .u8 ((a1_2) % 256)] (fun k_ => (P0_ k_ ∨ w.heap.size ≤ k_)) (fun _ => False) rfl rfl ?aP (fun _ hk => hk.elim) ?aF ?aO ?aB ?aS ?aL ?_; (case aP => exact rfl); (case aB => exact (by repeat (first | (with_reducible first | exact HB.out | apply below_alloc | apply pw_below_drewN | apply below_drew1 | refine below_set ?_ GE189.out) | exact HB.out))); (case aF => exact (fun k_ hk => (.inr (Nat.le_trans (by first | exact HK.out.1 | exact (show Kept w _ (fun k_ => P0_ k_) from by repeat (first | (with_reducible first | exact HK.out | apply Kept.alloc | apply Kept.drewN | apply Kept.drew | refine Kept.setCell ?_ (.inr GW189.out) _) | exact HK.out)).1) hk)))); (case aO => exact (by (with_reducible repeat (first | apply Kd.R_alloc | apply Kd.R_drewN | apply Kd.R_drew)); exact HO_0.out)); (case aS => exact (below_size (by repeat (first | (with_reducible first | exact HB.out | apply below_alloc | apply pw_below_drewN | apply below_drew1 | refine below_set ?_ GE189.out) | exact HB.out)))); (case aL => have := LMc28.out; omega); intro v207 w30 ho hb hg hat; rw [← Ny206.out] at ho; have n0_ := Aside0.mk (blk_grown (g := gb189) (o := .cells #[.int .i64 a1_0, .int .i64 a1_1, .int .i64 a1_2, .bool a1_3] 82 (0, 0)) (by (with_reducible repeat (first | refine blk_drewN ?_ _ | refine blk_drew ?_ | refine blk_alloc ?_ _)); exact BK189.out) hg (Kd.R_ne HO_0.out BK189.out (by decide))); have n1_ := Aside0.mk (hb); have n2_ := Aside0.mk (Kept.of_grown (S := (fun k_ => P0_ k_)) hg (by repeat (first | (with_reducible first | exact HK.out | apply Kept.alloc | apply Kept.drewN | apply Kept.drew | refine Kept.setCell ?_ (.inr GW189.out) _) | exact HK.out)) (fun k_ e_ => (HO_0.out.1 k_ e_))); have n3_ := Aside0.mk (ho); clear BK189; clear HB; clear HK; clear HO_0; have BK189 := n0_; have HB := n1_; have HK := n2_; have HO208 := n3_; clear n0_ n1_ n2_ n3_; clear ho hb hg hat))
              go_ret
              exact ⟨_, by first | rfl | (simp [errW_none, errW_some] <;> rfl) | (simp [*, errW_none, errW_some] <;> rfl), by (with_reducible repeat (first | apply Kd.R_alloc | apply Kd.R_drewN | apply Kd.R_drew)); exact HO208.out, by repeat (first | (with_reducible first | exact HB.out | apply below_alloc | apply pw_below_drewN | apply below_drew1 | refine below_set ?_ GE189.out) | exact HB.out), by repeat (first | (with_reducible first | exact HK.out | apply Kept.alloc | apply Kept.drewN | apply Kept.drew | refine Kept.setCell ?_ (.inr GW189.out) _) | exact HK.out)⟩
            · rw [if_neg c28] at H
              exact absurd H (by simp)

/-! ### asn1_ZZPutHeader: function 44 -/
def asn1_ZZPutHeader.f (k : Nat) (a0 : Int) (a1 : Int) (a2 : Int) (a3 : Bool) : Option (List Int) := (asn1_appendTagAndLength.f k ([] : List Int) a0 a1 a2 a3).bind fun t209 => (some t209)
theorem asn1_ZZPutHeader.mono : ∀ a0 a1 a2 a3 k, LeO (asn1_ZZPutHeader.f k a0 a1 a2 a3) (asn1_ZZPutHeader.f (k + 1) a0 a1 a2 a3) := by
  intro a0 a1 a2 a3 k
  unfold asn1_ZZPutHeader.f
  repeat' first
      | (with_reducible exact asn1_appendTagAndLength.mono _ _ _ _ _ _)
      | (with_reducible exact LeO.refl _)
      | (with_reducible exact LeO.none _)
      | (with_reducible refine LeO.ite ?_ ?_)
      | (with_reducible refine LeO.bind ?_ (fun _ => ?_))
      | exact asn1_appendTagAndLength.mono _ _ _ _ _ _
      | exact LeO.none _
      | refine LeO.ite ?_ ?_
      | refine LeO.bind ?_ (fun _ => ?_)
set_option maxHeartbeats 8000000 in
set_option maxRecDepth 100000 in
theorem asn1_ZZPutHeader.calls (k : Nat) (a0 : Int) (a1 : Int) (a2 : Int) (a3 : Bool) (r : List Int) (w : World) (h : asn1_ZZPutHeader.f k a0 a1 a2 a3 = some r) :
    Calls Try.prog 44 #[.int .i64 a0, .int .i64 a1, .int .i64 a2, .bool a3] w fun e w' => ∃ v0_ : Value, e = .returned (v0_) ∧ Kd.R (Kd.int .u8) 5 w' w.heap.size (fun _ => True) v0_ r ∧ Below w.heap.size w w' := by
  have hu82 := Try.underlying82
  have HB := Aside0.mk (Below.refl w.heap.size w)
  have H : ((asn1_appendTagAndLength.f k ([] : List Int) a0 a1 a2 a3).bind fun t209 => (some t209)) = some r := h
  clear h
  replace H := Option.bind_eq_some_iff.mp H
  obtain ⟨t209, A50, H⟩ := H
  replace H : (some t209) = some r := H
  have A5 := Aside0.mk A50
  clear A50
  obtain rfl := Option.some.inj H
  go_enter Try.func44, Try.ntmps44
  go_wp2_with (first | ((with_reducible refine gate_callee (f := 54) rfl ?_); refine goesL_ (some 14) rfl rfl Try.func54 (by kernel_rfl) rfl #[.slice none 0 0, .agg #[.int .i64 a0, .int .i64 a1, .int .i64 a2, .bool a3]] rfl (by (try simp only [List.map_toArray, List.map_cons, List.map_nil]); first | done | rfl | (simp only [List.length_drop, List.length_take]; rfl)) ?_; (refine (asn1_appendTagAndLength.calls k (fun k_ => some k_ = (.slice none 0 0 : Value).ownBlock) (.slice none 0 0) ([] : List Int) a0 a1 a2 a3 t209 w _ ?side1 ?side2 A5.out).mono ?_); (case side1 => repeat (first | (with_reducible first | exact HB.out | apply below_alloc | apply pw_below_drewN | apply below_drew1) | exact HB.out)); (case side2 => exact Kd.R_nil _ _ _ _ _); rintro e w6 ⟨v210, rfl, ho0, hb, hkp⟩; refine ⟨_, rfl, ?_⟩; have n0_ := Aside0.mk (Kd.R_mono (ok' := fun k_ => True) ho0 (fun k_ hk_ => trivial)); have n1_ := Aside0.mk (hb); clear HB; have HO211 := n0_; have HB := n1_; clear n0_ n1_; (try clear hb); (try clear hkp); (try clear ho0)))
  go_ret
  exact ⟨_, by first | rfl | (simp [errW_none, errW_some] <;> rfl) | (simp [*, errW_none, errW_some] <;> rfl), by (with_reducible repeat (first | apply Kd.R_alloc | apply Kd.R_drewN | apply Kd.R_drew)); exact HO211.out, by repeat (first | (with_reducible first | exact HB.out | apply below_alloc | apply pw_below_drewN | apply below_drew1) | exact HB.out)⟩

/-! ### impl_PutHeader: function 26 -/
def impl_PutHeader.f (k : Nat) (a0_0 : Int) (a0_1 : Int) (a0_2 : Int) (a0_3 : Bool) : Option (List Int) := if a0_0 < 0 then (some ([] : List Int)) else (if a0_0 > 3 then (some ([] : List Int)) else (if a0_1 < 0 then (some ([] : List Int)) else (if a0_1 > 2147483647 then (some ([] : List Int)) else (if a0_2 < 0 then (some ([] : List Int)) else (if a0_2 > 2147483647 then (some ([] : List Int)) else ((asn1_ZZPutHeader.f k a0_0 a0_1 a0_2 a0_3).bind fun t213 => (some t213)))))))
theorem impl_PutHeader.mono : ∀ a0 a1 a2 a3 k, LeO (impl_PutHeader.f k a0 a1 a2 a3) (impl_PutHeader.f (k + 1) a0 a1 a2 a3) := by
  intro a0 a1 a2 a3 k
  unfold impl_PutHeader.f
  repeat' first
      | (with_reducible exact asn1_ZZPutHeader.mono _ _ _ _ _)
      | (with_reducible exact LeO.refl _)
      | (with_reducible exact LeO.none _)
      | (with_reducible refine LeO.ite ?_ ?_)
      | (with_reducible refine LeO.bind ?_ (fun _ => ?_))
      | exact asn1_ZZPutHeader.mono _ _ _ _ _
      | exact LeO.none _
      | refine LeO.ite ?_ ?_
      | refine LeO.bind ?_ (fun _ => ?_)
set_option maxHeartbeats 8000000 in
set_option maxRecDepth 100000 in
theorem impl_PutHeader.calls (k : Nat) (a0_0 : Int) (a0_1 : Int) (a0_2 : Int) (a0_3 : Bool) (r : List Int) (w : World) (h : impl_PutHeader.f k a0_0 a0_1 a0_2 a0_3 = some r) :
    Calls Try.prog 26 #[.agg #[.int .i64 a0_0, .int .i64 a0_1, .int .i64 a0_2, .bool a0_3]] w fun e w' => ∃ v0_ : Value, e = .returned (v0_) ∧ Kd.R (Kd.int .u8) 5 w' w.heap.size (fun _ => True) v0_ r ∧ Below w.heap.size w w' := by
  have hu41 := Try.underlying41
  have HB := Aside0.mk (Below.refl w.heap.size w)
  have H : (if a0_0 < 0 then (some ([] : List Int)) else (if a0_0 > 3 then (some ([] : List Int)) else (if a0_1 < 0 then (some ([] : List Int)) else (if a0_1 > 2147483647 then (some ([] : List Int)) else (if a0_2 < 0 then (some ([] : List Int)) else (if a0_2 > 2147483647 then (some ([] : List Int)) else ((asn1_ZZPutHeader.f k a0_0 a0_1 a0_2 a0_3).bind fun t213 => (some t213)))))))) = some r := h
  clear h
  by_cases c2 : a0_0 < 0
  · rw [if_pos c2] at H
    have c2b0 : decide (a0_0 < 0) = true := decide_eq_true c2
    clear c2
    obtain rfl := Option.some.inj H
    go_enter Try.func26, Try.ntmps26
    go_wp2_with (first | ((with_reducible refine gate_dst (N := 1) rfl ?_); refine box_event ?hg (N := 1) ?hd (cs := #[.int .i64 a0_0, .int .i64 a0_1, .int .i64 a0_2, .bool a0_3]) (t := 41) ?hr ?_; (case hd => rfl); (case hg => rfl); (case hr => first | (go_simp; done) | (go_simp; rfl)); intro gb212 hg w3 hbox hb; have n0_ := Aside0.mk (below_step (by repeat (first | (with_reducible first | exact HB.out | apply below_alloc | apply pw_below_drewN | apply below_drew1) | exact HB.out)) hb); have n1_ := Aside0.mk (hbox); have n2_ := Aside0.mk ((by rw [hg]; exact (below_size (by repeat (first | (with_reducible first | exact HB.out | apply below_alloc | apply pw_below_drewN | apply below_drew1) | exact HB.out))) : w.heap.size ≤ gb212)); have n3_ := Aside0.mk ((by rw [hg]; exact (below_size (by repeat (first | (with_reducible first | exact HB.out | apply below_alloc | apply pw_below_drewN | apply below_drew1) | exact HB.out))) : w.heap.size ≤ gb212)); clear HB; have HB := n0_; have BK212 := n1_; have GW212 := n2_; have GE212 := n3_; clear n0_ n1_ n2_ n3_; clear hb hbox hg; have hcz4_0 : w3.cell? ⟨gb212, 0, none⟩ = some (.int .i64 a0_0) := (blk_cell BK212.out 0).trans rfl; have hcz4_1 : w3.cell? ⟨gb212, 1, none⟩ = some (.int .i64 a0_1) := (blk_cell BK212.out 1).trans rfl; have hcz4_2 : w3.cell? ⟨gb212, 2, none⟩ = some (.int .i64 a0_2) := (blk_cell BK212.out 2).trans rfl; have hcz4_3 : w3.cell? ⟨gb212, 3, none⟩ = some (.bool a0_3) := (blk_cell BK212.out 3).trans rfl; have hfz4_0 := blk_frozen BK212.out 0; have hfz4_1 := blk_frozen BK212.out 1; have hfz4_2 := blk_frozen BK212.out 2; have hfz4_3 := blk_frozen BK212.out 3))
    go_ret
    exact ⟨_, by first | rfl | (simp [errW_none, errW_some] <;> rfl) | (simp [*, errW_none, errW_some] <;> rfl), by first | exact Kd.R_nil _ _ _ _ _ | exact Kd.N_nil _ _ _ _ _ | exact Kd.V_nil _ _ _ _ _ | exact Kd.Q_nil _ _ _ _ _ | exact Kd.S_nil _ _ _ _ _, by repeat (first | (with_reducible first | exact HB.out | apply below_alloc | apply pw_below_drewN | apply below_drew1 | refine below_set ?_ GE212.out) | exact HB.out)⟩
  · rw [if_neg c2] at H
    have c2b0 : decide (a0_0 < 0) = false := decide_eq_false c2
    clear c2
    by_cases c5 : a0_0 > 3
    · rw [if_pos c5] at H
      have c5b0 : decide (3 < a0_0) = true := decide_eq_true c5
      clear c5
      obtain rfl := Option.some.inj H
      go_enter Try.func26, Try.ntmps26
      go_wp2_with (first | ((with_reducible refine gate_dst (N := 1) rfl ?_); refine box_event ?hg (N := 1) ?hd (cs := #[.int .i64 a0_0, .int .i64 a0_1, .int .i64 a0_2, .bool a0_3]) (t := 41) ?hr ?_; (case hd => rfl); (case hg => rfl); (case hr => first | (go_simp; done) | (go_simp; rfl)); intro gb212 hg w6 hbox hb; have n0_ := Aside0.mk (below_step (by repeat (first | (with_reducible first | exact HB.out | apply below_alloc | apply pw_below_drewN | apply below_drew1) | exact HB.out)) hb); have n1_ := Aside0.mk (hbox); have n2_ := Aside0.mk ((by rw [hg]; exact (below_size (by repeat (first | (with_reducible first | exact HB.out | apply below_alloc | apply pw_below_drewN | apply below_drew1) | exact HB.out))) : w.heap.size ≤ gb212)); have n3_ := Aside0.mk ((by rw [hg]; exact (below_size (by repeat (first | (with_reducible first | exact HB.out | apply below_alloc | apply pw_below_drewN | apply below_drew1) | exact HB.out))) : w.heap.size ≤ gb212)); clear HB; have HB := n0_; have BK212 := n1_; have GW212 := n2_; have GE212 := n3_; clear n0_ n1_ n2_ n3_; clear hb hbox hg; have hcz7_0 : w6.cell? ⟨gb212, 0, none⟩ = some (.int .i64 a0_0) := (blk_cell BK212.out 0).trans rfl; have hcz7_1 : w6.cell? ⟨gb212, 1, none⟩ = some (.int .i64 a0_1) := (blk_cell BK212.out 1).trans rfl; have hcz7_2 : w6.cell? ⟨gb212, 2, none⟩ = some (.int .i64 a0_2) := (blk_cell BK212.out 2).trans rfl; have hcz7_3 : w6.cell? ⟨gb212, 3, none⟩ = some (.bool a0_3) := (blk_cell BK212.out 3).trans rfl; have hfz7_0 := blk_frozen BK212.out 0; have hfz7_1 := blk_frozen BK212.out 1; have hfz7_2 := blk_frozen BK212.out 2; have hfz7_3 := blk_frozen BK212.out 3))
      go_ret
      exact ⟨_, by first | rfl | (simp [errW_none, errW_some] <;> rfl) | (simp [*, errW_none, errW_some] <;> rfl), by first | exact Kd.R_nil _ _ _ _ _ | exact Kd.N_nil _ _ _ _ _ | exact Kd.V_nil _ _ _ _ _ | exact Kd.Q_nil _ _ _ _ _ | exact Kd.S_nil _ _ _ _ _, by repeat (first | (with_reducible first | exact HB.out | apply below_alloc | apply pw_below_drewN | apply below_drew1 | refine below_set ?_ GE212.out) | exact HB.out)⟩
    · rw [if_neg c5] at H
      have c5b0 : decide (3 < a0_0) = false := decide_eq_false c5
      clear c5
      by_cases c8 : a0_1 < 0
      · rw [if_pos c8] at H
        have c8b0 : decide (a0_1 < 0) = true := decide_eq_true c8
        clear c8
        obtain rfl := Option.some.inj H
        go_enter Try.func26, Try.ntmps26
        go_wp2_with (first | ((with_reducible refine gate_dst (N := 1) rfl ?_); refine box_event ?hg (N := 1) ?hd (cs := #[.int .i64 a0_0, .int .i64 a0_1, .int .i64 a0_2, .bool a0_3]) (t := 41) ?hr ?_; (case hd => rfl); (case hg => rfl); (case hr => first | (go_simp; done) | (go_simp; rfl)); intro gb212 hg w9 hbox hb; have n0_ := Aside0.mk (below_step (by repeat (first | (with_reducible first | exact HB.out | apply below_alloc | apply pw_below_drewN | apply below_drew1) | exact HB.out)) hb); have n1_ := Aside0.mk (hbox); have n2_ := Aside0.mk ((by rw [hg]; exact (below_size (by repeat (first | (with_reducible first | exact HB.out | apply below_alloc | apply pw_below_drewN | apply below_drew1) | exact HB.out))) : w.heap.size ≤ gb212)); have n3_ := Aside0.mk ((by rw [hg]; exact (below_size (by repeat (first | (with_reducible first | exact HB.out | apply below_alloc | apply pw_below_drewN | apply below_drew1) | exact HB.out))) : w.heap.size ≤ gb212)); clear HB; have HB := n0_; have BK212 := n1_; have GW212 := n2_; have GE212 := n3_; clear n0_ n1_ n2_ n3_; clear hb hbox hg; have hcz10_0 : w9.cell? ⟨gb212, 0, none⟩ = some (.int .i64 a0_0) := (blk_cell BK212.out 0).trans rfl; have hcz10_1 : w9.cell? ⟨gb212, 1, none⟩ = some (.int .i64 a0_1) := (blk_cell BK212.out 1).trans rfl; have hcz10_2 : w9.cell? ⟨gb212, 2, none⟩ = some (.int .i64 a0_2) := (blk_cell BK212.out 2).trans rfl; have hcz10_3 : w9.cell? ⟨gb212, 3, none⟩ = some (.bool a0_3) := (blk_cell BK212.out 3).trans rfl; have hfz10_0 := blk_frozen BK212.out 0; have hfz10_1 := blk_frozen BK212.out 1; have hfz10_2 := blk_frozen BK212.out 2; have hfz10_3 := blk_frozen BK212.out 3))
        go_ret
        exact ⟨_, by first | rfl | (simp [errW_none, errW_some] <;> rfl) | (simp [*, errW_none, errW_some] <;> rfl), by first | exact Kd.R_nil _ _ _ _ _ | exact Kd.N_nil _ _ _ _ _ | exact Kd.V_nil _ _ _ _ _ | exact Kd.Q_nil _ _ _ _ _ | exact Kd.S_nil _ _ _ _ _, by repeat (first | (with_reducible first | exact HB.out | apply below_alloc | apply pw_below_drewN | apply below_drew1 | refine below_set ?_ GE212.out) | exact HB.out)⟩
      · rw [if_neg c8] at H
        have c8b0 : decide (a0_1 < 0) = false := decide_eq_false c8
        clear c8
        by_cases c11 : a0_1 > 2147483647
        · rw [if_pos c11] at H
          have c11b0 : decide (2147483647 < a0_1) = true := decide_eq_true c11
          clear c11
          obtain rfl := Option.some.inj H
          go_enter Try.func26, Try.ntmps26
          go_wp2_with (first | ((with_reducible refine gate_dst (N := 1) rfl ?_); refine box_event ?hg (N := 1) ?hd (cs := #[.int .i64 a0_0, .int .i64 a0_1, .int .i64 a0_2, .bool a0_3]) (t := 41) ?hr ?_; (case hd => rfl); (case hg => rfl); (case hr => first | (go_simp; done) | (go_simp; rfl)); intro gb212 hg w12 hbox hb; have n0_ := Aside0.mk (below_step (by repeat (first | (with_reducible first | exact HB.out | apply below_alloc | apply pw_below_drewN | apply below_drew1) | exact HB.out)) hb); have n1_ := Aside0.mk (hbox); have n2_ := Aside0.mk ((by rw [hg]; exact (below_size (by repeat (first | (with_reducible first | exact HB.out | apply below_alloc | apply pw_below_drewN | apply below_drew1) | exact HB.out))) : w.heap.size ≤ gb212)); have n3_ := Aside0.mk ((by rw [hg]; exact (below_size (by repeat (first | (with_reducible first | exact HB.out | apply below_alloc | apply pw_below_drewN | apply below_drew1) | exact HB.out))) : w.heap.size ≤ gb212)); clear HB; have HB := n0_; have BK212 := n1_; have GW212 := n2_; have GE212 := n3_; clear n0_ n1_ n2_ n3_; clear hb hbox hg; have hcz13_0 : w12.cell? ⟨gb212, 0, none⟩ = some (.int .i64 a0_0) := (blk_cell BK212.out 0).trans rfl; have hcz13_1 : w12.cell? ⟨gb212, 1, none⟩ = some (.int .i64 a0_1) := (blk_cell BK212.out 1).trans rfl; have hcz13_2 : w12.cell? ⟨gb212, 2, none⟩ = some (.int .i64 a0_2) := (blk_cell BK212.out 2).trans rfl; have hcz13_3 : w12.cell? ⟨gb212, 3, none⟩ = some (.bool a0_3) := (blk_cell BK212.out 3).trans rfl; have hfz13_0 := blk_frozen BK212.out 0; have hfz13_1 := blk_frozen BK212.out 1; have hfz13_2 := blk_frozen BK212.out 2; have hfz13_3 := blk_frozen BK212.out 3))
          go_ret
          exact ⟨_, by first | rfl | (simp [errW_none, errW_some] <;> rfl) | (simp [*, errW_none, errW_some] <;> rfl), by first | exact Kd.R_nil _ _ _ _ _ | exact Kd.N_nil _ _ _ _ _ | exact Kd.V_nil _ _ _ _ _ | exact Kd.Q_nil _ _ _ _ _ | exact Kd.S_nil _ _ _ _ _, by repeat (first | (with_reducible first | exact HB.out | apply below_alloc | apply pw_below_drewN | apply below_drew1 | refine below_set ?_ GE212.out) | exact HB.out)⟩
        · rw [if_neg c11] at H
          have c11b0 : decide (2147483647 < a0_1) = false := decide_eq_false c11
          clear c11
          by_cases c14 : a0_2 < 0
          · rw [if_pos c14] at H
            have c14b0 : decide (a0_2 < 0) = true := decide_eq_true c14
            clear c14
            obtain rfl := Option.some.inj H
            go_enter Try.func26, Try.ntmps26
            go_wp2_with (first | ((with_reducible refine gate_dst (N := 1) rfl ?_); refine box_event ?hg (N := 1) ?hd (cs := #[.int .i64 a0_0, .int .i64 a0_1, .int .i64 a0_2, .bool a0_3]) (t := 41) ?hr ?_; (case hd => rfl); (case hg => rfl); (case hr => first | (go_simp; done) | (go_simp; rfl)); intro gb212 hg w15 hbox hb; have n0_ := Aside0.mk (below_step (by repeat (first | (with_reducible first | exact HB.out | apply below_alloc | apply pw_below_drewN | apply below_drew1) | exact HB.out)) hb); have n1_ := Aside0.mk (hbox); have n2_ := Aside0.mk ((by rw [hg]; exact (below_size (by repeat (first | (with_reducible first | exact HB.out | apply below_alloc | apply pw_below_drewN | apply below_drew1) | exact HB.out))) : w.heap.size ≤ gb212)); have n3_ := Aside0.mk ((by rw [hg]; exact (below_size (by repeat (first | (with_reducible first | exact HB.out | apply below_alloc | apply pw_below_drewN | apply below_drew1) | exact HB.out))) : w.heap.size ≤ gb212)); clear HB; have HB := n0_; have BK212 := n1_; have GW212 := n2_; have GE212 := n3_; clear n0_ n1_ n2_ n3_; clear hb hbox hg; have hcz16_0 : w15.cell? ⟨gb212, 0, none⟩ = some (.int .i64 a0_0) := (blk_cell BK212.out 0).trans rfl; have hcz16_1 : w15.cell? ⟨gb212, 1, none⟩ = some (.int .i64 a0_1) := (blk_cell BK212.out 1).trans rfl; have hcz16_2 : w15.cell? ⟨gb212, 2, none⟩ = some (.int .i64 a0_2) := (blk_cell BK212.out 2).trans rfl; have hcz16_3 : w15.cell? ⟨gb212, 3, none⟩ = some (.bool a0_3) := (blk_cell BK212.out 3).trans rfl; have hfz16_0 := blk_frozen BK212.out 0; have hfz16_1 := blk_frozen BK212.out 1; have hfz16_2 := blk_frozen BK212.out 2; have hfz16_3 := blk_frozen BK212.out 3))
            go_ret
            exact ⟨_, by first | rfl | (simp [errW_none, errW_some] <;> rfl) | (simp [*, errW_none, errW_some] <;> rfl), by first | exact Kd.R_nil _ _ _ _ _ | exact Kd.N_nil _ _ _ _ _ | exact Kd.V_nil _ _ _ _ _ | exact Kd.Q_nil _ _ _ _ _ | exact Kd.S_nil _ _ _ _ _, by repeat (first | (with_reducible first | exact HB.out | apply below_alloc | apply pw_below_drewN | apply below_drew1 | refine below_set ?_ GE212.out) | exact HB.out)⟩
          · rw [if_neg c14] at H
            have c14b0 : decide (a0_2 < 0) = false := decide_eq_false c14
            clear c14
            by_cases c17 : a0_2 > 2147483647
            · rw [if_pos c17] at H
              have c17b0 : decide (2147483647 < a0_2) = true := decide_eq_true c17
              clear c17
              obtain rfl := Option.some.inj H
              go_enter Try.func26, Try.ntmps26
              go_wp2_with (first | ((with_reducible refine gate_dst (N := 1) rfl ?_); refine box_event ?hg (N := 1) ?hd (cs := #[.int .i64 a0_0, .int .i64 a0_1, .int .i64 a0_2, .bool a0_3]) (t := 41) ?hr ?_; (case hd => rfl); (case hg => rfl); (case hr => first | (go_simp; done) | (go_simp; rfl)); intro gb212 hg w18 hbox hb; have n0_ := Aside0.mk (below_step (by repeat (first | (with_reducible first | exact HB.out | apply below_alloc | apply pw_below_drewN | apply below_drew1) | exact HB.out)) hb); have n1_ := Aside0.mk (hbox); have n2_ := Aside0.mk ((by rw [hg]; exact (below_size (by repeat (first | (with_reducible first | exact HB.out | apply below_alloc | apply pw_below_drewN | apply below_drew1) | exact HB.out))) : w.heap.size ≤ gb212)); have n3_ := Aside0.mk ((by rw [hg]; exact (below_size (by repeat (first | (with_reducible first | exact HB.out | apply below_alloc | apply pw_below_drewN | apply below_drew1) | exact HB.out))) : w.heap.size ≤ gb212)); clear HB; have HB := n0_; have BK212 := n1_; have GW212 := n2_; have GE212 := n3_; clear n0_ n1_ n2_ n3_; clear hb hbox hg; have hcz19_0 : w18.cell? ⟨gb212, 0, none⟩ = some (.int .i64 a0_0) := (blk_cell BK212.out 0).trans rfl; have hcz19_1 : w18.cell? ⟨gb212, 1, none⟩ = some (.int .i64 a0_1) := (blk_cell BK212.out 1).trans rfl; have hcz19_2 : w18.cell? ⟨gb212, 2, none⟩ = some (.int .i64 a0_2) := (blk_cell BK212.out 2).trans rfl; have hcz19_3 : w18.cell? ⟨gb212, 3, none⟩ = some (.bool a0_3) := (blk_cell BK212.out 3).trans rfl; have hfz19_0 := blk_frozen BK212.out 0; have hfz19_1 := blk_frozen BK212.out 1; have hfz19_2 := blk_frozen BK212.out 2; have hfz19_3 := blk_frozen BK212.out 3))
              go_ret
              exact ⟨_, by first | rfl | (simp [errW_none, errW_some] <;> rfl) | (simp [*, errW_none, errW_some] <;> rfl), by first | exact Kd.R_nil _ _ _ _ _ | exact Kd.N_nil _ _ _ _ _ | exact Kd.V_nil _ _ _ _ _ | exact Kd.Q_nil _ _ _ _ _ | exact Kd.S_nil _ _ _ _ _, by repeat (first | (with_reducible first | exact HB.out | apply below_alloc | apply pw_below_drewN | apply below_drew1 | refine below_set ?_ GE212.out) | exact HB.out)⟩
            · rw [if_neg c17] at H
              have c17b0 : decide (2147483647 < a0_2) = false := decide_eq_false c17
              clear c17
              replace H := Option.bind_eq_some_iff.mp H
              obtain ⟨t213, A200, H⟩ := H
              replace H : (some t213) = some r := H
              have A20 := Aside0.mk A200
              clear A200
              obtain rfl := Option.some.inj H
              go_enter Try.func26, Try.ntmps26
              go_wp2_with (first | ((with_reducible refine gate_dst (N := 1) rfl ?_); refine box_event ?hg (N := 1) ?hd (cs := #[.int .i64 a0_0, .int .i64 a0_1, .int .i64 a0_2, .bool a0_3]) (t := 41) ?hr ?_; (case hd => rfl); (case hg => rfl); (case hr => first | (go_simp; done) | (go_simp; rfl)); intro gb212 hg w21 hbox hb; have n0_ := Aside0.mk (below_step (by repeat (first | (with_reducible first | exact HB.out | apply below_alloc | apply pw_below_drewN | apply below_drew1) | exact HB.out)) hb); have n1_ := Aside0.mk (hbox); have n2_ := Aside0.mk ((by rw [hg]; exact (below_size (by repeat (first | (with_reducible first | exact HB.out | apply below_alloc | apply pw_below_drewN | apply below_drew1) | exact HB.out))) : w.heap.size ≤ gb212)); have n3_ := Aside0.mk ((by rw [hg]; exact (below_size (by repeat (first | (with_reducible first | exact HB.out | apply below_alloc | apply pw_below_drewN | apply below_drew1) | exact HB.out))) : w.heap.size ≤ gb212)); clear HB; have HB := n0_; have BK212 := n1_; have GW212 := n2_; have GE212 := n3_; clear n0_ n1_ n2_ n3_; clear hb hbox hg; have hcz22_0 : w21.cell? ⟨gb212, 0, none⟩ = some (.int .i64 a0_0) := (blk_cell BK212.out 0).trans rfl; have hcz22_1 : w21.cell? ⟨gb212, 1, none⟩ = some (.int .i64 a0_1) := (blk_cell BK212.out 1).trans rfl; have hcz22_2 : w21.cell? ⟨gb212, 2, none⟩ = some (.int .i64 a0_2) := (blk_cell BK212.out 2).trans rfl; have hcz22_3 : w21.cell? ⟨gb212, 3, none⟩ = some (.bool a0_3) := (blk_cell BK212.out 3).trans rfl; have hfz22_0 := blk_frozen BK212.out 0; have hfz22_1 := blk_frozen BK212.out 1; have hfz22_2 := blk_frozen BK212.out 2; have hfz22_3 := blk_frozen BK212.out 3) | ((with_reducible refine gate_callee (f := 44) rfl ?_); refine goesL_ (some 39) rfl rfl Try.func44 (by kernel_rfl) rfl #[.int .i64 a0_0, .int .i64 a0_1, .int .i64 a0_2, .bool a0_3] rfl (by (try simp only [List.map_toArray, List.map_cons, List.map_nil]); first | done | rfl | (simp only [List.length_drop, List.length_take]; rfl)) ?_; (with_reducible refine (asn1_ZZPutHeader.calls k a0_0 a0_1 a0_2 a0_3 t213 _ A20.out).mono ?_); rintro e w23 ⟨v214, rfl, ho0, hb⟩; refine ⟨_, rfl, ?_⟩; have n0_ := Aside0.mk (Kd.R_lower ho0 (below_size (by repeat (first | (with_reducible first | exact HB.out | apply below_alloc | apply pw_below_drewN | apply below_drew1 | refine below_set ?_ GE212.out) | exact HB.out)))); have n1_ := Aside0.mk (blk_below (g := gb212) (o := .cells #[.int .i64 a0_0, .int .i64 a0_1, .int .i64 a0_2, .bool a0_3] 41 (0, 0)) (by (with_reducible repeat (first | refine blk_drewN ?_ _ | refine blk_drew ?_ | refine blk_alloc ?_ _)); exact BK212.out) hb); have n2_ := Aside0.mk (below_step (by repeat (first | (with_reducible first | exact HB.out | apply below_alloc | apply pw_below_drewN | apply below_drew1 | refine below_set ?_ GE212.out) | exact HB.out)) hb); clear BK212; clear HB; have HO215 := n0_; have BK212 := n1_; have HB := n2_; clear n0_ n1_ n2_; (try clear hb); (try clear hb2); (try clear hk); (try clear hi); (try clear ho0)))
              go_ret
              exact ⟨_, by first | rfl | (simp [errW_none, errW_some] <;> rfl) | (simp [*, errW_none, errW_some] <;> rfl), by (with_reducible repeat (first | apply Kd.R_alloc | apply Kd.R_drewN | apply Kd.R_drew)); exact HO215.out, by repeat (first | (with_reducible first | exact HB.out | apply below_alloc | apply pw_below_drewN | apply below_drew1 | refine below_set ?_ GE212.out) | exact HB.out)⟩

end Go.Proofs.Ytapnkngcnlomhaa.QH
