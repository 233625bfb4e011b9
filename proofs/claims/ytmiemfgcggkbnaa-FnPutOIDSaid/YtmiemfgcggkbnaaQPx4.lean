-- Written by a program of this work (wip/patch_print.py) for this claim.
import Derived.Test.YtmiemfgcggkbnaaQPx0
import Derived.Test.YtmiemfgcggkbnaaQPx2
import Derived.Test.YtmiemfgcggkbnaaQPx3
namespace Go.Proofs.Ytmiemfgcggkbnaa.QP
open Go.RowKit Go.Proofs.YtmiemfgcggkbnaaW.PrintWords Go.Proofs.YtmiemfgcggkbnaaW.PrintLast Go.Proofs.YtmiemfgcggkbnaaW.PrintMore
attribute [local go_sem] max2_int min2_int max_two min_two max_three min_three max_four min_four   -- for this text's walks alone
set_option linter.unusedVariables false
set_option linter.unusedSimpArgs false

/-! ### spec_PutIdentifier: function 23 -/
def spec_PutIdentifier.l0 : Nat → List Int → List Int → Int → Int → Option (List Int)
  | 0, _, _, _, _ => none
  | k + 1, x3, x16, x17, x18 => if x18 < x17 then (if 0 ≤ x18 then (if x18 < (x16.length : Int) then ((spec_Put128.f k (rd x16 x18)).bind fun t195 => (if x3.length + t195.length < 140737488355328 then (spec_PutIdentifier.l0 k (x3 ++ t195) x16 x17 (wrap64 (x18 + 1))) else (none))) else (none)) else (none)) else (some x3)
def spec_PutIdentifier.f (k : Nat) (l0 : List Int) : Option (List Int) := if 0 < (l0.length : Int) then (if 1 < (l0.length : Int) then ((spec_Put128.f k (wrap64 ((wrap64 (40 * (rd l0 0))) + (rd l0 1)))).bind fun t190 => (if 2 ≤ (l0.length : Int) then (spec_PutIdentifier.l0 k t190 (l0.drop 2) ((l0.drop 2).length : Int) 0) else (none))) else (none)) else (none)
theorem spec_PutIdentifier.mono_l : ∀ k, (∀ y0 y1 y2 y3, LeO (spec_PutIdentifier.l0 k y0 y1 y2 y3) (spec_PutIdentifier.l0 (k + 1) y0 y1 y2 y3))
  | 0 => fun _ _ _ _ r h => by simp [spec_PutIdentifier.l0] at h
  | k + 1 => by
    have ih0 := spec_PutIdentifier.mono_l k
    · intro y0 y1 y2 y3
      unfold spec_PutIdentifier.l0
      repeat' first
      | (with_reducible exact ih0 _ _ _ _)
      | (with_reducible exact spec_Put128.mono _ _)
      | (with_reducible exact LeO.refl _)
      | (with_reducible exact LeO.none _)
      | (with_reducible refine LeO.ite ?_ ?_)
      | (with_reducible refine LeO.bind ?_ (fun _ => ?_))
      | exact ih0 _ _ _ _
      | exact spec_Put128.mono _ _
      | exact LeO.none _
      | refine LeO.ite ?_ ?_
      | refine LeO.bind ?_ (fun _ => ?_)
theorem spec_PutIdentifier.mono : ∀ a0 k, LeO (spec_PutIdentifier.f k a0) (spec_PutIdentifier.f (k + 1) a0) := by
  intro a0 k
  have ih0 := spec_PutIdentifier.mono_l k
  unfold spec_PutIdentifier.f
  repeat' first
      | (with_reducible exact ih0 _ _ _ _)
      | (with_reducible exact spec_Put128.mono _ _)
      | (with_reducible exact LeO.refl _)
      | (with_reducible exact LeO.none _)
      | (with_reducible refine LeO.ite ?_ ?_)
      | (with_reducible refine LeO.bind ?_ (fun _ => ?_))
      | exact ih0 _ _ _ _
      | exact spec_Put128.mono _ _
      | exact LeO.none _
      | refine LeO.ite ?_ ?_
      | refine LeO.bind ?_ (fun _ => ?_)
def spec_PutIdentifier.T1 : Bool × List (List Nat × List Nat) := (true, [([], []), ([0], [0]), ([1], [1]), ([2], [2]), ([], []), ([4], [4]), ([5], [5]), ([3, 6], [3, 6]), ([7], [7]), ([8, 8, 0, 1, 2, 3, 4, 5, 6, 7, 8], [8])])
def spec_PutIdentifier.B1 : List Nat := [0, 1, 3, 7, 0, 16, 48, 127, 255, 511]
theorem spec_PutIdentifier.tab1 : rtab .any (opsOf Try.f23 1) = spec_PutIdentifier.T1 := by kernel_rfl
theorem spec_PutIdentifier.bits1 : waitsOk spec_PutIdentifier.T1.2 spec_PutIdentifier.B1 = true := by kernel_rfl
set_option maxHeartbeats 8000000 in
set_option maxRecDepth 100000 in
theorem spec_PutIdentifier.calls (k : Nat) (A0 : Option Addr) (c0 : Nat) (l0 : List Int) (r : List Int) (w : World) (hr0 : Kd.C (Kd.int .i64) w A0 l0.length l0) (hc0 : l0.length ≤ c0) (h : spec_PutIdentifier.f k l0 = some r) :
    Calls Try.prog 23 #[.slice A0 l0.length c0] w fun e w' => ∃ v0_ : Value, e = .returned (v0_) ∧ Kd.R (Kd.int .u8) 5 w' w.heap.size (fun _ => True) v0_ r ∧ Below w.heap.size w w' := by
  have HR0 := Aside0.mk hr0
  have HC0 := Aside0.mk hc0
  clear hr0 hc0
  have HB := Aside0.mk (Below.refl w.heap.size w)
  have H : (if 0 < (l0.length : Int) then (if 1 < (l0.length : Int) then ((spec_Put128.f k (wrap64 ((wrap64 (40 * (rd l0 0))) + (rd l0 1)))).bind fun t190 => (if 2 ≤ (l0.length : Int) then (spec_PutIdentifier.l0 k t190 (l0.drop 2) ((l0.drop 2).length : Int) 0) else (none))) else (none)) else (none)) = some r := h
  clear h
  by_cases c2 : 0 < (l0.length : Int)
  · rw [if_pos c2] at H
    have c2b0 : decide (0 < (l0.length : Int)) = true := decide_eq_true c2
    have c2b1 : decide (0 < l0.length) = true := decide_eq_true (by omega)
    clear c2
    by_cases c3 : 1 < (l0.length : Int)
    · rw [if_pos c3] at H
      have c3b0 : decide (1 < (l0.length : Int)) = true := decide_eq_true c3
      have c3b1 : decide (1 < l0.length) = true := decide_eq_true (by omega)
      clear c3
      replace H := Option.bind_eq_some_iff.mp H
      obtain ⟨t190, A40, H⟩ := H
      replace H : (if 2 ≤ (l0.length : Int) then (spec_PutIdentifier.l0 k t190 (l0.drop 2) ((l0.drop 2).length : Int) 0) else (none)) = some r := H
      have A4 := Aside0.mk A40
      clear A40
      by_cases c5 : 2 ≤ (l0.length : Int)
      · rw [if_pos c5] at H
        have c5b0 := eq_true c5
        have c5b1 : decide (2 ≤ (l0.length : Int)) = true := decide_eq_true c5
        clear c5
        have H' := Aside0.mk H
        clear H
        go_enter Try.func23, Try.ntmps23
        try go_wp2
        have n0_ := Aside0.mk (below_drew1 HB.out)
        clear HB
        have HB := n0_
        clear n0_
        have p188 : 0 ≤ (0 : Int) := (by omega)
        have q188 : 0 < (l0.length : Int) := of_decide_eq_true (by first | (with_reducible assumption) | assumption)
        obtain ⟨ad188, e188, hx188_0⟩ := Kd.at_int HR0.out 0 p188 q188
        have hw188_0 := hx188_0
        (try rw [show ((0 : Int)).toNat = 0 from rfl] at hw188_0)
        (try rw [show 0 * 1 = 0 from rfl] at hw188_0)
        (try rw [Addr.add_zero'] at hw188_0)
        cases e188
        have qi188 : (0 < l0.length) = True := eq_true (by omega)
        (try rw [show ((0 : Int)).toNat = 0 from rfl] at hx188_0)
        (try rw [Addr.add_zero'] at hx188_0)
        replace hx188_0 := (HB.out.cell (World.block_lt_of_cell? w _ hx188_0)).trans hx188_0
        replace p188 := eq_true p188
        replace q188 := eq_true q188
        have p189 : 0 ≤ (1 : Int) := (by omega)
        have q189 : 1 < (l0.length : Int) := of_decide_eq_true (by first | (with_reducible assumption) | assumption)
        obtain ⟨ad189, e189, hx189_0⟩ := Kd.at_int HR0.out 1 p189 q189
        have hw189_0 := hx189_0
        (try rw [show ((1 : Int)).toNat = 1 from rfl] at hw189_0)
        (try rw [show 1 * 1 = 1 from rfl] at hw189_0)
        (try simp only [Nat.reduceMul, Nat.reduceEqDiff, Go.Addr.add, ↓reduceIte] at hw189_0)
        obtain rfl : ad188 = ad189 := (by injection e189)
        (try simp only [show (1 : Int).toNat = 1 from rfl, Nat.reduceMul, Nat.reduceEqDiff, Go.Addr.add, ↓reduceIte] at hx189_0)
        have qi189 : (1 < l0.length) = True := eq_true (by omega)
        (try rw [show ((1 : Int)).toNat = 1 from rfl] at hx189_0)
        replace hx189_0 := (HB.out.cell (World.block_lt_of_cell? w _ hx189_0)).trans hx189_0
        replace p189 := eq_true p189
        replace q189 := eq_true q189
        refine start_ (n := 10) (S := fun w' => w'.cell? ad188 = some (.int .i64 (rd l0 0)) ∧ w'.cell? ⟨ad188.block, ad188.off + 1, none⟩ = some (.int .i64 (rd l0 1))) (ds := []) #[false, false, false, false, false, false, false, false, false, false] (by kernel_rfl) rfl rfl ⟨((HB.out.cell (World.block_lt_of_cell? w _ hw188_0)).trans hw188_0), ((HB.out.cell (World.block_lt_of_cell? w _ hw189_0)).trans hw189_0)⟩ (fun hHeld => ?_); refine with_tabW spec_PutIdentifier.tab1 spec_PutIdentifier.bits1 (fun HT_ HW_ => ?_)
        generalize w.drew = w6 at HB hx188_0 hx189_0 hHeld ⊢
        refine pure_ (i := 0) (N := some 6) (v := ?_) (a' := ?_) #[true, false, false, false, false, false, false, false, false, false] rfl rfl (any_of HT_.out (by kernel_rfl)) (fun _ _ _ h => h) (Or.inl ⟨by rfl, ?_⟩) ?_ ?_
        rotate_left
        · intro w'
          go_simp
          with_reducible rfl
        rotate_left
        · simp only [Act.put, List.setIfInBounds_toArray, List.set_cons_zero, List.set_cons_succ, i64_w, i32_w]
          rfl
        refine pure_ (i := 1) (N := some 7) (v := ?_) (a' := ?_) #[true, true, false, false, false, false, false, false, false, false] rfl rfl (any_of HT_.out (by kernel_rfl)) (fun _ _ _ h => h) (Or.inl ⟨by rfl, ?_⟩) ?_ ?_
        rotate_left
        · intro w'
          go_simp
          with_reducible rfl
        rotate_left
        · simp only [Act.put, List.setIfInBounds_toArray, List.set_cons_zero, List.set_cons_succ, i64_w, i32_w]
          rfl
        refine pure_ (i := 4) (N := some 10) (v := ?_) (a' := ?_) #[true, true, false, false, true, false, false, false, false, false] rfl rfl (any_of HT_.out (by kernel_rfl)) (fun _ _ _ h => h) (Or.inl ⟨by rfl, ?_⟩) ?_ ?_
        rotate_left
        · intro w'
          go_simp
          with_reducible rfl
        rotate_left
        · simp only [Act.put, List.setIfInBounds_toArray, List.set_cons_zero, List.set_cons_succ, i64_w, i32_w]
          rfl
        refine pure_ (i := 5) (N := some 11) (v := ?_) (a' := ?_) #[true, true, false, false, true, true, false, false, false, false] rfl rfl (any_of HT_.out (by kernel_rfl)) (fun _ _ _ h => h) (Or.inl ⟨by rfl, ?_⟩) ?_ ?_
        rotate_left
        · intro w'
          go_simp
          with_reducible rfl
        rotate_left
        · simp only [Act.put, List.setIfInBounds_toArray, List.set_cons_zero, List.set_cons_succ, i64_w, i32_w]
          rfl
        refine take_ (i := 2) (N := some 8) (v := ?_) (a' := ?_) #[true, true, true, false, true, true, false, false, false, false] rfl rfl (take_ofW HT_.out HW_.out (by kernel_rfl)) (fun _ _ _ h => h) (Or.inl ⟨by rfl, ?_⟩) hHeld ?_ ?_
        rotate_left
        · rintro w' ⟨s0, s1⟩
          go_simp
          with_reducible rfl
        rotate_left
        · simp only [Act.put, List.setIfInBounds_toArray, List.set_cons_zero, List.set_cons_succ, i64_w, i32_w]
          rfl
        refine pure_ (i := 3) (N := some 9) (v := ?_) (a' := ?_) #[true, true, true, true, true, true, false, false, false, false] rfl rfl (any_of HT_.out (by kernel_rfl)) (fun _ _ _ h => h) (Or.inl ⟨by rfl, ?_⟩) ?_ ?_
        rotate_left
        · intro w'
          go_simp
          with_reducible rfl
        rotate_left
        · simp only [Act.put, List.setIfInBounds_toArray, List.set_cons_zero, List.set_cons_succ, i64_w, i32_w]
          rfl
        refine take_ (i := 6) (N := some 12) (v := ?_) (a' := ?_) #[true, true, true, true, true, true, true, false, false, false] rfl rfl (take_ofW HT_.out HW_.out (by kernel_rfl)) (fun _ _ _ h => h) (Or.inl ⟨by rfl, ?_⟩) hHeld ?_ ?_
        rotate_left
        · rintro w' ⟨s0, s1⟩
          go_simp
          with_reducible rfl
        rotate_left
        · simp only [Act.put, List.setIfInBounds_toArray, List.set_cons_zero, List.set_cons_succ, i64_w, i32_w]
          rfl
        refine pure_ (i := 7) (N := some 13) (v := ?_) (a' := ?_) #[true, true, true, true, true, true, true, true, false, false] rfl rfl (any_of HT_.out (by kernel_rfl)) (fun _ _ _ h => h) (Or.inl ⟨by rfl, ?_⟩) ?_ ?_
        rotate_left
        · intro w'
          go_simp
          with_reducible rfl
        rotate_left
        · simp only [Act.put, List.setIfInBounds_toArray, List.set_cons_zero, List.set_cons_succ, i64_w, i32_w]
          rfl
        refine one_ (i := 8) (N := some 14) #[true, true, true, true, true, true, true, true, true, false] rfl rfl (one_of HT_.out (by kernel_rfl)) (by decide) (fun K hK => ?_)
        refine goes_ Try.func50 (by kernel_rfl) rfl #[.int .i64 (wrap64 ((wrap64 (40 * (rd l0 0))) + (rd l0 1)))] (by rfl) rfl rfl (by (try simp only [List.map_toArray, List.map_cons, List.map_nil]); first | done | rfl | (simp only [List.length_drop, List.length_take]; rfl)) ?_
        with_reducible refine (spec_Put128.calls k (wrap64 ((wrap64 (40 * (rd l0 0))) + (rd l0 1))) t190 _ A4.out).mono ?_
        rintro e w7 ⟨v191, rfl, ho0, hb⟩
        refine ⟨_, rfl, ?_⟩
        have n0_ := Aside0.mk (Kd.R_lower ho0 (below_size (by repeat (first | (with_reducible first | exact HB.out | apply below_alloc | apply pw_below_drewN | apply below_drew1) | exact HB.out))))
        have n1_ := Aside0.mk (below_step (by repeat (first | (with_reducible first | exact HB.out | apply below_alloc | apply pw_below_drewN | apply below_drew1) | exact HB.out)) hb)
        clear HB
        have HO192 := n0_
        have HB := n1_
        clear n0_ n1_
        (try clear hb)
        (try clear hb2)
        (try clear hk)
        (try clear hi)
        (try clear ho0)
        refine hK.out _ _ ⟨((HB.out.cell (World.block_lt_of_cell? w _ hw188_0)).trans hw188_0), ((HB.out.cell (World.block_lt_of_cell? w _ hw189_0)).trans hw189_0)⟩ (fun hHeld => ?_)
        clear hK K
        refine norm_ (a' := ?_) ?_ ?_
        rotate_left
        · show Act.put _ (some 14) _ = _
          simp only [Act.put, List.setIfInBounds_toArray, List.set_cons_zero, List.set_cons_succ, i64_w, i32_w]
          rfl
        refine pure_ (i := 9) (N := some 3) (v := ?_) (a' := ?_) #[true, true, true, true, true, true, true, true, true, true] rfl rfl (any_of HT_.out (by kernel_rfl)) (fun _ _ _ h => h) (Or.inl ⟨by rfl, ?_⟩) ?_ ?_
        rotate_left
        · intro w'
          go_simp
          with_reducible rfl
        rotate_left
        · simp only [Act.put, List.setIfInBounds_toArray, List.set_cons_zero, List.set_cons_succ, i64_w, i32_w]
          rfl
        refine done_ (done_of HT_.out (by kernel_rfl)) ?_
        obtain ⟨i08, hi08, _, hsz8, _⟩ := info_parts info3
        obtain ⟨A8, hcut8, hA8, hC8⟩ := print_drop_of (P := Try.prog) (Value.int .i64) 0 35 3 .i64 Try.underlying35 hi08 hsz8 (some ad188) c0 l0 2 (by omega) (of_decide_eq_true (by first | (with_reducible assumption) | assumption)) HC0.out
        have HR193 := Aside0.mk (Kd.C_of_reads (h1 := fun _ => rfl) (hA8 _ (Kd.reads_of_C HR0.out)))
        have HC193 := Aside0.mk hC8
        clear hA8 hC8 hi08 hsz8
        try go_wp2
        go_loopg [3, 18] k (fun kq v3 v18 w' => ∃ (x3_1 : List Int) (x18_1 : Int), v18 = .int .i64 x18_1 ∧ Aside0 (spec_PutIdentifier.l0 kq x3_1 (l0.drop 2) ((l0.drop 2).length : Int) x18_1 = some r) ∧ Aside0 (kq ≤ k) ∧ Aside0 (Kd.R (Kd.int .u8) 5 w' w.heap.size (fun _ => True) v3 x3_1) ∧ Aside0 (Below w.heap.size w w'))
        case atStart => exact ⟨(t190), (0), (by first | rfl | (simp; done) | (simp [*]; done)), H', ⟨Nat.le_refl _⟩, ⟨by (with_reducible repeat (first | apply Kd.R_alloc | apply Kd.R_drewN | apply Kd.R_drew)); exact HO192.out⟩, ⟨by repeat (first | (with_reducible first | exact HB.out | apply below_alloc | apply pw_below_drewN | apply below_drew1) | exact HB.out)⟩⟩
        case round =>
          clear H'
          try clear p1
          try clear q1
          try clear hx1
          try clear qi1
          try clear c2
          try clear c2b0
          try clear c2b1
          try clear p2
          try clear c3
          try clear c3b0
          try clear c3b1
          try clear c5
          try clear c5b0
          try clear c5b1
          try clear p6
          try clear hx188_0
          try clear hx189_0
          try clear p188
          try clear p189
          try clear q188
          try clear q189
          obtain ⟨x3_1, x18_1, rfl, HA, HK1, HO_3, HB⟩ := hrel
          cases gk with
          | zero => exact absurd HA.out (by simp [spec_PutIdentifier.l0])
          | succ k1 =>
            have H := HA.out
            clear HA
            simp only [spec_PutIdentifier.l0] at H
            by_cases c9 : x18_1 < ((l0.drop 2).length : Int)
            · rw [if_pos c9] at H
              have c9b0 : decide (x18_1 < ((l0.drop 2).length : Int)) = true := decide_eq_true c9
              have c9b9 : decide (x18_1 < ((l0.length - 2 : Nat) : Int)) = true := by rw [← List.length_drop]; exact c9b0
              clear c9
              by_cases c10 : 0 ≤ x18_1
              · rw [if_pos c10] at H
                have c10b0 : decide (0 ≤ x18_1) = true := decide_eq_true c10
                clear c10
                by_cases c11 : x18_1 < ((l0.drop 2).length : Int)
                · rw [if_pos c11] at H
                  have c11b0 : decide (x18_1 < ((l0.drop 2).length : Int)) = true := decide_eq_true c11
                  have c11b9 : decide (x18_1 < ((l0.length - 2 : Nat) : Int)) = true := by rw [← List.length_drop]; exact c11b0
                  clear c11
                  replace H := Option.bind_eq_some_iff.mp H
                  obtain ⟨t195, A120, H⟩ := H
                  replace H : (if x3_1.length + t195.length < 140737488355328 then (spec_PutIdentifier.l0 k1 (x3_1 ++ t195) (l0.drop 2) ((l0.drop 2).length : Int) (wrap64 (x18_1 + 1))) else (none)) = some r := H
                  have A12 := Aside0.mk A120
                  clear A120
                  by_cases c13 : x3_1.length + t195.length < 140737488355328
                  · rw [if_pos c13] at H
                    have LMc13 := Aside0.mk c13
                    clear c13
                    obtain ⟨y198, hy198⟩ : ∃ y_ : List Int, y_ = (x3_1 ++ t195) := ⟨_, rfl⟩
                    replace H : (spec_PutIdentifier.l0 k1 y198 (l0.drop 2) ((l0.drop 2).length : Int) (wrap64 (x18_1 + 1))) = some r := by first | (rw [hy198]; with_reducible exact H) | (have H2_ := (Option.bind_some _ _).symm.trans H; rw [hy198]; with_reducible exact H2_) | (have H2_ := (Option.bind_some _ _).symm.trans H; with_reducible exact H2_) | with_reducible exact H | (rw [hy198]; exact H) | exact H
                    have Ny198 := Aside0.mk hy198
                    clear hy198
                    have H' := Aside0.mk H
                    clear H
                    have p194 : 0 ≤ (x18_1 : Int) := of_decide_eq_true (by first | (with_reducible assumption) | assumption)
                    have q194 : x18_1 < ((l0.drop 2).length : Int) := of_decide_eq_true (by first | (with_reducible assumption) | assumption)
                    obtain ⟨ad194, e194, hx194_0⟩ := Kd.at_int HR193.out x18_1 p194 q194
                    cases e194
                    replace hx194_0 := (HB.out.cell (World.block_lt_of_cell? w _ hx194_0)).trans hx194_0
                    replace p194 := eq_true p194
                    have q194z : (x18_1 < ((l0.length - 2 : Nat) : Int)) = True := eq_true (by rw [← List.length_drop]; exact q194)
                    replace q194 := eq_true q194
                    go_wp2_with (first | ((with_reducible refine gate_callee (f := 50) rfl ?_); refine goesL_ (some 24) rfl rfl Try.func50 (by kernel_rfl) rfl #[.int .i64 (rd (l0.drop 2) x18_1)] rfl (by (try simp only [List.map_toArray, List.map_cons, List.map_nil]); first | done | rfl | (simp only [List.length_drop, List.length_take]; rfl)) ?_; (with_reducible refine (spec_Put128.calls k1 (rd (l0.drop 2) x18_1) t195 _ A12.out).mono ?_); rintro e w14 ⟨v196, rfl, ho0, hb⟩; refine ⟨_, rfl, ?_⟩; have n0_ := Aside0.mk (Kd.R_elder' (by (with_reducible repeat (first | apply Kd.R_alloc | apply Kd.R_drewN | apply Kd.R_drew)); exact HO_3.out) (Kd.R_base ho0) hb); have n1_ := Aside0.mk (Kd.R_lower (Kd.R_new' ho0 (Kd.R_lt (by (with_reducible repeat (first | apply Kd.R_alloc | apply Kd.R_drewN | apply Kd.R_drew)); exact HO_3.out))) (below_size (by repeat (first | (with_reducible first | exact HB.out | apply below_alloc | apply pw_below_drewN | apply below_drew1) | exact HB.out)))); have n2_ := Aside0.mk (below_step (by repeat (first | (with_reducible first | exact HB.out | apply below_alloc | apply pw_below_drewN | apply below_drew1) | exact HB.out)) hb); clear HO_3; clear HB; have HO_3 := n0_; have HO197 := n1_; have HB := n2_; clear n0_ n1_ n2_; (try clear hb); (try clear hb2); (try clear hk); (try clear hi); (try clear ho0); obtain ⟨Ao16, co16, eo16⟩ := Kd.R_slice HO197.out; subst eo16) | ((with_reducible refine gate_builtin (b := .append) (xs := #[.tmp 22, .tmp 24]) rfl ?_); at_builtin; refine Kd.R_append_rows (Kd.int .u8) (w0 := w) w.heap.size rfl (.tmp 22) (.tmp 24) 25 5 (.int .u8 0) 1 rfl Try.underlying25 info5 rfl (by decide) (by omega) u3 x3_1 t195 _ _ _ (fun k_ => some k_ ≠ (.slice Ao16 t195.length co16 : Value).ownBlock) (fun _ => False) rfl rfl ?aO ?aR (fun _ _ h => h) (fun _ h => h.elim) ?aF ?aB ?aS ?aL ?_; (case aR => repeat (first | exact (Kd.R_reads' HO197.out).2.2 | (with_reducible refine Kd.C_alloc ?_ _) | (with_reducible refine Kd.C_drewN ?_ _) | (with_reducible refine Kd.C_drew ?_))); (case aB => exact (by repeat (first | (with_reducible first | exact HB.out | apply below_alloc | apply pw_below_drewN | apply below_drew1) | exact HB.out))); (case aF => exact (fun k_ hk => Kd.fresh' (Kd.R_lt (by (with_reducible repeat (first | apply Kd.R_alloc | apply Kd.R_drewN | apply Kd.R_drew)); exact HO197.out)) k_ hk)); (case aO => exact (by (with_reducible repeat (first | apply Kd.R_alloc | apply Kd.R_drewN | apply Kd.R_drew)); exact Kd.R_mono HO_3.out (fun _ hk => hk.2))); (case aS => exact (below_size (by repeat (first | (with_reducible first | exact HB.out | apply below_alloc | apply pw_below_drewN | apply below_drew1) | exact HB.out)))); (case aL => have := LMc13.out; omega); intro v199 w15 ho hb hg hat; rw [← Ny198.out] at ho; have n0_ := Aside0.mk (Kd.R_after (ok := (fun _ => True)) (by (with_reducible repeat (first | apply Kd.R_alloc | apply Kd.R_drewN | apply Kd.R_drew)); exact HO197.out) hg hat); have n1_ := Aside0.mk (hb); have n2_ := Aside0.mk (ho); clear HO197; clear HB; clear HO_3; have HO197 := n0_; have HB := n1_; have HO200 := n2_; clear n0_ n1_ n2_; clear ho hb hg hat))
                    go_roundg k1
                    case measure => have := HK1.out; omega
                    case rel => exact ⟨(y198), (wrap64 (x18_1 + 1)), (by first | rfl | (simp; done) | (simp [*]; done)), H', ⟨by have := HK1.out; omega⟩, ⟨by (with_reducible repeat (first | apply Kd.R_alloc | apply Kd.R_drewN | apply Kd.R_drew)); exact Kd.R_mono HO200.out (fun _ hk => trivial)⟩, ⟨by repeat (first | (with_reducible first | exact HB.out | apply below_alloc | apply pw_below_drewN | apply below_drew1) | exact HB.out)⟩⟩
                  · rw [if_neg c13] at H
                    exact absurd H (by simp)
                · rw [if_neg c11] at H
                  exact absurd H (by simp)
              · rw [if_neg c10] at H
                exact absurd H (by simp)
            · rw [if_neg c9] at H
              have c9b0 : decide (x18_1 < ((l0.drop 2).length : Int)) = false := decide_eq_false c9
              have c9b9 : decide (x18_1 < ((l0.length - 2 : Nat) : Int)) = false := by rw [← List.length_drop]; exact c9b0
              clear c9
              obtain rfl := Option.some.inj H
              go_wp2
              go_ret
              exact ⟨_, by first | rfl | (simp [errW_none, errW_some] <;> rfl) | (simp [*, errW_none, errW_some] <;> rfl), by (with_reducible repeat (first | apply Kd.R_alloc | apply Kd.R_drewN | apply Kd.R_drew)); exact HO_3.out, by repeat (first | (with_reducible first | exact HB.out | apply below_alloc | apply pw_below_drewN | apply below_drew1) | exact HB.out)⟩
      · rw [if_neg c5] at H
        exact absurd H (by simp)
    · rw [if_neg c3] at H
      exact absurd H (by simp)
  · rw [if_neg c2] at H
    exact absurd H (by simp)

/-! ### slices_Equal_int_int: function 24 -/
def slices_Equal_int_int.l0 : Nat → List Int → List Int → Int → Int → Option (Bool)
  | 0, _, _, _, _ => none
  | k + 1, x0, x1, x12, x13 => if x13 < x12 then (if 0 ≤ x13 then (if x13 < (x0.length : Int) then (if x13 < (x1.length : Int) then (if (rd x0 x13) = (rd x1 x13) then (slices_Equal_int_int.l0 k x0 x1 x12 (wrap64 (x13 + 1))) else (some false)) else (none)) else (none)) else (none)) else (some true)
def slices_Equal_int_int.f (k : Nat) (l0 : List Int) (l1 : List Int) : Option (Bool) := if (l0.length : Int) = (l1.length : Int) then (slices_Equal_int_int.l0 k l0 l1 (l0.length : Int) 0) else (some false)
theorem slices_Equal_int_int.mono_l : ∀ k, (∀ y0 y1 y2 y3, LeO (slices_Equal_int_int.l0 k y0 y1 y2 y3) (slices_Equal_int_int.l0 (k + 1) y0 y1 y2 y3))
  | 0 => fun _ _ _ _ r h => by simp [slices_Equal_int_int.l0] at h
  | k + 1 => by
    have ih0 := slices_Equal_int_int.mono_l k
    · intro y0 y1 y2 y3
      unfold slices_Equal_int_int.l0
      repeat' first
      | (with_reducible exact ih0 _ _ _ _)
      | (with_reducible exact LeO.refl _)
      | (with_reducible exact LeO.none _)
      | (with_reducible refine LeO.ite ?_ ?_)
      | (with_reducible refine LeO.bind ?_ (fun _ => ?_))
      | exact ih0 _ _ _ _
      | exact LeO.none _
      | refine LeO.ite ?_ ?_
      | refine LeO.bind ?_ (fun _ => ?_)
theorem slices_Equal_int_int.mono : ∀ a0 a1 k, LeO (slices_Equal_int_int.f k a0 a1) (slices_Equal_int_int.f (k + 1) a0 a1) := by
  intro a0 a1 k
  have ih0 := slices_Equal_int_int.mono_l k
  unfold slices_Equal_int_int.f
  repeat' first
      | (with_reducible exact ih0 _ _ _ _)
      | (with_reducible exact LeO.refl _)
      | (with_reducible exact LeO.none _)
      | (with_reducible refine LeO.ite ?_ ?_)
      | (with_reducible refine LeO.bind ?_ (fun _ => ?_))
      | exact ih0 _ _ _ _
      | exact LeO.none _
      | refine LeO.ite ?_ ?_
      | refine LeO.bind ?_ (fun _ => ?_)
set_option maxHeartbeats 8000000 in
set_option maxRecDepth 100000 in
theorem slices_Equal_int_int.calls (k : Nat) (A0 : Option Addr) (c0 : Nat) (l0 : List Int) (A1 : Option Addr) (c1 : Nat) (l1 : List Int) (r : Bool) (w : World) (hr0 : Kd.C (Kd.int .i64) w A0 l0.length l0) (hc0 : l0.length ≤ c0) (hr1 : Kd.C (Kd.int .i64) w A1 l1.length l1) (hc1 : l1.length ≤ c1) (h : slices_Equal_int_int.f k l0 l1 = some r) :
    Calls Try.prog 24 #[.slice A0 l0.length c0, .slice A1 l1.length c1] w fun e w' => e = .returned (.bool r) ∧ Drawn0 w w' := by
  have HR0 := Aside0.mk hr0
  have HC0 := Aside0.mk hc0
  clear hr0 hc0
  have HR1 := Aside0.mk hr1
  have HC1 := Aside0.mk hc1
  clear hr1 hc1
  have H : (if (l0.length : Int) = (l1.length : Int) then (slices_Equal_int_int.l0 k l0 l1 (l0.length : Int) 0) else (some false)) = some r := h
  clear h
  by_cases c3 : (l0.length : Int) = (l1.length : Int)
  · rw [if_pos c3] at H
    have c3b0 : ((l0.length : Int) == (l1.length : Int)) = true := beq_iff_eq.mpr c3
    have c3b1 : ((l0.length : Int) != (l1.length : Int)) = false := bne_eq_false_iff_eq.mpr c3
    have c3b2 : (l0.length == l1.length) = true := by first | simpa using c3 | (simp at c3 ⊢; omega)
    clear c3
    have H' := Aside0.mk H
    clear H
    go_enter Try.func24, Try.ntmps24
    go_wp2
    repeat (go_quiet (fail); try go_wp2)
    go_loopg [13] k (fun kq v13 w' => ∃ (x13_1 : Int), v13 = .int .i64 x13_1 ∧ Aside0 (slices_Equal_int_int.l0 kq l0 l1 (l0.length : Int) x13_1 = some r) ∧ Aside0 (kq ≤ k) ∧ Drawn0 w w')
    case atStart => exact ⟨(0), (by first | rfl | (simp; done) | (simp [*]; done)), H', ⟨Nat.le_refl _⟩, by repeat (first | exact Drawn0.refl _ | apply Drawn0.step)⟩
    case round =>
      clear H'
      try clear c1
      try clear c2
      try clear p2
      try clear c3
      try clear c3b0
      try clear c3b1
      try clear c3b2
      obtain ⟨x13_1, rfl, HA, HK1, ⟨m1, rfl⟩⟩ := hrel
      cases gk with
      | zero => exact absurd HA.out (by simp [slices_Equal_int_int.l0])
      | succ k1 =>
        have H := HA.out
        clear HA
        simp only [slices_Equal_int_int.l0] at H
        by_cases c4 : x13_1 < (l0.length : Int)
        · rw [if_pos c4] at H
          have c4b0 : decide (x13_1 < (l0.length : Int)) = true := decide_eq_true c4
          clear c4
          by_cases c5 : 0 ≤ x13_1
          · rw [if_pos c5] at H
            have c5b0 : decide (0 ≤ x13_1) = true := decide_eq_true c5
            clear c5
            by_cases c6 : x13_1 < (l0.length : Int)
            · rw [if_pos c6] at H
              have c6b0 : decide (x13_1 < (l0.length : Int)) = true := decide_eq_true c6
              clear c6
              by_cases c7 : x13_1 < (l1.length : Int)
              · rw [if_pos c7] at H
                have c7b0 : decide (x13_1 < (l1.length : Int)) = true := decide_eq_true c7
                clear c7
                by_cases c8 : (rd l0 x13_1) = (rd l1 x13_1)
                · rw [if_pos c8] at H
                  have c8b0 : ((rd l0 x13_1) == (rd l1 x13_1)) = true := beq_iff_eq.mpr c8
                  have c8b1 : ((rd l0 x13_1) != (rd l1 x13_1)) = false := bne_eq_false_iff_eq.mpr c8
                  clear c8
                  have H' := Aside0.mk H
                  clear H
                  have p201 : 0 ≤ (x13_1 : Int) := of_decide_eq_true (by first | (with_reducible assumption) | assumption)
                  have q201 : x13_1 < (l0.length : Int) := of_decide_eq_true (by first | (with_reducible assumption) | assumption)
                  obtain ⟨ad201, e201, hx201_0⟩ := Kd.at_int HR0.out x13_1 p201 q201
                  cases e201
                  replace p201 := eq_true p201
                  replace q201 := eq_true q201
                  have p202 : 0 ≤ (x13_1 : Int) := of_decide_eq_true (by first | (with_reducible assumption) | assumption)
                  have q202 : x13_1 < (l1.length : Int) := of_decide_eq_true (by first | (with_reducible assumption) | assumption)
                  obtain ⟨ad202, e202, hx202_0⟩ := Kd.at_int HR1.out x13_1 p202 q202
                  cases e202
                  replace p202 := eq_true p202
                  replace q202 := eq_true q202
                  go_wp2
                  repeat (go_quiet (fail); try go_wp2)
                  go_roundg k1
                  case measure => have := HK1.out; omega
                  case rel => exact ⟨(wrap64 (x13_1 + 1)), (by first | rfl | (simp; done) | (simp [*]; done)), H', ⟨by have := HK1.out; omega⟩, by repeat (first | exact Drawn0.refl _ | apply Drawn0.step)⟩
                · rw [if_neg c8] at H
                  have c8b0 : ((rd l0 x13_1) == (rd l1 x13_1)) = false := beq_eq_false_iff_ne.mpr c8
                  have c8b1 : ((rd l0 x13_1) != (rd l1 x13_1)) = true := bne_iff_ne.mpr c8
                  obtain rfl := Option.some.inj H
                  have p201 : 0 ≤ (x13_1 : Int) := of_decide_eq_true (by first | (with_reducible assumption) | assumption)
                  have q201 : x13_1 < (l0.length : Int) := of_decide_eq_true (by first | (with_reducible assumption) | assumption)
                  obtain ⟨ad201, e201, hx201_0⟩ := Kd.at_int HR0.out x13_1 p201 q201
                  cases e201
                  replace p201 := eq_true p201
                  replace q201 := eq_true q201
                  have p202 : 0 ≤ (x13_1 : Int) := of_decide_eq_true (by first | (with_reducible assumption) | assumption)
                  have q202 : x13_1 < (l1.length : Int) := of_decide_eq_true (by first | (with_reducible assumption) | assumption)
                  obtain ⟨ad202, e202, hx202_0⟩ := Kd.at_int HR1.out x13_1 p202 q202
                  cases e202
                  replace p202 := eq_true p202
                  replace q202 := eq_true q202
                  go_wp2
                  repeat (go_quiet (fail); try go_wp2)
                  go_ret
                  exact ⟨by first | rfl | (simp; done) | (simp [*]; done), by repeat (first | exact Drawn0.refl _ | apply Drawn0.step)⟩
              · rw [if_neg c7] at H
                exact absurd H (by simp)
            · rw [if_neg c6] at H
              exact absurd H (by simp)
          · rw [if_neg c5] at H
            exact absurd H (by simp)
        · rw [if_neg c4] at H
          have c4b0 : decide (x13_1 < (l0.length : Int)) = false := decide_eq_false c4
          clear c4
          obtain rfl := Option.some.inj H
          go_wp2
          repeat (go_quiet (fail); try go_wp2)
          go_ret
          exact ⟨by first | rfl | (simp; done) | (simp [*]; done), by repeat (first | exact Drawn0.refl _ | apply Drawn0.step)⟩
  · rw [if_neg c3] at H
    have c3b0 : ((l0.length : Int) == (l1.length : Int)) = false := beq_eq_false_iff_ne.mpr c3
    have c3b1 : ((l0.length : Int) != (l1.length : Int)) = true := bne_iff_ne.mpr c3
    have c3b2 : (l0.length == l1.length) = false := by first | simpa using c3 | (simp at c3 ⊢; omega)
    obtain rfl := Option.some.inj H
    go_enter Try.func24, Try.ntmps24
    go_wp2
    repeat (go_quiet (fail); try go_wp2)
    go_ret
    exact ⟨by first | rfl | (simp; done) | (simp [*]; done), by repeat (first | exact Drawn0.refl _ | apply Drawn0.step)⟩

/-! ### laws_FnPutOID: function 4 -/
def laws_FnPutOID.j0 : Nat → List Int → Bool → Option (Bool)
  | 0, _, _ => none
  | k + 1, x0, x3 => (impl_PutOID.f k x0).bind fun bt207 => (if (bt207.2 != x3) = true then (some false) else ((impl_PutOID.f k (([1, 2, 3] : List Int))).bind fun bt214 => (if x3 = true then ((impl_ReadOID.f k bt207.1).bind fun bt218 => ((spec_PutIdentifier.f k x0).bind fun t222 => ((bytes_Equal.f bt207.1 t222).bind fun t225 => (if t225 = true then (if bt218.2 = true then ((slices_Equal_int_int.f k bt218.1 x0).bind fun t226 => (if t226 = true then (some bt214.2) else (some false))) else (some false)) else (some false))))) else (some bt214.2))))
def laws_FnPutOID.f (k : Nat) (l0 : List Int) : Option (Bool) := if (l0.length : Int) > 2147483647 then (some true) else ((laws_numbers.f k l0).bind fun t203 => (if t203 = true then (if 0 < (l0.length : Int) then (if (rd l0 0) = 2 then (laws_FnPutOID.j0 k l0 true) else (if (rd l0 0) < 2 then (if 1 < (l0.length : Int) then (laws_FnPutOID.j0 k l0 (decide ((rd l0 1) < 40))) else (none)) else (laws_FnPutOID.j0 k l0 false))) else (none)) else (some true)))
theorem laws_FnPutOID.mono_l : ∀ k, (∀ y0 y1, LeO (laws_FnPutOID.j0 k y0 y1) (laws_FnPutOID.j0 (k + 1) y0 y1))
  | 0 => fun _ _ r h => by simp [laws_FnPutOID.j0] at h
  | k + 1 => by
    have ih0 := laws_FnPutOID.mono_l k
    · intro y0 y1
      unfold laws_FnPutOID.j0
      repeat' first
      | (with_reducible exact ih0 _ _)
      | (with_reducible exact impl_PutOID.mono _ _)
      | (with_reducible exact impl_ReadOID.mono _ _)
      | (with_reducible exact laws_numbers.mono _ _)
      | (with_reducible exact slices_Equal_int_int.mono _ _ _)
      | (with_reducible exact spec_PutIdentifier.mono _ _)
      | (with_reducible exact LeO.refl _)
      | (with_reducible exact LeO.none _)
      | (with_reducible refine LeO.ite ?_ ?_)
      | (with_reducible refine LeO.bind ?_ (fun _ => ?_))
      | exact ih0 _ _
      | exact impl_PutOID.mono _ _
      | exact impl_ReadOID.mono _ _
      | exact laws_numbers.mono _ _
      | exact slices_Equal_int_int.mono _ _ _
      | exact spec_PutIdentifier.mono _ _
      | exact LeO.none _
      | refine LeO.ite ?_ ?_
      | refine LeO.bind ?_ (fun _ => ?_)
theorem laws_FnPutOID.mono : ∀ a0 k, LeO (laws_FnPutOID.f k a0) (laws_FnPutOID.f (k + 1) a0) := by
  intro a0 k
  have ih0 := laws_FnPutOID.mono_l k
  unfold laws_FnPutOID.f
  repeat' first
      | (with_reducible exact ih0 _ _)
      | (with_reducible exact impl_PutOID.mono _ _)
      | (with_reducible exact impl_ReadOID.mono _ _)
      | (with_reducible exact laws_numbers.mono _ _)
      | (with_reducible exact slices_Equal_int_int.mono _ _ _)
      | (with_reducible exact spec_PutIdentifier.mono _ _)
      | (with_reducible exact LeO.refl _)
      | (with_reducible exact LeO.none _)
      | (with_reducible refine LeO.ite ?_ ?_)
      | (with_reducible refine LeO.bind ?_ (fun _ => ?_))
      | exact ih0 _ _
      | exact impl_PutOID.mono _ _
      | exact impl_ReadOID.mono _ _
      | exact laws_numbers.mono _ _
      | exact slices_Equal_int_int.mono _ _ _
      | exact spec_PutIdentifier.mono _ _
      | exact LeO.none _
      | refine LeO.ite ?_ ?_
      | refine LeO.bind ?_ (fun _ => ?_)
set_option maxHeartbeats 8000000 in
set_option maxRecDepth 100000 in
theorem laws_FnPutOID.calls (k : Nat) (A0 : Option Addr) (c0 : Nat) (l0 : List Int) (r : Bool) (w : World) (hr0 : Kd.C (Kd.int .i64) w A0 l0.length l0) (hc0 : l0.length ≤ c0) (h : laws_FnPutOID.f k l0 = some r) (hrt : r = true) :
    Calls Try.prog 4 #[.slice A0 l0.length c0] w fun e w' => e = .returned (.bool r) ∧ Below w.heap.size w w' := by
  have HR0 := Aside0.mk hr0
  have HC0 := Aside0.mk hc0
  clear hr0 hc0
  have HB := Aside0.mk (Below.refl w.heap.size w)
  have HRT := Aside0.mk hrt
  clear hrt
  have H : (if (l0.length : Int) > 2147483647 then (some true) else ((laws_numbers.f k l0).bind fun t203 => (if t203 = true then (if 0 < (l0.length : Int) then (if (rd l0 0) = 2 then (laws_FnPutOID.j0 k l0 true) else (if (rd l0 0) < 2 then (if 1 < (l0.length : Int) then (laws_FnPutOID.j0 k l0 (decide ((rd l0 1) < 40))) else (none)) else (laws_FnPutOID.j0 k l0 false))) else (none)) else (some true)))) = some r := h
  clear h
  by_cases c2 : (l0.length : Int) > 2147483647
  · rw [if_pos c2] at H
    have c2b0 : decide (2147483647 < (l0.length : Int)) = true := decide_eq_true c2
    have c2b1 : decide (2147483647 < l0.length) = true := decide_eq_true (by omega)
    clear c2
    obtain rfl := Option.some.inj H
    go_enter Try.func4, Try.ntmps4
    go_wp2
    go_ret
    exact ⟨by first | rfl | (simp [errW_none, errW_some] <;> rfl) | (simp [*, errW_none, errW_some] <;> rfl), by repeat (first | (with_reducible first | exact HB.out | apply below_alloc | apply pw_below_drewN | apply below_drew1) | exact HB.out)⟩
  · rw [if_neg c2] at H
    have c2b0 : decide (2147483647 < (l0.length : Int)) = false := decide_eq_false c2
    have c2b1 : decide (2147483647 < l0.length) = false := decide_eq_false (by omega)
    clear c2
    replace H := Option.bind_eq_some_iff.mp H
    obtain ⟨t203, A30, H⟩ := H
    replace H : (if t203 = true then (if 0 < (l0.length : Int) then (if (rd l0 0) = 2 then (laws_FnPutOID.j0 k l0 true) else (if (rd l0 0) < 2 then (if 1 < (l0.length : Int) then (laws_FnPutOID.j0 k l0 (decide ((rd l0 1) < 40))) else (none)) else (laws_FnPutOID.j0 k l0 false))) else (none)) else (some true)) = some r := H
    have A3 := Aside0.mk A30
    clear A30
    by_cases c4 : t203 = true
    · subst c4
      have H1 : (if 0 < (l0.length : Int) then (if (rd l0 0) = 2 then (laws_FnPutOID.j0 k l0 true) else (if (rd l0 0) < 2 then (if 1 < (l0.length : Int) then (laws_FnPutOID.j0 k l0 (decide ((rd l0 1) < 40))) else (none)) else (laws_FnPutOID.j0 k l0 false))) else (none)) = some r := by rw [if_pos rfl] at H; exact H
      clear H
      have H := H1
      clear H1
      have HC5 := Aside0.mk H
      clear H
      go_enter Try.func4, Try.ntmps4
      go_upto_region 5 with (first | ((with_reducible refine gate_callee (f := 20) rfl ?_); refine goesL_ (some 14) rfl rfl Try.func20 (by kernel_rfl) rfl #[.slice A0 l0.length c0] rfl (by (try simp only [List.map_toArray, List.map_cons, List.map_nil]); first | done | rfl | (simp only [List.length_drop, List.length_take]; rfl)) ?_; (with_reducible refine (laws_numbers.calls k _ _ l0 true _ ?side1 ?side2 A3.out).mono ?_); (case side1 => repeat (first | exact HR0.out | (with_reducible refine Kd.C_alloc ?_ _) | (with_reducible refine Kd.C_drewN ?_ _) | (with_reducible refine Kd.C_drew ?_))); (case side2 => exact HC0.out); rintro e w' ⟨rfl, ⟨nd, rfl⟩⟩; refine ⟨_, rfl, ?_⟩))
      (try simp only [Act.put, List.setIfInBounds_toArray, List.set_cons_zero, List.set_cons_succ])
      go_cut [3] (fun v3 wc => ∃ (kq : Nat) (x3_4 : Bool), v3 = .bool x3_4 ∧ Aside0 (laws_FnPutOID.j0 kq l0 x3_4 = some r) ∧ Aside0 (kq ≤ k) ∧ Aside0 (Below w.heap.size w wc))
      case first =>
        have H := HC5.out
        clear HC5
        by_cases c6 : 0 < (l0.length : Int)
        · rw [if_pos c6] at H
          have c6b0 : decide (0 < (l0.length : Int)) = true := decide_eq_true c6
          have c6b1 : decide (0 < l0.length) = true := decide_eq_true (by omega)
          clear c6
          (first | rw [c6b0] | (simp only [i64_w, i32_w]; rw [c6b0]) | skip)
          by_cases c7 : (rd l0 0) = 2
          · rw [if_pos c7] at H
            have c7b0 : ((rd l0 0) == 2) = true := beq_iff_eq.mpr c7
            have c7b1 : ((rd l0 0) != 2) = false := bne_eq_false_iff_eq.mpr c7
            clear c7
            have H' := Aside0.mk H
            clear H
            have p204 : 0 ≤ (0 : Int) := (by omega)
            have q204 : 0 < (l0.length : Int) := of_decide_eq_true (by first | (with_reducible assumption) | assumption)
            obtain ⟨ad204, e204, hx204_0⟩ := Kd.at_int HR0.out 0 p204 q204
            cases e204
            have qi204 : (0 < l0.length) = True := eq_true (by omega)
            (try rw [show ((0 : Int)).toNat = 0 from rfl] at hx204_0)
            (try rw [Addr.add_zero'] at hx204_0)
            replace hx204_0 := (HB.out.cell (World.block_lt_of_cell? w _ hx204_0)).trans hx204_0
            replace p204 := eq_true p204
            replace q204 := eq_true q204
            go_wp2
            go_meet
            case rel => exact ⟨_, (true), (by first | rfl | (simp; done) | (simp [*]; done)), H', ⟨by first | omega | exact Nat.le_refl _⟩, ⟨by repeat (first | (with_reducible first | exact HB.out | apply below_alloc | apply pw_below_drewN | apply below_drew1) | exact HB.out)⟩⟩
          · rw [if_neg c7] at H
            have c7b0 : ((rd l0 0) == 2) = false := beq_eq_false_iff_ne.mpr c7
            have c7b1 : ((rd l0 0) != 2) = true := bne_iff_ne.mpr c7
            by_cases c8 : (rd l0 0) < 2
            · rw [if_pos c8] at H
              have c8b0 : decide ((rd l0 0) < 2) = true := decide_eq_true c8
              clear c8
              by_cases c9 : 1 < (l0.length : Int)
              · rw [if_pos c9] at H
                have c9b0 : decide (1 < (l0.length : Int)) = true := decide_eq_true c9
                have c9b1 : decide (1 < l0.length) = true := decide_eq_true (by omega)
                clear c9
                have H' := Aside0.mk H
                clear H
                have p204 : 0 ≤ (0 : Int) := (by omega)
                have q204 : 0 < (l0.length : Int) := of_decide_eq_true (by first | (with_reducible assumption) | assumption)
                obtain ⟨ad204, e204, hx204_0⟩ := Kd.at_int HR0.out 0 p204 q204
                cases e204
                have qi204 : (0 < l0.length) = True := eq_true (by omega)
                (try rw [show ((0 : Int)).toNat = 0 from rfl] at hx204_0)
                (try rw [Addr.add_zero'] at hx204_0)
                replace hx204_0 := (HB.out.cell (World.block_lt_of_cell? w _ hx204_0)).trans hx204_0
                replace p204 := eq_true p204
                replace q204 := eq_true q204
                have p205 : 0 ≤ (0 : Int) := (by omega)
                have q205 : 0 < (l0.length : Int) := of_decide_eq_true (by first | (with_reducible assumption) | assumption)
                obtain ⟨ad205, e205, hx205_0⟩ := Kd.at_int HR0.out 0 p205 q205
                obtain rfl : ad204 = ad205 := (by injection e205)
                have qi205 : (0 < l0.length) = True := eq_true (by omega)
                (try rw [show ((0 : Int)).toNat = 0 from rfl] at hx205_0)
                (try rw [Addr.add_zero'] at hx205_0)
                replace hx205_0 := (HB.out.cell (World.block_lt_of_cell? w _ hx205_0)).trans hx205_0
                replace p205 := eq_true p205
                replace q205 := eq_true q205
                have p206 : 0 ≤ (1 : Int) := (by omega)
                have q206 : 1 < (l0.length : Int) := of_decide_eq_true (by first | (with_reducible assumption) | assumption)
                obtain ⟨ad206, e206, hx206_0⟩ := Kd.at_int HR0.out 1 p206 q206
                obtain rfl : ad204 = ad206 := (by injection e206)
                (try simp only [show (1 : Int).toNat = 1 from rfl, Nat.reduceMul, Nat.reduceEqDiff, Go.Addr.add, ↓reduceIte] at hx206_0)
                have qi206 : (1 < l0.length) = True := eq_true (by omega)
                (try rw [show ((1 : Int)).toNat = 1 from rfl] at hx206_0)
                replace hx206_0 := (HB.out.cell (World.block_lt_of_cell? w _ hx206_0)).trans hx206_0
                replace p206 := eq_true p206
                replace q206 := eq_true q206
                go_wp2
                go_meet
                case rel => exact ⟨_, (decide ((rd l0 1) < 40)), (by first | rfl | (simp; done) | (simp [*]; done)), H', ⟨by first | omega | exact Nat.le_refl _⟩, ⟨by repeat (first | (with_reducible first | exact HB.out | apply below_alloc | apply pw_below_drewN | apply below_drew1) | exact HB.out)⟩⟩
              · rw [if_neg c9] at H
                exact absurd H (by simp)
            · rw [if_neg c8] at H
              have c8b0 : decide ((rd l0 0) < 2) = false := decide_eq_false c8
              clear c8
              have H' := Aside0.mk H
              clear H
              have p204 : 0 ≤ (0 : Int) := (by omega)
              have q204 : 0 < (l0.length : Int) := of_decide_eq_true (by first | (with_reducible assumption) | assumption)
              obtain ⟨ad204, e204, hx204_0⟩ := Kd.at_int HR0.out 0 p204 q204
              cases e204
              have qi204 : (0 < l0.length) = True := eq_true (by omega)
              (try rw [show ((0 : Int)).toNat = 0 from rfl] at hx204_0)
              (try rw [Addr.add_zero'] at hx204_0)
              replace hx204_0 := (HB.out.cell (World.block_lt_of_cell? w _ hx204_0)).trans hx204_0
              replace p204 := eq_true p204
              replace q204 := eq_true q204
              have p205 : 0 ≤ (0 : Int) := (by omega)
              have q205 : 0 < (l0.length : Int) := of_decide_eq_true (by first | (with_reducible assumption) | assumption)
              obtain ⟨ad205, e205, hx205_0⟩ := Kd.at_int HR0.out 0 p205 q205
              obtain rfl : ad204 = ad205 := (by injection e205)
              have qi205 : (0 < l0.length) = True := eq_true (by omega)
              (try rw [show ((0 : Int)).toNat = 0 from rfl] at hx205_0)
              (try rw [Addr.add_zero'] at hx205_0)
              replace hx205_0 := (HB.out.cell (World.block_lt_of_cell? w _ hx205_0)).trans hx205_0
              replace p205 := eq_true p205
              replace q205 := eq_true q205
              go_wp2
              go_meet
              case rel => exact ⟨_, (false), (by first | rfl | (simp; done) | (simp [*]; done)), H', ⟨by first | omega | exact Nat.le_refl _⟩, ⟨by repeat (first | (with_reducible first | exact HB.out | apply below_alloc | apply pw_below_drewN | apply below_drew1) | exact HB.out)⟩⟩
        · rw [if_neg c6] at H
          exact absurd H (by simp)
      case rest =>
        clear HC5
        try clear c2
        try clear c2b0
        try clear c2b1
        try clear p2
        try clear q2
        try clear hx2
        try clear qi2
        try clear c4
        try clear c6
        try clear c6b0
        try clear c6b1
        try clear c7
        try clear c7b0
        try clear c7b1
        try clear c8
        try clear c8b0
        try clear c9
        try clear c9b0
        try clear c9b1
        try clear hx204_0
        try clear hx205_0
        try clear hx206_0
        try clear p204
        try clear p205
        try clear p206
        try clear q204
        try clear q205
        try clear q206
        obtain ⟨kq, x3_4, rfl, HA, HJ4, HB⟩ := hcut
        cases kq with
        | zero => exact absurd HA.out (by simp [laws_FnPutOID.j0])
        | succ kj4 =>
          have H := HA.out
          clear HA
          simp only [laws_FnPutOID.j0] at H
          replace H := Option.bind_eq_some_iff.mp H
          obtain ⟨⟨t207, t208⟩, A100, H⟩ := H
          replace H : (if (t208 != x3_4) = true then (some false) else ((impl_PutOID.f kj4 (([1, 2, 3] : List Int))).bind fun bt214 => (if x3_4 = true then ((impl_ReadOID.f kj4 t207).bind fun bt218 => ((spec_PutIdentifier.f kj4 l0).bind fun t222 => ((bytes_Equal.f t207 t222).bind fun t225 => (if t225 = true then (if bt218.2 = true then ((slices_Equal_int_int.f kj4 bt218.1 l0).bind fun t226 => (if t226 = true then (some bt214.2) else (some false))) else (some false)) else (some false))))) else (some bt214.2)))) = some r := H
          have A10 := Aside0.mk A100
          clear A100
          by_cases c11 : (t208 != x3_4) = true
          · rw [if_pos c11] at H
            have c11b0 : (t208 != x3_4) = true := c11
            (try (have c11b1 : t208 = !(x3_4) := bool_ne_of _ _ (by simpa using c11)))
            (try (have c11b2 : decide (t208 = x3_4) = false := by simpa using c11))
            (try (have c11b3 : (t208 == x3_4) = false := by simpa using c11))
            (try (have c11b4 : ¬ (t208 = x3_4) := by simpa using c11))
            clear c11
            exact absurd (Option.some.inj H) (by rw [HRT.out]; simp)
          · rw [if_neg c11] at H
            have c11b0 : (t208 != x3_4) = false := by simpa using c11
            (try (have c11b1 : t208 = x3_4 := bool_eq_of _ _ (by simpa using c11)))
            (try (have c11b2 : decide (t208 = x3_4) = true := by simpa using c11))
            (try (have c11b3 : (t208 == x3_4) = true := by simpa using c11))
            clear c11
            obtain ⟨y211, hy211⟩ : ∃ y_ : List Int, y_ = (([1, 2, 3] : List Int)) := ⟨_, rfl⟩
            replace H : ((impl_PutOID.f kj4 y211).bind fun bt214 => (if x3_4 = true then ((impl_ReadOID.f kj4 t207).bind fun bt218 => ((spec_PutIdentifier.f kj4 l0).bind fun t222 => ((bytes_Equal.f t207 t222).bind fun t225 => (if t225 = true then (if bt218.2 = true then ((slices_Equal_int_int.f kj4 bt218.1 l0).bind fun t226 => (if t226 = true then (some bt214.2) else (some false))) else (some false)) else (some false))))) else (some bt214.2))) = some r := by first | (rw [hy211]; with_reducible exact H) | (have H2_ := (Option.bind_some _ _).symm.trans H; rw [hy211]; with_reducible exact H2_) | (have H2_ := (Option.bind_some _ _).symm.trans H; with_reducible exact H2_) | with_reducible exact H | (rw [hy211]; exact H) | exact H
            have Ny211 := Aside0.mk hy211
            clear hy211
            replace H := Option.bind_eq_some_iff.mp H
            obtain ⟨⟨t214, t215⟩, A120, H⟩ := H
            replace H : (if x3_4 = true then ((impl_ReadOID.f kj4 t207).bind fun bt218 => ((spec_PutIdentifier.f kj4 l0).bind fun t222 => ((bytes_Equal.f t207 t222).bind fun t225 => (if t225 = true then (if bt218.2 = true then ((slices_Equal_int_int.f kj4 bt218.1 l0).bind fun t226 => (if t226 = true then (some t215) else (some false))) else (some false)) else (some false))))) else (some t215)) = some r := H
            have A12 := Aside0.mk A120
            clear A120
            by_cases c13 : x3_4 = true
            · subst c13
              have H1 : ((impl_ReadOID.f kj4 t207).bind fun bt218 => ((spec_PutIdentifier.f kj4 l0).bind fun t222 => ((bytes_Equal.f t207 t222).bind fun t225 => (if t225 = true then (if bt218.2 = true then ((slices_Equal_int_int.f kj4 bt218.1 l0).bind fun t226 => (if t226 = true then (some t215) else (some false))) else (some false)) else (some false))))) = some r := by rw [if_pos rfl] at H; exact H
              clear H
              have H := H1
              clear H1
              replace H := Option.bind_eq_some_iff.mp H
              obtain ⟨⟨t218, t219⟩, A140, H⟩ := H
              replace H : ((spec_PutIdentifier.f kj4 l0).bind fun t222 => ((bytes_Equal.f t207 t222).bind fun t225 => (if t225 = true then (if t219 = true then ((slices_Equal_int_int.f kj4 t218 l0).bind fun t226 => (if t226 = true then (some t215) else (some false))) else (some false)) else (some false)))) = some r := H
              have A14 := Aside0.mk A140
              clear A140
              replace H := Option.bind_eq_some_iff.mp H
              obtain ⟨t222, A150, H⟩ := H
              replace H : ((bytes_Equal.f t207 t222).bind fun t225 => (if t225 = true then (if t219 = true then ((slices_Equal_int_int.f kj4 t218 l0).bind fun t226 => (if t226 = true then (some t215) else (some false))) else (some false)) else (some false))) = some r := H
              have A15 := Aside0.mk A150
              clear A150
              replace H := Option.bind_eq_some_iff.mp H
              obtain ⟨t225, A160, H⟩ := H
              replace H : (if t225 = true then (if t219 = true then ((slices_Equal_int_int.f kj4 t218 l0).bind fun t226 => (if t226 = true then (some t215) else (some false))) else (some false)) else (some false)) = some r := H
              have A16 := Aside0.mk A160
              clear A160
              by_cases c17 : t225 = true
              · subst c17
                have H1 : (if t219 = true then ((slices_Equal_int_int.f kj4 t218 l0).bind fun t226 => (if t226 = true then (some t215) else (some false))) else (some false)) = some r := by rw [if_pos rfl] at H; exact H
                clear H
                have H := H1
                clear H1
                by_cases c18 : t219 = true
                · subst c18
                  have H1 : ((slices_Equal_int_int.f kj4 t218 l0).bind fun t226 => (if t226 = true then (some t215) else (some false))) = some r := by rw [if_pos rfl] at H; exact H
                  clear H
                  have H := H1
                  clear H1
                  replace H := Option.bind_eq_some_iff.mp H
                  obtain ⟨t226, A190, H⟩ := H
                  replace H : (if t226 = true then (some t215) else (some false)) = some r := H
                  have A19 := Aside0.mk A190
                  clear A190
                  by_cases c20 : t226 = true
                  · subst c20
                    have H1 : (some t215) = some r := by rw [if_pos rfl] at H; exact H
                    clear H
                    have H := H1
                    clear H1
                    obtain rfl := Option.some.inj H
                    go_wp2_with (first | ((with_reducible refine gate_callee (f := 21) rfl ?_); refine goesL_ (some 34) rfl rfl Try.func21 (by kernel_rfl) rfl #[.slice A0 l0.length c0] rfl (by (try simp only [List.map_toArray, List.map_cons, List.map_nil]); first | done | rfl | (simp only [List.length_drop, List.length_take]; rfl)) ?_; (with_reducible refine (impl_PutOID.calls kj4 _ _ l0 t207 t208 _ ?side1 ?side2 A10.out).mono ?_); (case side1 => repeat (first | exact (Kd.C_below HR0.out HB.out) | (with_reducible refine Kd.C_alloc ?_ _) | (with_reducible refine Kd.C_drewN ?_ _) | (with_reducible refine Kd.C_drew ?_))); (case side2 => exact HC0.out); rintro e w21 ⟨v209, rfl, ho0, hb⟩; refine ⟨_, rfl, ?_⟩; have n0_ := Aside0.mk (Kd.R_lower ho0 (below_size (by repeat (first | (with_reducible first | exact HB.out | apply below_alloc | apply pw_below_drewN | apply below_drew1) | exact HB.out)))); have n1_ := Aside0.mk (below_step (by repeat (first | (with_reducible first | exact HB.out | apply below_alloc | apply pw_below_drewN | apply below_drew1) | exact HB.out)) hb); clear HB; have HO210 := n0_; have HB := n1_; clear n0_ n1_; (try clear hb); (try clear hb2); (try clear hk); (try clear hi); (try clear ho0)) | ((with_reducible refine gate_dst (N := 41) rfl ?_); refine Kd.R_lit (Kd.int .i64) _ 3 ?hg (N := 41) ?hd (xs := ([1, 2, 3] : List Int)) (inner := [.int .i64 1, .int .i64 2, .int .i64 3]) (ok := fun _ => True) (okp := fun _ => True) ?hr ?hp (fun _ hk => hk) trivial (Below.refl _ _) (Nat.le_refl _) (by simp) ?_; (case hd => rfl); (case hg => rfl); (case hr => first | (go_simp; done) | (go_simp; rfl)); (case hp => exact (Reps.one (show Kd.M (Kd.int .i64) _ _ _ 1 [.int .i64 1] from rfl) (Reps.one (show Kd.M (Kd.int .i64) _ _ _ 2 [.int .i64 2] from rfl) (Reps.one (show Kd.M (Kd.int .i64) _ _ _ 3 [.int .i64 3] from rfl) (Reps.none _ _))))); intro v212 w22 ho23 hb hg_ hnew_; clear hg_ hnew_; (first | rw [← Ny211.out] at ho23 | (simp only [Int.reduceToNat] at ho23; rw [← Ny211.out] at ho23)); have n0_ := Aside0.mk (Kd.R_below (by (with_reducible repeat (first | apply Kd.R_alloc | apply Kd.R_drewN | apply Kd.R_drew)); exact HO210.out) hb); have n1_ := Aside0.mk (Kd.R_lower ho23 (below_size (by repeat (first | (with_reducible first | exact HB.out | apply below_alloc | apply pw_below_drewN | apply below_drew1) | exact HB.out)))); have n2_ := Aside0.mk (below_step (by repeat (first | (with_reducible first | exact HB.out | apply below_alloc | apply pw_below_drewN | apply below_drew1) | exact HB.out)) hb); clear HO210; clear HB; have HO210 := n0_; have HO213 := n1_; have HB := n2_; clear n0_ n1_ n2_; clear hb ho23; obtain ⟨Ao24, co24, eo24⟩ := Kd.R_slice HO213.out; subst eo24) | ((with_reducible refine gate_callee (f := 21) rfl ?_); refine goesL_ (some 42) rfl rfl Try.func21 (by kernel_rfl) rfl #[.slice Ao24 y211.length co24] rfl (by (try simp only [List.map_toArray, List.map_cons, List.map_nil]); first | done | rfl | (simp only [List.length_drop, List.length_take]; rfl)) ?_; (with_reducible refine (impl_PutOID.calls kj4 _ _ y211 t214 t215 _ ?side1 ?side2 A12.out).mono ?_); (case side1 => repeat (first | exact (Kd.R_reads' HO213.out).2.2 | (with_reducible refine Kd.C_alloc ?_ _) | (with_reducible refine Kd.C_drewN ?_ _) | (with_reducible refine Kd.C_drew ?_))); (case side2 => exact (Kd.R_reads' HO213.out).2.1); rintro e w25 ⟨v216, rfl, ho0, hb⟩; refine ⟨_, rfl, ?_⟩; have n0_ := Aside0.mk (Kd.R_elder' (by (with_reducible repeat (first | apply Kd.R_alloc | apply Kd.R_drewN | apply Kd.R_drew)); exact HO210.out) (Kd.R_base ho0) hb); have n1_ := Aside0.mk (Kd.R_below (by (with_reducible repeat (first | apply Kd.R_alloc | apply Kd.R_drewN | apply Kd.R_drew)); exact HO213.out) hb); have n2_ := Aside0.mk (Kd.R_lower (Kd.R_new' ho0 (Kd.R_lt (by (with_reducible repeat (first | apply Kd.R_alloc | apply Kd.R_drewN | apply Kd.R_drew)); exact HO210.out))) (below_size (by repeat (first | (with_reducible first | exact HB.out | apply below_alloc | apply pw_below_drewN | apply below_drew1) | exact HB.out)))); have n3_ := Aside0.mk (below_step (by repeat (first | (with_reducible first | exact HB.out | apply below_alloc | apply pw_below_drewN | apply below_drew1) | exact HB.out)) hb); clear HO210; clear HO213; clear HB; have HO210 := n0_; have HO213 := n1_; have HO217 := n2_; have HB := n3_; clear n0_ n1_ n2_ n3_; (try clear hb); (try clear hb2); (try clear hk); (try clear hi); (try clear ho0); obtain ⟨Ao26, co26, eo26⟩ := Kd.R_slice HO210.out; subst eo26) | ((with_reducible refine gate_callee (f := 22) rfl ?_); refine goesL_ (some 50) rfl rfl Try.func22 (by kernel_rfl) rfl #[.slice Ao26 t207.length co26] rfl (by (try simp only [List.map_toArray, List.map_cons, List.map_nil]); first | done | rfl | (simp only [List.length_drop, List.length_take]; rfl)) ?_; (with_reducible refine (impl_ReadOID.calls kj4 _ _ t207 t218 true _ ?side1 ?side2 A14.out).mono ?_); (case side1 => repeat (first | exact (Kd.R_reads' HO210.out).2.2 | (with_reducible refine Kd.C_alloc ?_ _) | (with_reducible refine Kd.C_drewN ?_ _) | (with_reducible refine Kd.C_drew ?_))); (case side2 => exact (Kd.R_reads' HO210.out).2.1); rintro e w27 ⟨v220, rfl, ho0, hb⟩; refine ⟨_, rfl, ?_⟩; have n0_ := Aside0.mk (Kd.R_below (by (with_reducible repeat (first | apply Kd.R_alloc | apply Kd.R_drewN | apply Kd.R_drew)); exact HO210.out) hb); have n1_ := Aside0.mk (Kd.R_elder' (by (with_reducible repeat (first | apply Kd.R_alloc | apply Kd.R_drewN | apply Kd.R_drew)); exact HO213.out) (Kd.R_base ho0) hb); have n2_ := Aside0.mk (Kd.R_below (by (with_reducible repeat (first | apply Kd.R_alloc | apply Kd.R_drewN | apply Kd.R_drew)); exact HO217.out) hb); have n3_ := Aside0.mk (Kd.R_lower (Kd.R_new' ho0 (Kd.R_lt (by (with_reducible repeat (first | apply Kd.R_alloc | apply Kd.R_drewN | apply Kd.R_drew)); exact HO213.out))) (below_size (by repeat (first | (with_reducible first | exact HB.out | apply below_alloc | apply pw_below_drewN | apply below_drew1) | exact HB.out)))); have n4_ := Aside0.mk (below_step (by repeat (first | (with_reducible first | exact HB.out | apply below_alloc | apply pw_below_drewN | apply below_drew1) | exact HB.out)) hb); clear HO210; clear HO213; clear HO217; clear HB; have HO210 := n0_; have HO213 := n1_; have HO217 := n2_; have HO221 := n3_; have HB := n4_; clear n0_ n1_ n2_ n3_ n4_; (try clear hb); (try clear hb2); (try clear hk); (try clear hi); (try clear ho0)) | ((with_reducible refine gate_callee (f := 23) rfl ?_); refine goesL_ (some 55) rfl rfl Try.func23 (by kernel_rfl) rfl #[.slice A0 l0.length c0] rfl (by (try simp only [List.map_toArray, List.map_cons, List.map_nil]); first | done | rfl | (simp only [List.length_drop, List.length_take]; rfl)) ?_; (with_reducible refine (spec_PutIdentifier.calls kj4 _ _ l0 t222 _ ?side1 ?side2 A15.out).mono ?_); (case side1 => repeat (first | exact (Kd.C_below HR0.out HB.out) | (with_reducible refine Kd.C_alloc ?_ _) | (with_reducible refine Kd.C_drewN ?_ _) | (with_reducible refine Kd.C_drew ?_))); (case side2 => exact HC0.out); rintro e w28 ⟨v223, rfl, ho0, hb⟩; refine ⟨_, rfl, ?_⟩; have n0_ := Aside0.mk (Kd.R_elder' (by (with_reducible repeat (first | apply Kd.R_alloc | apply Kd.R_drewN | apply Kd.R_drew)); exact HO210.out) (Kd.R_base ho0) hb); have n1_ := Aside0.mk (Kd.R_below (by (with_reducible repeat (first | apply Kd.R_alloc | apply Kd.R_drewN | apply Kd.R_drew)); exact HO213.out) hb); have n2_ := Aside0.mk (Kd.R_elder' (by (with_reducible repeat (first | apply Kd.R_alloc | apply Kd.R_drewN | apply Kd.R_drew)); exact HO217.out) (Kd.R_base ho0) hb); have n3_ := Aside0.mk (Kd.R_below (by (with_reducible repeat (first | apply Kd.R_alloc | apply Kd.R_drewN | apply Kd.R_drew)); exact HO221.out) hb); have n4_ := Aside0.mk (Kd.R_lower (Kd.R_new' (Kd.R_new' ho0 (Kd.R_lt (by (with_reducible repeat (first | apply Kd.R_alloc | apply Kd.R_drewN | apply Kd.R_drew)); exact HO210.out))) (Kd.R_lt (by (with_reducible repeat (first | apply Kd.R_alloc | apply Kd.R_drewN | apply Kd.R_drew)); exact HO217.out))) (below_size (by repeat (first | (with_reducible first | exact HB.out | apply below_alloc | apply pw_below_drewN | apply below_drew1) | exact HB.out)))); have n5_ := Aside0.mk (below_step (by repeat (first | (with_reducible first | exact HB.out | apply below_alloc | apply pw_below_drewN | apply below_drew1) | exact HB.out)) hb); clear HO210; clear HO213; clear HO217; clear HO221; clear HB; have HO210 := n0_; have HO213 := n1_; have HO217 := n2_; have HO221 := n3_; have HO224 := n4_; have HB := n5_; clear n0_ n1_ n2_ n3_ n4_ n5_; (try clear hb); (try clear hb2); (try clear hk); (try clear hi); (try clear ho0); obtain ⟨Ao29, co29, eo29⟩ := Kd.R_slice HO224.out; subst eo29) | ((with_reducible refine gate_callee (f := 17) rfl ?_); refine goesL_ (some 56) rfl rfl Try.func17 (by kernel_rfl) rfl #[.slice Ao26 t207.length co26, .slice Ao29 t222.length co29] rfl (by (try simp only [List.map_toArray, List.map_cons, List.map_nil]); first | done | rfl | (simp only [List.length_drop, List.length_take]; rfl)) ?_; (with_reducible refine (bytes_Equal.calls _ _ t207 _ _ t222 true _ ?side1 ?side2 ?side3 ?side4 A16.out).mono ?_); (case side1 => repeat (first | exact (Kd.R_reads' HO210.out).2.2 | (with_reducible refine Kd.C_alloc ?_ _) | (with_reducible refine Kd.C_drewN ?_ _) | (with_reducible refine Kd.C_drew ?_))); (case side2 => exact (Kd.R_reads' HO210.out).2.1); (case side3 => repeat (first | exact (Kd.R_reads' HO224.out).2.2 | (with_reducible refine Kd.C_alloc ?_ _) | (with_reducible refine Kd.C_drewN ?_ _) | (with_reducible refine Kd.C_drew ?_))); (case side4 => exact (Kd.R_reads' HO224.out).2.1); rintro e w' ⟨rfl, ⟨nd, rfl⟩⟩; refine ⟨_, rfl, ?_⟩; obtain ⟨Ao30, co30, eo30⟩ := Kd.R_slice HO221.out; subst eo30) | (go_at_call 24; (with_reducible refine (slices_Equal_int_int.calls kj4 _ _ t218 _ _ l0 true _ ?side1 ?side2 ?side3 ?side4 A19.out).mono ?_); (case side1 => repeat (first | exact (Kd.R_reads' HO221.out).2.2 | (with_reducible refine Kd.C_alloc ?_ _) | (with_reducible refine Kd.C_drewN ?_ _) | (with_reducible refine Kd.C_drew ?_))); (case side2 => exact (Kd.R_reads' HO221.out).2.1); (case side3 => repeat (first | exact (Kd.C_below HR0.out (by repeat (first | (with_reducible first | exact HB.out | apply below_alloc | apply pw_below_drewN | apply below_drew1) | exact HB.out))) | (with_reducible refine Kd.C_alloc ?_ _) | (with_reducible refine Kd.C_drewN ?_ _) | (with_reducible refine Kd.C_drew ?_))); (case side4 => exact HC0.out); rintro e w' ⟨rfl, ⟨nd, rfl⟩⟩))
                    go_ret
                    exact ⟨by first | rfl | (simp [errW_none, errW_some] <;> rfl) | (simp [*, errW_none, errW_some] <;> rfl), by repeat (first | (with_reducible first | exact HB.out | apply below_alloc | apply pw_below_drewN | apply below_drew1) | exact HB.out)⟩
                  · replace c20 := Bool.eq_false_iff.mpr c20
                    subst c20
                    have H1 : (some false) = some r := by rw [if_neg (show ¬ (false = true) by decide)] at H; exact H
                    clear H
                    have H := H1
                    clear H1
                    exact absurd (Option.some.inj H) (by rw [HRT.out]; simp)
                · replace c18 := Bool.eq_false_iff.mpr c18
                  subst c18
                  have H1 : (some false) = some r := by rw [if_neg (show ¬ (false = true) by decide)] at H; exact H
                  clear H
                  have H := H1
                  clear H1
                  exact absurd (Option.some.inj H) (by rw [HRT.out]; simp)
              · replace c17 := Bool.eq_false_iff.mpr c17
                subst c17
                have H1 : (some false) = some r := by rw [if_neg (show ¬ (false = true) by decide)] at H; exact H
                clear H
                have H := H1
                clear H1
                exact absurd (Option.some.inj H) (by rw [HRT.out]; simp)
            · replace c13 := Bool.eq_false_iff.mpr c13
              subst c13
              have H1 : (some t215) = some r := by rw [if_neg (show ¬ (false = true) by decide)] at H; exact H
              clear H
              have H := H1
              clear H1
              obtain rfl := Option.some.inj H
              go_wp2_with (first | ((with_reducible refine gate_callee (f := 21) rfl ?_); refine goesL_ (some 34) rfl rfl Try.func21 (by kernel_rfl) rfl #[.slice A0 l0.length c0] rfl (by (try simp only [List.map_toArray, List.map_cons, List.map_nil]); first | done | rfl | (simp only [List.length_drop, List.length_take]; rfl)) ?_; (with_reducible refine (impl_PutOID.calls kj4 _ _ l0 t207 t208 _ ?side1 ?side2 A10.out).mono ?_); (case side1 => repeat (first | exact (Kd.C_below HR0.out HB.out) | (with_reducible refine Kd.C_alloc ?_ _) | (with_reducible refine Kd.C_drewN ?_ _) | (with_reducible refine Kd.C_drew ?_))); (case side2 => exact HC0.out); rintro e w31 ⟨v209, rfl, ho0, hb⟩; refine ⟨_, rfl, ?_⟩; have n0_ := Aside0.mk (Kd.R_lower ho0 (below_size (by repeat (first | (with_reducible first | exact HB.out | apply below_alloc | apply pw_below_drewN | apply below_drew1) | exact HB.out)))); have n1_ := Aside0.mk (below_step (by repeat (first | (with_reducible first | exact HB.out | apply below_alloc | apply pw_below_drewN | apply below_drew1) | exact HB.out)) hb); clear HB; have HO210 := n0_; have HB := n1_; clear n0_ n1_; (try clear hb); (try clear hb2); (try clear hk); (try clear hi); (try clear ho0)) | ((with_reducible refine gate_dst (N := 41) rfl ?_); refine Kd.R_lit (Kd.int .i64) _ 3 ?hg (N := 41) ?hd (xs := ([1, 2, 3] : List Int)) (inner := [.int .i64 1, .int .i64 2, .int .i64 3]) (ok := fun _ => True) (okp := fun _ => True) ?hr ?hp (fun _ hk => hk) trivial (Below.refl _ _) (Nat.le_refl _) (by simp) ?_; (case hd => rfl); (case hg => rfl); (case hr => first | (go_simp; done) | (go_simp; rfl)); (case hp => exact (Reps.one (show Kd.M (Kd.int .i64) _ _ _ 1 [.int .i64 1] from rfl) (Reps.one (show Kd.M (Kd.int .i64) _ _ _ 2 [.int .i64 2] from rfl) (Reps.one (show Kd.M (Kd.int .i64) _ _ _ 3 [.int .i64 3] from rfl) (Reps.none _ _))))); intro v212 w32 ho33 hb hg_ hnew_; clear hg_ hnew_; (first | rw [← Ny211.out] at ho33 | (simp only [Int.reduceToNat] at ho33; rw [← Ny211.out] at ho33)); have n0_ := Aside0.mk (Kd.R_below (by (with_reducible repeat (first | apply Kd.R_alloc | apply Kd.R_drewN | apply Kd.R_drew)); exact HO210.out) hb); have n1_ := Aside0.mk (Kd.R_lower ho33 (below_size (by repeat (first | (with_reducible first | exact HB.out | apply below_alloc | apply pw_below_drewN | apply below_drew1) | exact HB.out)))); have n2_ := Aside0.mk (below_step (by repeat (first | (with_reducible first | exact HB.out | apply below_alloc | apply pw_below_drewN | apply below_drew1) | exact HB.out)) hb); clear HO210; clear HB; have HO210 := n0_; have HO213 := n1_; have HB := n2_; clear n0_ n1_ n2_; clear hb ho33; obtain ⟨Ao34, co34, eo34⟩ := Kd.R_slice HO213.out; subst eo34) | ((with_reducible refine gate_callee (f := 21) rfl ?_); refine goesL_ (some 42) rfl rfl Try.func21 (by kernel_rfl) rfl #[.slice Ao34 y211.length co34] rfl (by (try simp only [List.map_toArray, List.map_cons, List.map_nil]); first | done | rfl | (simp only [List.length_drop, List.length_take]; rfl)) ?_; (with_reducible refine (impl_PutOID.calls kj4 _ _ y211 t214 t215 _ ?side1 ?side2 A12.out).mono ?_); (case side1 => repeat (first | exact (Kd.R_reads' HO213.out).2.2 | (with_reducible refine Kd.C_alloc ?_ _) | (with_reducible refine Kd.C_drewN ?_ _) | (with_reducible refine Kd.C_drew ?_))); (case side2 => exact (Kd.R_reads' HO213.out).2.1); rintro e w35 ⟨v216, rfl, ho0, hb⟩; refine ⟨_, rfl, ?_⟩; have n0_ := Aside0.mk (Kd.R_elder' (by (with_reducible repeat (first | apply Kd.R_alloc | apply Kd.R_drewN | apply Kd.R_drew)); exact HO210.out) (Kd.R_base ho0) hb); have n1_ := Aside0.mk (Kd.R_below (by (with_reducible repeat (first | apply Kd.R_alloc | apply Kd.R_drewN | apply Kd.R_drew)); exact HO213.out) hb); have n2_ := Aside0.mk (Kd.R_lower (Kd.R_new' ho0 (Kd.R_lt (by (with_reducible repeat (first | apply Kd.R_alloc | apply Kd.R_drewN | apply Kd.R_drew)); exact HO210.out))) (below_size (by repeat (first | (with_reducible first | exact HB.out | apply below_alloc | apply pw_below_drewN | apply below_drew1) | exact HB.out)))); have n3_ := Aside0.mk (below_step (by repeat (first | (with_reducible first | exact HB.out | apply below_alloc | apply pw_below_drewN | apply below_drew1) | exact HB.out)) hb); clear HO210; clear HO213; clear HB; have HO210 := n0_; have HO213 := n1_; have HO217 := n2_; have HB := n3_; clear n0_ n1_ n2_ n3_; (try clear hb); (try clear hb2); (try clear hk); (try clear hi); (try clear ho0)))
              go_ret
              exact ⟨by first | rfl | (simp [errW_none, errW_some] <;> rfl) | (simp [*, errW_none, errW_some] <;> rfl), by repeat (first | (with_reducible first | exact HB.out | apply below_alloc | apply pw_below_drewN | apply below_drew1) | exact HB.out)⟩
    · replace c4 := Bool.eq_false_iff.mpr c4
      subst c4
      have H1 : (some true) = some r := by rw [if_neg (show ¬ (false = true) by decide)] at H; exact H
      clear H
      have H := H1
      clear H1
      obtain rfl := Option.some.inj H
      go_enter Try.func4, Try.ntmps4
      go_wp2_with (first | ((with_reducible refine gate_callee (f := 20) rfl ?_); refine goesL_ (some 14) rfl rfl Try.func20 (by kernel_rfl) rfl #[.slice A0 l0.length c0] rfl (by (try simp only [List.map_toArray, List.map_cons, List.map_nil]); first | done | rfl | (simp only [List.length_drop, List.length_take]; rfl)) ?_; (with_reducible refine (laws_numbers.calls k _ _ l0 false _ ?side1 ?side2 A3.out).mono ?_); (case side1 => repeat (first | exact HR0.out | (with_reducible refine Kd.C_alloc ?_ _) | (with_reducible refine Kd.C_drewN ?_ _) | (with_reducible refine Kd.C_drew ?_))); (case side2 => exact HC0.out); rintro e w' ⟨rfl, ⟨nd, rfl⟩⟩; refine ⟨_, rfl, ?_⟩))
      go_ret
      exact ⟨by first | rfl | (simp [errW_none, errW_some] <;> rfl) | (simp [*, errW_none, errW_some] <;> rfl), by repeat (first | (with_reducible first | exact HB.out | apply below_alloc | apply pw_below_drewN | apply below_drew1) | exact HB.out)⟩

/-- THE ONE PURE STATEMENT of laws_FnPutOID: yours. -/
def laws_FnPutOID.Pure : Prop := ∀ (l0 : List Int), l0.length ≤ maxLen → l0.length * 8 ≤ 140737488351232 → (∀ x ∈ l0, (Lit.int .i64 x).wf = true) → ∃ k, laws_FnPutOID.f k l0 = some true
theorem laws_FnPutOID.walk (P : laws_FnPutOID.Pure) (a0 : Option Addr) (len0 cap0 : Nat) (z0 : List Int) (w : World) (w0 : (a0 = none ∧ len0 = 0 ∧ cap0 = 0 ∧ z0 = []) ∨ ∃ x, a0 = some x ∧ len0 ≤ cap0 ∧ cap0 ≤ maxLen ∧ z0.length = cap0 ∧ (∀ i, i < z0.length → w.cell? (x.add i) = some (.int .i64 (z0.getD i 0))) ∧ ∀ n ∈ z0, (Lit.int .i64 n).wf = true) (y0 : len0 * 8 ≤ 140737488351232) :
    Calls Try.prog 4 #[.slice a0 len0 cap0] w fun e w' => e = .returned (.bool true) ∧ Below w.heap.size w w' := by
  obtain ⟨l0, rfl, hr0, hm0, hw0, hc0⟩ := ReadsInt.ofRowC w0
  obtain ⟨k, h⟩ := P l0 hm0 y0 hw0
  refine (laws_FnPutOID.calls k _ _ l0 true w (Kd.C_of_reads (d := (0 : Int)) (h1 := fun _ => rfl) hr0) hc0 h rfl).mono ?_
  rintro e w' ⟨rfl, hd⟩
  exact ⟨rfl, hd⟩

end Go.Proofs.Ytmiemfgcggkbnaa.QP
